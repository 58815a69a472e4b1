import JvmDerived
import JvmDerived.Pilot.@@N@@Statement
import JvmDerived.Pilot.@@N@@Code
set_option linter.unusedVariables false
set_option linter.unusedSimpArgs false
namespace Jvm.Pilot.@@N@@
open Jvm Jvm.ClassFile Sem Op Lib Jvm.Free Jvm.Stand Jvm.LawKit Jvm.RoadKit Bundle Jvm.Pilot.@@N@@.Jvm.D
/-! The shared layer of these proofs (own text): a contract of one body (own_Ct), how a walk goes on and ends (own_Fin), one lemma a kind of call and of return. -/
section OwnLayer
variable {p : Program} {l : Launch} {e : Env} {R rm : Room} {s Z : State} {m : MethodId} {args as' a0 : Array Value} {below : List Frame} {meth : Method} {c : Code} {T : State} {locs : List Loc} {cells slots : Nat} {h : Heap}
  {Q : Option Value → Heap → List Loc → Prop} {y z : MethodName} {bytes : ByteArray} {maxL : Nat} {ret : Option FieldType} {own C : String} {index : Nat}
def own_Ct (l : Launch) (Z : State) (y : MethodName) (bytes : ByteArray) (maxL : Nat) (ret : Option FieldType) (rm : Room) (as' : Array Value) (h0 : Heap) (Q : Option Value → Heap → List Loc → Prop) : Prop :=
  ∀ ws : List Jvm.Cond, MetFree l y (head1 (Jvm.Cond.code y bytes maxL ret :: ws) rm) (fun a U => a = as' ∧ Z.Warmed39 U.vm ∧ U.heap = h0) (fun _ _ _ _ _ => True) (fun _ U o U' => ∃ v L, o = .returned v ∧ Q v U'.heap L ∧ FrameEnd U o U' L rm.cells rm.slots)
def own_Fin (p : Program) (e : Env) (s : State) (below : List Frame) (R : Room) (Q : Option Value → Heap → List Loc → Prop) (A : State) : Prop :=
  ∃ n o, Steps p.tables e below A n ∧ n.status = .running ∧ Ended n below o ∧ ∃ v L, o = .returned v ∧ Q v n.heap L ∧ FrameEnd s o n L R.cells R.slots
theorem own_to {A : State} (B : State) (st : ∀ t, Steps p.tables e below B t → Steps p.tables e below A t) (k : own_Fin p e s below R Q B) : own_Fin p e s below R Q A := by
  obtain ⟨n, o, h1, r⟩ := k
  exact ⟨n, o, st _ h1, r⟩
theorem own_body {h0 : Heap} (hp : plainFor y = true)
    (k : ∀ p e s m below meth c s₁, p.tables.exec = Jvm.exec → Z.Warmed39 s.vm → c.code = bytes → c.maxLocals = maxL → s.vm.findClass y.cls = some m.cls → meth.name = y.name → meth.sig.returnType = ret → meth.locks = false →
      Stand p l e rm s m as' below meth c s₁ [] 0 0 → s₁.heap = h0 → own_Fin p e s below rm Q (s₁.setTop (entryFrame m as' maxL))) : own_Ct l Z y bytes maxL ret rm as' h0 Q := by
  intro ws
  refine MetFree.of_bodySF hp hisR ?_
  intro p e s m args below meth c s₁ Bd hml0 hP hK
  obtain ⟨ha, hZ, hh⟩ := hP
  subst ha
  obtain ⟨n, o, h1, h2, h3, h4⟩ := k p e s m below meth c s₁ Bd.exec hZ Bd.bytes hml0 (findClass_of_methodNamed Bd.named) (name_of_methodNamed Bd.named Bd.method).1 Bd.returns Bd.notSynchronized (Stand.of_body Bd) (by rw [← hh, Bd.state]; rfl)
  exact ⟨n, o, h1, h2, h3, h4⟩
theorem own_retI (X : Stand p l e R s m args below meth c T locs cells slots) (hx : p.tables.exec = Jvm.exec) (hret : meth.sig.returnType = some .int) (hk : meth.locks = false) {pc : Nat} {Ls : Array Slot} {i : Int32} {rest : List Value}
    (hd : decode c.code pc = .ok (.ireturn, 1)) (hc : cells ≤ R.cells) (hs : slots ≤ R.slots) (hq : Q (some (.int i)) T.heap locs) : own_Fin p e s below R Q (T.setTop (mkF m pc Ls (.int i :: rest))) := by
  obtain ⟨fs, hr, hrun, hended, hW, hsame⟩ := X.leave (v := some (.int i)) (fun h => by rw [hret] at h; cases h) hk
  exact ⟨_, _, retOut X hx hret rfl (Or.inl ⟨rfl, Or.inl rfl, _, rfl⟩) hd hr, hrun, hended, _, _, rfl, hq, ⟨_, rfl⟩, hW, hsame.mono hc hs⟩
theorem own_retZ (X : Stand p l e R s m args below meth c T locs cells slots) (hx : p.tables.exec = Jvm.exec) (hret : meth.sig.returnType = some .boolean) (hk : meth.locks = false) {pc : Nat} {Ls : Array Slot} {i i' : Int32} {rest : List Value}
    (hd : decode c.code pc = .ok (.ireturn, 1)) (hc : cells ≤ R.cells) (hs : slots ≤ R.slots) (hi : nar .boolean i = i') (hq : Q (some (.int i')) T.heap locs) : own_Fin p e s below R Q (T.setTop (mkF m pc Ls (.int i :: rest))) := by
  subst hi
  obtain ⟨fs, hr, hrun, hended, hW, hsame⟩ := X.leave (v := some (.int (nar .boolean i))) (fun h => by rw [hret] at h; cases h) hk
  exact ⟨_, _, retN X hx (t := .boolean) hret (by simp) hd hr, hrun, hended, _, _, rfl, hq, ⟨_, rfl⟩, hW, hsame.mono hc hs⟩
theorem own_retJ (X : Stand p l e R s m args below meth c T locs cells slots) (hx : p.tables.exec = Jvm.exec) (hret : meth.sig.returnType = some .long) (hk : meth.locks = false) {pc : Nat} {Ls : Array Slot} {i : Int64} {rest : List Value}
    (hd : decode c.code pc = .ok (.lreturn, 1)) (hc : cells ≤ R.cells) (hs : slots ≤ R.slots) (hq : Q (some (.long i)) T.heap locs) : own_Fin p e s below R Q (T.setTop (mkF m pc Ls (.long i :: rest))) := by
  obtain ⟨fs, hr, hrun, hended, hW, hsame⟩ := X.leave (v := some (.long i)) (fun h => by rw [hret] at h; cases h) hk
  exact ⟨_, _, retOut X hx hret rfl (Or.inr (Or.inl ⟨rfl, rfl, _, rfl⟩)) hd hr, hrun, hended, _, _, rfl, hq, ⟨_, rfl⟩, hW, hsame.mono hc hs⟩
theorem own_retA (X : Stand p l e R s m args below meth c T locs cells slots) (hx : p.tables.exec = Jvm.exec) {t : FieldType} (hret : meth.sig.returnType = some t) (ht : t.isReference = true) (hk : meth.locks = false) {pc : Nat} {Ls : Array Slot} {v : Value} (hv : v.isRef = true) (hn : narrow t v = v) {rest : List Value}
    (hd : decode c.code pc = .ok (.areturn, 1)) (hc : cells ≤ R.cells) (hs : slots ≤ R.slots) (hq : Q (some v) T.heap locs) : own_Fin p e s below R Q (T.setTop (mkF m pc Ls (v :: rest))) := by
  obtain ⟨fs, hr, hrun, hended, hW, hsame⟩ := X.leave (v := some v) (fun h => by rw [hret] at h; cases h) hk
  exact ⟨_, _, retOut X hx hret hn (Or.inr (Or.inr (Or.inr (Or.inr ⟨rfl, ht, hv⟩)))) hd hr, hrun, hended, _, _, rfl, hq, ⟨_, rfl⟩, hW, hsame.mono hc hs⟩
theorem own_retV (X : Stand p l e R s m args below meth c T locs cells slots) (hx : p.tables.exec = Jvm.exec) (hret : meth.sig.returnType = none) (hk : meth.locks = false) {pc : Nat} {Ls : Array Slot}
    (hd : decode c.code pc = .ok (.return_, 1)) (hc : cells ≤ R.cells) (hs : slots ≤ R.slots) (hq : Q none T.heap locs) : own_Fin p e s below R Q (T.setTop (mkF m pc Ls [])) := by
  obtain ⟨fs, hr, hrun, hended, hW, hsame⟩ := X.leave (v := none) (fun _ => rfl) hk
  exact ⟨_, _, X.returnOut hx hret hd hr, hrun, hended, _, _, rfl, hq, ⟨_, rfl⟩, hW, hsame.mono hc hs⟩
theorem own_callV (X : Stand p l e R s m args below meth c T locs cells slots) (hx : p.tables.exec = Jvm.exec) (hZ : Z.Warmed39 s.vm) (hown : s.vm.findClass own = some m.cls) (w1 : (Cond.methodLink own index y).before a0 Z = true) (w2 : (Cond.declares y).before a0 Z = true)
    (w3 : (Cond.selects C y z).before a0 Z = true) (nf : NotFace s y) (w4 : (Cond.instanceMethod z).before a0 Z = true) (w5 : (Cond.code z bytes maxL ret).before a0 Z = true) (w6 : (Cond.initialized z.cls).before a0 Z = true) (hy : y.cls ≠ "java/lang/invoke/MethodHandle" ∧ y.cls ≠ "java/lang/invoke/VarHandle")
    (eT : T.heap = h) {b : Addr} (E : Exa Z h b C) {argsL rest : List Value} (ct : own_Ct l Z z bytes maxL ret rm (.ref b :: argsL).toArray h Q) (hf : rm.frames + 1 ≤ R.frames) {W : Nat} (hl : W + (maxL + 11) + rm.locals ≤ R.locals) (hc : cells + rm.cells ≤ R.cells) (hs : slots + rm.slots ≤ R.slots)
    {ps : List FieldType} {r : Option FieldType} (hpd : parseMethodDescriptor y.desc = some ⟨ps, r⟩) (hll : argsL.length = ps.length) {pc : Nat} {Ls : Array Slot} (hsz : Ls.size = c.maxLocals) (hW : (rest.map fun v => v.category).sum ≤ W) (hd : decode c.code pc = .ok (.invokevirtual index, 3)) :
    ∃ v T' L, Stand p l e R s m args below meth c T' (locs ++ L) (cells + rm.cells) (slots + rm.slots) ∧ Q v T'.heap L ∧ ∀ t, Steps p.tables e below (T'.setTop (mkF m (pc + 3) Ls (v.toList ++ rest))) t → Steps p.tables e below (T.setTop (mkF m pc Ls (argsL.reverse ++ .ref b :: rest))) t := by
  obtain ⟨cB, kB, q1, q2, q3⟩ := isOf hZ eT E
  obtain ⟨v, _, ⟨T', L', k', n'⟩, -, X', ⟨L, hQ, l1, y1, z1⟩, st⟩ := X.virtualBack hx (y := y) (z := z) hown (mvT hZ w1) (mvT hZ w2) nf (mvT hZ w3) (mvT hZ w4) hy (backOf (W := W) (ct []) hZ w5 w6 hf hl) q1 q3
    (g := mkF m pc Ls (argsL.reverse ++ .ref b :: rest)) rfl hsz (Steps.refl _) (argsL := argsL) (rest := rest) (lenOf hpd hll) rfl (by show 2 * 0 + _ ≤ _; rw [Nat.mul_zero, Nat.zero_add]; exact hW) hd (fun _ _ => ⟨rfl, eT, hc, hs⟩)
  dsimp only [Pt.U, Pt.locs, Pt.cells, Pt.slots] at X' l1 y1 z1 st hQ
  subst l1 y1 z1
  exact ⟨v, T', L, X', hQ, fun t k => st.trans k⟩
theorem own_callS (X : Stand p l e R s m args below meth c T locs cells slots) (hx : p.tables.exec = Jvm.exec) (hZ : Z.Warmed39 s.vm) (hown : s.vm.findClass own = some m.cls) (w1 : (Cond.methodLink own index y).before a0 Z = true) (w2 : (Cond.static y).before a0 Z = true)
    (w5 : (Cond.code y bytes maxL ret).before a0 Z = true) (w6 : (Cond.initialized y.cls).before a0 Z = true) (hy : y.cls ≠ "java/lang/invoke/MethodHandle" ∧ y.cls ≠ "java/lang/invoke/VarHandle")
    (eT : T.heap = h) {argsL rest : List Value} (ct : own_Ct l Z y bytes maxL ret rm argsL.toArray h Q) (hf : rm.frames + 1 ≤ R.frames) {W : Nat} (hl : W + (maxL + 11) + rm.locals ≤ R.locals) (hc : cells + rm.cells ≤ R.cells) (hs : slots + rm.slots ≤ R.slots)
    {ps : List FieldType} {r : Option FieldType} (hpd : parseMethodDescriptor y.desc = some ⟨ps, r⟩) (hll : argsL.length = ps.length) {pc : Nat} {Ls : Array Slot} (hsz : Ls.size = c.maxLocals) (hW : (rest.map fun v => v.category).sum ≤ W) (hd : decode c.code pc = .ok (.invokestatic index, 3)) :
    ∃ v T' L, Stand p l e R s m args below meth c T' (locs ++ L) (cells + rm.cells) (slots + rm.slots) ∧ Q v T'.heap L ∧ ∀ t, Steps p.tables e below (T'.setTop (mkF m (pc + 3) Ls (v.toList ++ rest))) t → Steps p.tables e below (T.setTop (mkF m pc Ls (argsL.reverse ++ rest))) t := by
  obtain ⟨v, _, ⟨T', L', k', n'⟩, -, X', ⟨L, hQ, l1, y1, z1⟩, st⟩ := Jvm.LawKit.callS X hx (y := y) hown (mvT hZ w1) (mvT hZ w2) (mvT hZ w6) (mvT hZ w5) hy (backOf (W := W) (ct []) hZ w5 w6 hf hl)
    (g := mkF m pc Ls (argsL.reverse ++ rest)) rfl hsz (argsL := argsL) (rest := rest) (lenOf hpd hll) rfl (by show 2 * 0 + _ ≤ _; rw [Nat.mul_zero, Nat.zero_add]; exact hW) hd (fun _ _ => ⟨rfl, eT, hc, hs⟩)
  dsimp only [Pt.U, Pt.locs, Pt.cells, Pt.slots] at X' l1 y1 z1 st hQ
  subst l1 y1 z1
  exact ⟨v, T', L, X', hQ, fun t k => st t k⟩
theorem own_callN (X : Stand p l e R s m args below meth c T locs cells slots) (hx : p.tables.exec = Jvm.exec) (hZ : Z.Warmed39 s.vm) (hown : s.vm.findClass own = some m.cls) (hn : y.name = "<init>") (w1 : (Cond.methodLink own index y).before a0 Z = true) (w2 : (Cond.instanceMethod y).before a0 Z = true)
    (w5 : (Cond.code y bytes maxL none).before a0 Z = true) (w6 : (Cond.initialized y.cls).before a0 Z = true) (hy : y.cls ≠ "java/lang/invoke/MethodHandle" ∧ y.cls ≠ "java/lang/invoke/VarHandle")
    (eT : T.heap = h) {b : Addr} {argsL rest : List Value} (ct : own_Ct l Z y bytes maxL none rm (.ref b :: argsL).toArray h Q) (hf : rm.frames + 1 ≤ R.frames) {W : Nat} (hl : W + (maxL + 11) + rm.locals ≤ R.locals) (hc : cells + rm.cells ≤ R.cells) (hs : slots + rm.slots ≤ R.slots)
    {ps : List FieldType} {r : Option FieldType} (hpd : parseMethodDescriptor y.desc = some ⟨ps, r⟩) (hll : argsL.length = ps.length) {pc : Nat} {Ls : Array Slot} (hsz : Ls.size = c.maxLocals) (hW : (rest.map fun v => v.category).sum ≤ W) (hd : decode c.code pc = .ok (.invokespecial index, 3)) :
    ∃ v T' L, Stand p l e R s m args below meth c T' (locs ++ L) (cells + rm.cells) (slots + rm.slots) ∧ Q v T'.heap L ∧ ∀ t, Steps p.tables e below (T'.setTop (mkF m (pc + 3) Ls (v.toList ++ rest))) t → Steps p.tables e below (T.setTop (mkF m pc Ls (argsL.reverse ++ .ref b :: rest))) t := by
  obtain ⟨v, _, ⟨T', L', k', n'⟩, -, X', ⟨L, hQ, l1, y1, z1⟩, st⟩ := X.specialBack hx (y := y) hn hown (mvT hZ w1) (mvT hZ w2) (mvT hZ w5) hy (backOf (W := W) (ct []) hZ w5 w6 hf hl)
    (g := mkF m pc Ls (argsL.reverse ++ .ref b :: rest)) rfl hsz (Steps.refl _) (a := b) (argsL := argsL) (rest := rest) (lenOf hpd hll) rfl (by show 2 * 0 + _ ≤ _; rw [Nat.mul_zero, Nat.zero_add]; exact hW) hd (fun _ _ => ⟨rfl, eT, hc, hs⟩)
  dsimp only [Pt.U, Pt.locs, Pt.cells, Pt.slots] at X' l1 y1 z1 st hQ
  subst l1 y1 z1
  exact ⟨v, T', L, X', hQ, fun t k => st.trans k⟩
theorem own_staK {h' : Heap} {ws : List Addr} {n d : String} {v : Value} (F : Sta Z h C n d v) (K : Keep h h' ws) (hws : ∀ x ∈ ws, ∀ cl : Cell, h[x]? = some cl → cl.vm.isStatics = false) : Sta Z h' C n d v := by
  obtain ⟨cf, i, k, f, st, cell, h1, h2, h3, h4, h5, h6, h7⟩ := F
  refine ⟨cf, i, k, f, st, cell, h1, h2, h3, h4, K.2.1 st cell h5 (fun q => ?_), h6, h7⟩
  rw [hws st q cell h5] at h6; cases h6
theorem own_exaS {a : Addr} (E : Exa Z h a C) : ∀ cl : Cell, h[a]? = some cl → cl.vm.isStatics = false := by
  obtain ⟨cell, k, h1, -, -, h4, -⟩ := E
  intro cl q
  cases h1.symm.trans q
  exact h4
theorem own_len {t : Term} {n : Int32} {cl : Cell} {a : Addr} (hl : (Term.length t).eval args Z none [] Z = some (.int n)) (et : t.eval args Z none [] Z = some (.ref a)) (ea : Z.arrayAt? a = some cl) : cl.slots.size < 2 ^ 31 ∧ cl.slots.size.toInt32 = n := by
  simp only [Term.eval, Option.bind_eq_bind, et, Option.bind_some, ea] at hl
  by_cases q : cl.slots.size < 2 ^ 31
  · simp [q] at hl; exact ⟨q, hl⟩
  · simp [q] at hl
theorem own_subE {i j : Term} {x w : Int32} {idx : List Nat} (hi : i.eval args Z none idx Z = some (.int x)) (hj : j.eval args Z none idx Z = some (.int w)) : (Term.sub i j).eval args Z none idx Z = some (.int (x - w)) := by simp [Term.eval, hi, hj]
end OwnLayer
theorem d1_0 : decode prog_22_method_1_code 0 = .ok (.aload_n 0, 1) := by decide +kernel
theorem d1_1 : decode prog_22_method_1_code 1 = .ok (.invokespecial 3, 3) := by decide +kernel
theorem d1_4 : decode prog_22_method_1_code 4 = .ok (.aload_n 0, 1) := by decide +kernel
theorem d1_5 : decode prog_22_method_1_code 5 = .ok (.bipush 16, 2) := by decide +kernel
theorem d1_7 : decode prog_22_method_1_code 7 = .ok (.anewarray 9, 3) := by decide +kernel
theorem d1_10 : decode prog_22_method_1_code 10 = .ok (.putfield 11, 3) := by decide +kernel
theorem d1_13 : decode prog_22_method_1_code 13 = .ok (.return_, 1) := by decide +kernel
theorem pn_1 : plainFor (⟨"com/example/clearance/clearance/IntColumn", "<init>", "()V"⟩ : MethodName) = true := by first | exact plainFor_of_name (by first | (simp [plainName, overriddenIn]; done) | decide +kernel) | decide +kernel
theorem pd_1 : parseMethodDescriptor "()V" = some ⟨[], none⟩ := by decide +kernel
theorem d3_0 : decode prog_22_method_3_code 0 = .ok (.aload_n 0, 1) := by decide +kernel
theorem d3_1 : decode prog_22_method_3_code 1 = .ok (.getfield 15, 3) := by decide +kernel
theorem d3_4 : decode prog_22_method_3_code 4 = .ok (.bipush 14, 2) := by decide +kernel
theorem d3_6 : decode prog_22_method_3_code 6 = .ok (.iushr, 1) := by decide +kernel
theorem d3_7 : decode prog_22_method_3_code 7 = .ok (.istore_n 2, 1) := by decide +kernel
theorem d3_8 : decode prog_22_method_3_code 8 = .ok (.iload_n 2, 1) := by decide +kernel
theorem d3_9 : decode prog_22_method_3_code 9 = .ok (.aload_n 0, 1) := by decide +kernel
theorem d3_10 : decode prog_22_method_3_code 10 = .ok (.getfield 11, 3) := by decide +kernel
theorem d3_13 : decode prog_22_method_3_code 13 = .ok (.arraylength, 1) := by decide +kernel
theorem d3_14 : decode prog_22_method_3_code 14 = .ok (.if_icmp .ne 20, 3) := by decide +kernel
theorem d3_17 : decode prog_22_method_3_code 17 = .ok (.aload_n 0, 1) := by decide +kernel
theorem d3_18 : decode prog_22_method_3_code 18 = .ok (.aload_n 0, 1) := by decide +kernel
theorem d3_19 : decode prog_22_method_3_code 19 = .ok (.getfield 11, 3) := by decide +kernel
theorem d3_22 : decode prog_22_method_3_code 22 = .ok (.iload_n 2, 1) := by decide +kernel
theorem d3_23 : decode prog_22_method_3_code 23 = .ok (.iconst 2, 1) := by decide +kernel
theorem d3_24 : decode prog_22_method_3_code 24 = .ok (.imul, 1) := by decide +kernel
theorem d3_25 : decode prog_22_method_3_code 25 = .ok (.invokestatic 19, 3) := by decide +kernel
theorem d3_28 : decode prog_22_method_3_code 28 = .ok (.checkcast 25, 3) := by decide +kernel
theorem d3_31 : decode prog_22_method_3_code 31 = .ok (.putfield 11, 3) := by decide +kernel
theorem d3_34 : decode prog_22_method_3_code 34 = .ok (.aload_n 0, 1) := by decide +kernel
theorem d3_35 : decode prog_22_method_3_code 35 = .ok (.getfield 11, 3) := by decide +kernel
theorem d3_38 : decode prog_22_method_3_code 38 = .ok (.iload_n 2, 1) := by decide +kernel
theorem d3_39 : decode prog_22_method_3_code 39 = .ok (.aaload, 1) := by decide +kernel
theorem d3_40 : decode prog_22_method_3_code 40 = .ok (.ifnonnull 14, 3) := by decide +kernel
theorem d3_43 : decode prog_22_method_3_code 43 = .ok (.aload_n 0, 1) := by decide +kernel
theorem d3_44 : decode prog_22_method_3_code 44 = .ok (.getfield 11, 3) := by decide +kernel
theorem d3_47 : decode prog_22_method_3_code 47 = .ok (.iload_n 2, 1) := by decide +kernel
theorem d3_48 : decode prog_22_method_3_code 48 = .ok (.sipush 16384, 3) := by decide +kernel
theorem d3_51 : decode prog_22_method_3_code 51 = .ok (.newarray .int, 2) := by decide +kernel
theorem d3_53 : decode prog_22_method_3_code 53 = .ok (.aastore, 1) := by decide +kernel
theorem d3_54 : decode prog_22_method_3_code 54 = .ok (.aload_n 0, 1) := by decide +kernel
theorem d3_55 : decode prog_22_method_3_code 55 = .ok (.getfield 11, 3) := by decide +kernel
theorem d3_58 : decode prog_22_method_3_code 58 = .ok (.iload_n 2, 1) := by decide +kernel
theorem d3_59 : decode prog_22_method_3_code 59 = .ok (.aaload, 1) := by decide +kernel
theorem d3_60 : decode prog_22_method_3_code 60 = .ok (.aload_n 0, 1) := by decide +kernel
theorem d3_61 : decode prog_22_method_3_code 61 = .ok (.getfield 15, 3) := by decide +kernel
theorem d3_64 : decode prog_22_method_3_code 64 = .ok (.sipush 16383, 3) := by decide +kernel
theorem d3_67 : decode prog_22_method_3_code 67 = .ok (.iand, 1) := by decide +kernel
theorem d3_68 : decode prog_22_method_3_code 68 = .ok (.iload_n 1, 1) := by decide +kernel
theorem d3_69 : decode prog_22_method_3_code 69 = .ok (.iastore, 1) := by decide +kernel
theorem d3_70 : decode prog_22_method_3_code 70 = .ok (.aload_n 0, 1) := by decide +kernel
theorem d3_71 : decode prog_22_method_3_code 71 = .ok (.dup, 1) := by decide +kernel
theorem d3_72 : decode prog_22_method_3_code 72 = .ok (.getfield 15, 3) := by decide +kernel
theorem d3_75 : decode prog_22_method_3_code 75 = .ok (.dup_x1, 1) := by decide +kernel
theorem d3_76 : decode prog_22_method_3_code 76 = .ok (.iconst 1, 1) := by decide +kernel
theorem d3_77 : decode prog_22_method_3_code 77 = .ok (.iadd, 1) := by decide +kernel
theorem d3_78 : decode prog_22_method_3_code 78 = .ok (.putfield 15, 3) := by decide +kernel
theorem d3_81 : decode prog_22_method_3_code 81 = .ok (.ireturn, 1) := by decide +kernel
theorem pn_3 : plainFor (⟨"com/example/clearance/clearance/IntColumn", "add", "(I)I"⟩ : MethodName) = true := by first | exact plainFor_of_name (by first | (simp [plainName, overriddenIn]; done) | decide +kernel) | decide +kernel
theorem pd_3 : parseMethodDescriptor "(I)I" = some ⟨[.int], some .int⟩ := by decide +kernel
theorem d4_0 : decode prog_22_method_6_code 0 = .ok (.iload_n 1, 1) := by decide +kernel
theorem d4_1 : decode prog_22_method_6_code 1 = .ok (.sipush 16384, 3) := by decide +kernel
theorem d4_4 : decode prog_22_method_6_code 4 = .ok (.iadd, 1) := by decide +kernel
theorem d4_5 : decode prog_22_method_6_code 5 = .ok (.iconst 1, 1) := by decide +kernel
theorem d4_6 : decode prog_22_method_6_code 6 = .ok (.isub, 1) := by decide +kernel
theorem d4_7 : decode prog_22_method_6_code 7 = .ok (.bipush 14, 2) := by decide +kernel
theorem d4_9 : decode prog_22_method_6_code 9 = .ok (.iushr, 1) := by decide +kernel
theorem d4_10 : decode prog_22_method_6_code 10 = .ok (.istore_n 2, 1) := by decide +kernel
theorem d4_11 : decode prog_22_method_6_code 11 = .ok (.iload_n 2, 1) := by decide +kernel
theorem d4_12 : decode prog_22_method_6_code 12 = .ok (.aload_n 0, 1) := by decide +kernel
theorem d4_13 : decode prog_22_method_6_code 13 = .ok (.getfield 11, 3) := by decide +kernel
theorem d4_16 : decode prog_22_method_6_code 16 = .ok (.arraylength, 1) := by decide +kernel
theorem d4_17 : decode prog_22_method_6_code 17 = .ok (.if_icmp .ge 16, 3) := by decide +kernel
theorem d4_20 : decode prog_22_method_6_code 20 = .ok (.aload_n 0, 1) := by decide +kernel
theorem d4_21 : decode prog_22_method_6_code 21 = .ok (.getfield 11, 3) := by decide +kernel
theorem d4_24 : decode prog_22_method_6_code 24 = .ok (.iload_n 2, 1) := by decide +kernel
theorem d4_25 : decode prog_22_method_6_code 25 = .ok (.aconst_null, 1) := by decide +kernel
theorem d4_26 : decode prog_22_method_6_code 26 = .ok (.aastore, 1) := by decide +kernel
theorem d4_27 : decode prog_22_method_6_code 27 = .ok (.iinc 2 1, 3) := by decide +kernel
theorem d4_30 : decode prog_22_method_6_code 30 = .ok (.goto (-19), 3) := by decide +kernel
theorem d4_33 : decode prog_22_method_6_code 33 = .ok (.aload_n 0, 1) := by decide +kernel
theorem d4_34 : decode prog_22_method_6_code 34 = .ok (.iload_n 1, 1) := by decide +kernel
theorem d4_35 : decode prog_22_method_6_code 35 = .ok (.putfield 15, 3) := by decide +kernel
theorem d4_38 : decode prog_22_method_6_code 38 = .ok (.return_, 1) := by decide +kernel
theorem pn_4 : plainFor (⟨"com/example/clearance/clearance/IntColumn", "truncate", "(I)V"⟩ : MethodName) = true := by first | exact plainFor_of_name (by first | (simp [plainName, overriddenIn]; done) | decide +kernel) | decide +kernel
theorem pd_4 : parseMethodDescriptor "(I)V" = some ⟨[.int], none⟩ := by decide +kernel
theorem d5_0 : decode prog_22_method_2_code 0 = .ok (.aload_n 0, 1) := by decide +kernel
theorem d5_1 : decode prog_22_method_2_code 1 = .ok (.getfield 15, 3) := by decide +kernel
theorem d5_4 : decode prog_22_method_2_code 4 = .ok (.ireturn, 1) := by decide +kernel
theorem pn_5 : plainFor (⟨"com/example/clearance/clearance/IntColumn", "size", "()I"⟩ : MethodName) = true := by first | exact plainFor_of_name (by first | (simp [plainName, overriddenIn]; done) | decide +kernel) | decide +kernel
theorem pd_5 : parseMethodDescriptor "()I" = some ⟨[], some .int⟩ := by decide +kernel
theorem d6_0 : decode prog_22_method_7_code 0 = .ok (.aload_n 0, 1) := by decide +kernel
theorem d6_1 : decode prog_22_method_7_code 1 = .ok (.getfield 15, 3) := by decide +kernel
theorem d6_4 : decode prog_22_method_7_code 4 = .ok (.newarray .int, 2) := by decide +kernel
theorem d6_6 : decode prog_22_method_7_code 6 = .ok (.astore_n 1, 1) := by decide +kernel
theorem d6_7 : decode prog_22_method_7_code 7 = .ok (.iconst 0, 1) := by decide +kernel
theorem d6_8 : decode prog_22_method_7_code 8 = .ok (.istore_n 2, 1) := by decide +kernel
theorem d6_9 : decode prog_22_method_7_code 9 = .ok (.iload_n 2, 1) := by decide +kernel
theorem d6_10 : decode prog_22_method_7_code 10 = .ok (.aload_n 0, 1) := by decide +kernel
theorem d6_11 : decode prog_22_method_7_code 11 = .ok (.getfield 15, 3) := by decide +kernel
theorem d6_14 : decode prog_22_method_7_code 14 = .ok (.if_icmp .ge 39, 3) := by decide +kernel
theorem d6_17 : decode prog_22_method_7_code 17 = .ok (.aload_n 0, 1) := by decide +kernel
theorem d6_18 : decode prog_22_method_7_code 18 = .ok (.getfield 11, 3) := by decide +kernel
theorem d6_21 : decode prog_22_method_7_code 21 = .ok (.iload_n 2, 1) := by decide +kernel
theorem d6_22 : decode prog_22_method_7_code 22 = .ok (.bipush 14, 2) := by decide +kernel
theorem d6_24 : decode prog_22_method_7_code 24 = .ok (.iushr, 1) := by decide +kernel
theorem d6_25 : decode prog_22_method_7_code 25 = .ok (.aaload, 1) := by decide +kernel
theorem d6_26 : decode prog_22_method_7_code 26 = .ok (.iconst 0, 1) := by decide +kernel
theorem d6_27 : decode prog_22_method_7_code 27 = .ok (.aload_n 1, 1) := by decide +kernel
theorem d6_28 : decode prog_22_method_7_code 28 = .ok (.iload_n 2, 1) := by decide +kernel
theorem d6_29 : decode prog_22_method_7_code 29 = .ok (.sipush 16384, 3) := by decide +kernel
theorem d6_32 : decode prog_22_method_7_code 32 = .ok (.aload_n 0, 1) := by decide +kernel
theorem d6_33 : decode prog_22_method_7_code 33 = .ok (.getfield 15, 3) := by decide +kernel
theorem d6_36 : decode prog_22_method_7_code 36 = .ok (.iload_n 2, 1) := by decide +kernel
theorem d6_37 : decode prog_22_method_7_code 37 = .ok (.isub, 1) := by decide +kernel
theorem d6_38 : decode prog_22_method_7_code 38 = .ok (.invokestatic 26, 3) := by decide +kernel
theorem d6_41 : decode prog_22_method_7_code 41 = .ok (.invokestatic 32, 3) := by decide +kernel
theorem d6_44 : decode prog_22_method_7_code 44 = .ok (.iinc 2 16384, 6) := by decide +kernel
theorem d6_50 : decode prog_22_method_7_code 50 = .ok (.goto (-41), 3) := by decide +kernel
theorem d6_53 : decode prog_22_method_7_code 53 = .ok (.aload_n 1, 1) := by decide +kernel
theorem d6_54 : decode prog_22_method_7_code 54 = .ok (.areturn, 1) := by decide +kernel
theorem pn_6 : plainFor (⟨"com/example/clearance/clearance/IntColumn", "toArray", "()[I"⟩ : MethodName) = true := by first | exact plainFor_of_name (by first | (simp [plainName, overriddenIn]; done) | decide +kernel) | decide +kernel
theorem pd_6 : parseMethodDescriptor "()[I" = some ⟨[], some (.array .int)⟩ := by decide +kernel
theorem d7_0 : decode jdk_29_method_69_code 0 = .ok (.iload_n 0, 1) := by decide +kernel
theorem d7_1 : decode jdk_29_method_69_code 1 = .ok (.iload_n 1, 1) := by decide +kernel
theorem d7_2 : decode jdk_29_method_69_code 2 = .ok (.if_icmp .gt 7, 3) := by decide +kernel
theorem d7_5 : decode jdk_29_method_69_code 5 = .ok (.iload_n 0, 1) := by decide +kernel
theorem d7_6 : decode jdk_29_method_69_code 6 = .ok (.goto 4, 3) := by decide +kernel
theorem d7_9 : decode jdk_29_method_69_code 9 = .ok (.iload_n 1, 1) := by decide +kernel
theorem d7_10 : decode jdk_29_method_69_code 10 = .ok (.ireturn, 1) := by decide +kernel
theorem pn_7 : plainFor (⟨"java/lang/Math", "min", "(II)I"⟩ : MethodName) = true := by first | exact plainFor_of_name (by first | (simp [plainName, overriddenIn]; done) | decide +kernel) | decide +kernel
theorem pd_7 : parseMethodDescriptor "(II)I" = some ⟨[.int, .int], some .int⟩ := by decide +kernel
theorem d8_0 : decode method_3_code 0 = .ok (.iload_n 1, 1) := by decide +kernel
theorem d8_1 : decode method_3_code 1 = .ok (.iload_n 2, 1) := by decide +kernel
theorem d8_2 : decode method_3_code 2 = .ok (.if_icmp .le 5, 3) := by decide +kernel
theorem d8_5 : decode method_3_code 5 = .ok (.iconst 1, 1) := by decide +kernel
theorem d8_6 : decode method_3_code 6 = .ok (.ireturn, 1) := by decide +kernel
theorem d8_7 : decode method_3_code 7 = .ok (.iload_n 1, 1) := by decide +kernel
theorem d8_8 : decode method_3_code 8 = .ok (.iload_n 2, 1) := by decide +kernel
theorem d8_9 : decode method_3_code 9 = .ok (.if_icmp .ge 11, 3) := by decide +kernel
theorem d8_12 : decode method_3_code 12 = .ok (.aload_n 3, 1) := by decide +kernel
theorem d8_13 : decode method_3_code 13 = .ok (.iload_n 1, 1) := by decide +kernel
theorem d8_14 : decode method_3_code 14 = .ok (.iaload, 1) := by decide +kernel
theorem d8_15 : decode method_3_code 15 = .ok (.istore 5, 2) := by decide +kernel
theorem d8_17 : decode method_3_code 17 = .ok (.goto 7, 3) := by decide +kernel
theorem d8_20 : decode method_3_code 20 = .ok (.iload 4, 2) := by decide +kernel
theorem d8_22 : decode method_3_code 22 = .ok (.istore 5, 2) := by decide +kernel
theorem d8_24 : decode method_3_code 24 = .ok (.aload_n 0, 1) := by decide +kernel
theorem d8_25 : decode method_3_code 25 = .ok (.iload_n 1, 1) := by decide +kernel
theorem d8_26 : decode method_3_code 26 = .ok (.iaload, 1) := by decide +kernel
theorem d8_27 : decode method_3_code 27 = .ok (.iload 5, 2) := by decide +kernel
theorem d8_29 : decode method_3_code 29 = .ok (.if_icmp .ne 7, 3) := by decide +kernel
theorem d8_32 : decode method_3_code 32 = .ok (.iconst 1, 1) := by decide +kernel
theorem d8_33 : decode method_3_code 33 = .ok (.goto 4, 3) := by decide +kernel
theorem d8_36 : decode method_3_code 36 = .ok (.iconst 0, 1) := by decide +kernel
theorem d8_37 : decode method_3_code 37 = .ok (.ireturn, 1) := by decide +kernel
theorem pn_8 : plainFor (⟨"com/example/clearance/clearance/IntColumnTruncatePinLaw", "at", "([III[II)Z"⟩ : MethodName) = true := by first | exact plainFor_of_name (by first | (simp [plainName, overriddenIn]; done) | decide +kernel) | decide +kernel
theorem pd_8 : parseMethodDescriptor "([III[II)Z" = some ⟨[(.array .int), .int, .int, (.array .int), .int], some .boolean⟩ := by decide +kernel
theorem pn_0 : plainFor (⟨"com/example/clearance/clearance/IntColumnTruncatePinLaw", "law", "(IIIIII)Z"⟩ : MethodName) = true := by first | exact plainFor_of_name (by first | (simp [plainName, overriddenIn]; done) | decide +kernel) | decide +kernel
theorem pd_0 : parseMethodDescriptor "(IIIIII)Z" = some ⟨[.int, .int, .int, .int, .int, .int], some .boolean⟩ := by decide +kernel
def own_S0 (Z : State) (h : Heap) (a pg : Addr) (kp : ClassId) (n : Int32) : Prop := Exa Z h a "com/example/clearance/clearance/IntColumn" ∧ Fld Z h a "com/example/clearance/clearance/IntColumn" "blocks" "[[I" (.ref pg) ∧ Fld Z h a "com/example/clearance/clearance/IntColumn" "size" "I" (.int n) ∧ Arv Z h pg kp (.array .int) (16 : Int32) [.null, .null, .null, .null, .null, .null, .null, .null, .null, .null, .null, .null, .null, .null, .null, .null] .null ∧ OvrA Z kp .int "[I"
def own_S1 (Z : State) (h : Heap) (a pg bk : Addr) (kp kb : ClassId) (n u0 u1 u2 u3 u4 : Int32) : Prop := Exa Z h a "com/example/clearance/clearance/IntColumn" ∧ Fld Z h a "com/example/clearance/clearance/IntColumn" "blocks" "[[I" (.ref pg) ∧ Fld Z h a "com/example/clearance/clearance/IntColumn" "size" "I" (.int n) ∧ Arv Z h pg kp (.array .int) (16 : Int32) [.ref bk, .null, .null, .null, .null, .null, .null, .null, .null, .null, .null, .null, .null, .null, .null, .null] .null ∧ OvrA Z kp .int "[I" ∧ Arv Z h bk kb .int (16384 : Int32) [.int u0, .int u1, .int u2, .int u3, .int u4] (.int (0 : Int32))
def own_N0 (n0 : Nat) (a pg : Addr) : Prop := n0 ≤ a ∧ n0 ≤ pg ∧ a ≠ pg
def own_N1 (n0 : Nat) (a pg bk : Addr) : Prop := n0 ≤ bk ∧ a ≠ bk ∧ pg ≠ bk
def QI (Z : State) (a : Addr) (h0 : Heap) (n0 : Nat) (v : Option Value) (h : Heap) (L : List Loc) : Prop := ∃ (pg : Addr) (kp : ClassId), v = none ∧ Fr n0 L ∧ own_S0 Z h a pg kp 0 ∧ own_N0 n0 a pg ∧ n0 ≤ h.size
set_option maxRecDepth 65536 in
set_option maxHeartbeats 40000000 in
theorem rmI (l : Launch) (Z : State) (a0 : Array Value) (hw : ∀ d ∈ tables_1, d.before a0 Z = true) (a : Addr) (h0 : Heap) (n0 : Nat) (Z0 : n0 ≤ h0.size) (g : n0 ≤ a) (E : Exa Z h0 a "com/example/clearance/clearance/IntColumn") (Fp : Fld Z h0 a "com/example/clearance/clearance/IntColumn" "blocks" "[[I" .null) (Fs : Fld Z h0 a "com/example/clearance/clearance/IntColumn" "size" "I" (.int (0 : Int32))) :
    own_Ct l Z (⟨"com/example/clearance/clearance/IntColumn", "<init>", "()V"⟩ : MethodName) prog_22_method_1_code 1 none ({ frames := 1, cells := 1, slots := 16, locals := 12 } : Room) #[(.ref a)] h0 (QI Z a h0 n0) := by
  refine own_body pn_1 ?_
  intro p e s m below meth cd s₁ hx hZ hby hml hown hnm hret hk X0 e0
  have N0 := Fr.nil n0
  refine own_to (s₁.setTop (mkF m 0 #[.val (.ref a)] [])) (fun t k => castTop (by first | (simp [entryFrame, mkF, argsToLocals, Value.category]; done) | rfl) k) ?_
  refine own_to (s₁.setTop (mkF m 1 #[.val (.ref a)] [(.ref a)])) (fun t k => XS.aloadN X0.here hx rfl (hb hby d1_0) rfl rfl k) ?_
  obtain ⟨T11, X11, e11, st11⟩ := initO X0 hx hZ hown (hw _ (List.mem_of_getElem? (i := 6) rfl)) (hw _ (List.mem_of_getElem? (i := 7) rfl)) (hw _ (List.mem_of_getElem? (i := 8) rfl)) e0 (g := (mkF m 1 #[.val (.ref a)] [(.ref a)])) rfl (by rw [hml]; rfl) rfl (hb hby d1_1) (by decide) (W := 0) (by show 2 * 0 + _ ≤ _; exact Nat.le_of_eq rfl) (by decide)
  refine own_to (T11.setTop (mkF m 4 #[.val (.ref a)] [])) (fun t k => st11 t k) ?_
  refine own_to (T11.setTop (mkF m 5 #[.val (.ref a)] [(.ref a)])) (fun t k => XS.aloadN X11.here hx rfl (hb hby d1_4) rfl rfl k) ?_
  refine own_to (T11.setTop (mkF m 7 #[.val (.ref a)] [(.int (16 : Int32)), (.ref a)])) (fun t k => XT.bipushV X11.here hx rfl (16 : Int32) (hb hby d1_5) (by decide) k) ?_
  obtain ⟨T12, h12, k12, X12, e12, E12, A12, B12, O12, st12⟩ := newRA X11 hx hZ (ty := .int) hown (by decide) (hw _ (List.mem_of_getElem? (i := 9) rfl)) (hw _ (List.mem_of_getElem? (i := 10) rfl)) e11 (g := (mkF m 7 #[.val (.ref a)] [(.int (16 : Int32)), (.ref a)])) rfl (hb hby d1_7) rfl (by decide) (cap := 16) (by decide) (by decide) (by decide) (by decide) (ad := "[[I") (by decide)
  obtain ⟨a12, g12⟩ : ∃ z, z = h0.size := ⟨_, rfl⟩
  rw [← g12] at A12 B12 st12
  have ne_a_a12 : a ≠ a12 := Nat.ne_of_lt (g12 ▸ E.lt)
  have Z12 : n0 ≤ h12.size := Nat.le_trans Z0 E12.1
  have ge12 : n0 ≤ a12 := Nat.le_trans Z0 (Nat.le_of_eq g12.symm)
  have F13 := E.ext E12
  have F14 := Fp.ext E12
  have F15 := Fs.ext E12
  have V16 : Arv Z h12 a12 k12 (.array .int) (16 : Int32) [.null, .null, .null, .null, .null, .null, .null, .null, .null, .null, .null, .null, .null, .null, .null, .null] .null := (Arv.new A12 (by decide)).pad (pad_rep [] _ 16)
  refine own_to (T12.setTop (mkF m 10 #[.val (.ref a)] [(.ref a12), (.ref a)])) (fun t k => st12 t k) ?_
  obtain ⟨T17, h17, X17, e17, W17, st17⟩ := putF X12 hx hZ hown (host := "") (Or.inl (hw _ (List.mem_of_getElem? (i := 11) rfl))) Via.refl e12 F14 F13 (Or.inl (hw _ (List.mem_of_getElem? (i := 12) rfl))) (hw _ (List.mem_of_getElem? (i := 1) rfl)) (ty := (.array (.array .int))) (by rfl) rfl rfl (g := (mkF m 10 #[.val (.ref a)] [(.ref a12), (.ref a)])) rfl rfl (hb hby d1_10)
  have N17 := Fr.snoc X17 N0 g
  have F18 := F13.wr W17
  have F19 := F14.same W17
  have F20 := F15.other W17 (Or.inr (slot_ne (Or.inl (hw _ (List.mem_of_getElem? (i := 19) rfl))) (Or.inl (hw _ (List.mem_of_getElem? (i := 12) rfl))) (by decide) (by rfl) (by rfl)))
  have F21 := B12.wr W17
  have F22 := V16.other W17 (Ne.symm ne_a_a12)
  have Z23 : n0 ≤ h17.size := by rw [W17.size]; exact Z12
  refine own_to (T17.setTop (mkF m 13 #[.val (.ref a)] [])) (fun t k => st17 t k) ?_
  exact own_retV X17 hx hret hk (hb hby d1_13) (by decide) (by decide) ⟨a12, _, rfl, N17, ⟨(by rw [e17]; exact F18), (by rw [e17]; exact F19), (by rw [e17]; exact F20), (by rw [e17]; exact F22), O12⟩, ⟨g, ge12, ne_a_a12⟩, by rw [e17]; exact Nat.le_trans g (Nat.le_of_lt F18.lt)⟩
def QA0 (Z : State) (a pg : Addr) (kp : ClassId) (x : Int32) (h0 : Heap) (n0 : Nat) (v : Option Value) (h : Heap) (L : List Loc) : Prop := ∃ (bk : Addr) (kb : ClassId), v = some (.int 0) ∧ Fr n0 L ∧ own_S1 Z h a pg bk kp kb 1 x 0 0 0 0 ∧ own_N1 n0 a pg bk ∧ n0 ≤ h.size
set_option maxRecDepth 65536 in
set_option maxHeartbeats 40000000 in
theorem rmA0 (l : Launch) (Z : State) (a0 : Array Value) (hw : ∀ d ∈ tables_1, d.before a0 Z = true) (a pg : Addr) (kp : ClassId) (x : Int32) (h0 : Heap) (n0 : Nat) (Z0 : n0 ≤ h0.size) (St : own_S0 Z h0 a pg kp 0) (Na : own_N0 n0 a pg) :
    own_Ct l Z (⟨"com/example/clearance/clearance/IntColumn", "add", "(I)I"⟩ : MethodName) prog_22_method_3_code 3 (some .int) ({ frames := 0, cells := 1, slots := 16384, locals := 0 } : Room) #[(.ref a), (.int x)] h0 (QA0 Z a pg kp x h0 n0) := by
  refine own_body pn_3 ?_
  intro p e s m below meth cd s₁ hx hZ hby hml hown hnm hret hk X0 e0
  have N0 := Fr.nil n0
  refine own_to (s₁.setTop (mkF m 0 #[.val (.ref a), .val (.int x), .unset] [])) (fun t k => castTop (by first | (simp [entryFrame, mkF, argsToLocals, Value.category]; done) | rfl) k) ?_
  obtain ⟨E, Fp, Fs, Vp, Op⟩ := St
  obtain ⟨ga, gp, nap⟩ := Na
  refine own_to (s₁.setTop (mkF m 1 #[.val (.ref a), .val (.int x), .unset] [(.ref a)])) (fun t k => XS.aloadN X0.here hx rfl (hb hby d3_0) rfl rfl k) ?_
  obtain ⟨T11, X11, e11, st11⟩ := getF X0 hx hZ hown (host := "") (Or.inl (hw _ (List.mem_of_getElem? (i := 18) rfl))) Via.refl e0 Fs (g := (mkF m 1 #[.val (.ref a), .val (.int x), .unset] [(.ref a)])) rfl rfl (hb hby d3_1)
  refine own_to (T11.setTop (mkF m 4 #[.val (.ref a), .val (.int x), .unset] [(.int (0 : Int32))])) (fun t k => st11 t k) ?_
  refine own_to (T11.setTop (mkF m 6 #[.val (.ref a), .val (.int x), .unset] [(.int (14 : Int32)), (.int (0 : Int32))])) (fun t k => XT.bipushV X11.here hx rfl (14 : Int32) (hb hby d3_4) (by decide) k) ?_
  refine own_to (T11.setTop (mkF m 7 #[.val (.ref a), .val (.int x), .unset] [(.int (0 : Int32))])) (fun t k => XT.iushr X11.here hx rfl (hb hby d3_6) rfl (by rw [show (XT.ushr (0 : Int32) (14 : Int32)) = (0 : Int32) from by decide]; exact k)) ?_
  refine own_to (T11.setTop (mkF m 8 #[.val (.ref a), .val (.int x), .val (.int (0 : Int32))] [])) (fun t k => XS.istoreN X11.here hx rfl (hb hby d3_7) rfl (l' := #[.val (.ref a), .val (.int x), .val (.int (0 : Int32))]) rfl k) ?_
  refine own_to (T11.setTop (mkF m 9 #[.val (.ref a), .val (.int x), .val (.int (0 : Int32))] [(.int (0 : Int32))])) (fun t k => XS.iloadN X11.here hx rfl (hb hby d3_8) rfl k) ?_
  refine own_to (T11.setTop (mkF m 10 #[.val (.ref a), .val (.int x), .val (.int (0 : Int32))] [(.ref a), (.int (0 : Int32))])) (fun t k => XS.aloadN X11.here hx rfl (hb hby d3_9) rfl rfl k) ?_
  obtain ⟨T12, X12, e12, st12⟩ := getF X11 hx hZ hown (host := "") (Or.inl (hw _ (List.mem_of_getElem? (i := 11) rfl))) Via.refl e11 Fp (g := (mkF m 10 #[.val (.ref a), .val (.int x), .val (.int (0 : Int32))] [(.ref a), (.int (0 : Int32))])) rfl rfl (hb hby d3_10)
  refine own_to (T12.setTop (mkF m 13 #[.val (.ref a), .val (.int x), .val (.int (0 : Int32))] [(.ref pg), (.int (0 : Int32))])) (fun t k => st12 t k) ?_
  obtain ⟨c13, r13, q13, z13, p13, j13, f13⟩ := id Vp
  refine own_to (T12.setTop (mkF m 14 #[.val (.ref a), .val (.int x), .val (.int (0 : Int32))] [(.int (16 : Int32)), (.int (0 : Int32))])) (fun t k => X12.arraylength hx (by rw [e12]; exact r13.1) (State.isArrayOf_alike hZ.alike r13.2.1) (g := (mkF m 13 #[.val (.ref a), .val (.int x), .val (.int (0 : Int32))] [(.ref pg), (.int (0 : Int32))])) rfl rfl (hb hby d3_13) t (by rw [len_of z13 p13]; exact k)) ?_
  refine own_to (T12.setTop (mkF m 34 #[.val (.ref a), .val (.int x), .val (.int (0 : Int32))] [])) (fun t k => XS.icmpYes X12.here hx rfl (pc0 := 14) (pc' := 34) rfl (hb hby d3_14) rfl (feq (by decide)).2 (by decide) (by decide) k) ?_
  refine own_to (T12.setTop (mkF m 35 #[.val (.ref a), .val (.int x), .val (.int (0 : Int32))] [(.ref a)])) (fun t k => XS.aloadN X12.here hx rfl (hb hby d3_34) rfl rfl k) ?_
  obtain ⟨T14, X14, e14, st14⟩ := getF X12 hx hZ hown (host := "") (Or.inl (hw _ (List.mem_of_getElem? (i := 11) rfl))) Via.refl e12 Fp (g := (mkF m 35 #[.val (.ref a), .val (.int x), .val (.int (0 : Int32))] [(.ref a)])) rfl rfl (hb hby d3_35)
  refine own_to (T14.setTop (mkF m 38 #[.val (.ref a), .val (.int x), .val (.int (0 : Int32))] [(.ref pg)])) (fun t k => st14 t k) ?_
  refine own_to (T14.setTop (mkF m 39 #[.val (.ref a), .val (.int x), .val (.int (0 : Int32))] [(.int (0 : Int32)), (.ref pg)])) (fun t k => XS.iloadN X14.here hx rfl (hb hby d3_38) rfl k) ?_
  obtain ⟨c15, r15, q15, z15, p15, j15, f15⟩ := id Vp
  have u15 := inb_of z15 (j := (0 : Int32)) ⟨by decide, by decide⟩
  refine own_to (T14.setTop (mkF m 40 #[.val (.ref a), .val (.int x), .val (.int (0 : Int32))] [.null])) (fun t k => X14.aaload hx (j := (0 : Int32)) (v := .null) (by rw [e14]; exact r15.1) (State.isArrayOf_alike hZ.alike r15.2.1) rfl r15.2.2 u15 (j15.at u15 rfl) (g := (mkF m 39 #[.val (.ref a), .val (.int x), .val (.int (0 : Int32))] [(.int (0 : Int32)), (.ref pg)])) rfl rfl (hb hby d3_39) t k) ?_
  refine own_to (T14.setTop (mkF m 43 #[.val (.ref a), .val (.int x), .val (.int (0 : Int32))] [])) (fun t k => XT.ifnonnullNo X14.here hx rfl (hb hby d3_40) rfl k) ?_
  refine own_to (T14.setTop (mkF m 44 #[.val (.ref a), .val (.int x), .val (.int (0 : Int32))] [(.ref a)])) (fun t k => XS.aloadN X14.here hx rfl (hb hby d3_43) rfl rfl k) ?_
  obtain ⟨T16, X16, e16, st16⟩ := getF X14 hx hZ hown (host := "") (Or.inl (hw _ (List.mem_of_getElem? (i := 11) rfl))) Via.refl e14 Fp (g := (mkF m 44 #[.val (.ref a), .val (.int x), .val (.int (0 : Int32))] [(.ref a)])) rfl rfl (hb hby d3_44)
  refine own_to (T16.setTop (mkF m 47 #[.val (.ref a), .val (.int x), .val (.int (0 : Int32))] [(.ref pg)])) (fun t k => st16 t k) ?_
  refine own_to (T16.setTop (mkF m 48 #[.val (.ref a), .val (.int x), .val (.int (0 : Int32))] [(.int (0 : Int32)), (.ref pg)])) (fun t k => XS.iloadN X16.here hx rfl (hb hby d3_47) rfl k) ?_
  refine own_to (T16.setTop (mkF m 51 #[.val (.ref a), .val (.int x), .val (.int (0 : Int32))] [(.int (16384 : Int32)), (.int (0 : Int32)), (.ref pg)])) (fun t k => XT.sipushV X16.here hx rfl (16384 : Int32) (hb hby d3_48) (by decide) k) ?_
  obtain ⟨T17, h17, k17, X17, e17, E17, A17, B17, st17⟩ := newPE X16 hx hZ (hw _ (List.mem_of_getElem? (i := 20) rfl)) e16 (g := (mkF m 51 #[.val (.ref a), .val (.int x), .val (.int (0 : Int32))] [(.int (16384 : Int32)), (.int (0 : Int32)), (.ref pg)])) rfl (hb hby d3_51) rfl (by decide) (cap := 16384) (by decide) (by decide) (by decide) (by decide) (ad := "[I") (by decide)
  obtain ⟨a17, g17⟩ : ∃ z, z = h0.size := ⟨_, rfl⟩
  rw [← g17] at A17 B17 st17
  have ne_a_a17 : a ≠ a17 := Nat.ne_of_lt (g17 ▸ E.lt)
  have ne_pg_a17 : pg ≠ a17 := Nat.ne_of_lt (g17 ▸ Vp.lt)
  have Z17 : n0 ≤ h17.size := Nat.le_trans Z0 E17.1
  have ge17 : n0 ≤ a17 := Nat.le_trans Z0 (Nat.le_of_eq g17.symm)
  have F18 := E.ext E17
  have F19 := Fp.ext E17
  have F20 := Fs.ext E17
  have F21 := Vp.ext E17
  have V22 : Arv Z h17 a17 k17 .int (16384 : Int32) [(.int (0 : Int32)), (.int (0 : Int32)), (.int (0 : Int32)), (.int (0 : Int32)), (.int (0 : Int32))] (.int (0 : Int32)) := (Arv.new A17 (by decide)).pad (pad_rep [] _ 5)
  refine own_to (T17.setTop (mkF m 53 #[.val (.ref a), .val (.int x), .val (.int (0 : Int32))] [(.ref a17), (.int (0 : Int32)), (.ref pg)])) (fun t k => st17 t k) ?_
  obtain ⟨c23, r23, q23, z23, p23, j23, f23⟩ := id F21
  have u23 := inb_of z23 (j := (0 : Int32)) ⟨by decide, by decide⟩
  obtain ⟨T23, h23, X23, e23, W23, st23⟩ := stR X17 hx hZ e17 r23 u23 rfl (Sto.ofVA r23 q23 Op (Ins.self B17)) (g := (mkF m 53 #[.val (.ref a), .val (.int x), .val (.int (0 : Int32))] [(.ref a17), (.int (0 : Int32)), (.ref pg)])) rfl rfl (hb hby d3_53)
  have N23 := Fr.snoc X23 N0 gp
  have F24 := F18.wr W23
  have F25 := F19.other W23 (Or.inl nap)
  have F26 := F20.other W23 (Or.inl nap)
  have F27 := B17.wr W23
  have F28 := V22.other W23 (Ne.symm ne_pg_a17)
  have V29 : Arv Z h23 pg kp (.array .int) (16 : Int32) [(.ref a17), .null, .null, .null, .null, .null, .null, .null, .null, .null, .null, .null, .null, .null, .null, .null] .null := Arv.set r23 q23 z23 p23 j23 f23 rfl W23 0 rfl (Nat.le_of_ble_eq_true rfl)
  have Z30 : n0 ≤ h23.size := by rw [W23.size]; exact Z17
  refine own_to (T23.setTop (mkF m 54 #[.val (.ref a), .val (.int x), .val (.int (0 : Int32))] [])) (fun t k => st23 t k) ?_
  refine own_to (T23.setTop (mkF m 55 #[.val (.ref a), .val (.int x), .val (.int (0 : Int32))] [(.ref a)])) (fun t k => XS.aloadN X23.here hx rfl (hb hby d3_54) rfl rfl k) ?_
  obtain ⟨T31, X31, e31, st31⟩ := getF X23 hx hZ hown (host := "") (Or.inl (hw _ (List.mem_of_getElem? (i := 11) rfl))) Via.refl e23 F25 (g := (mkF m 55 #[.val (.ref a), .val (.int x), .val (.int (0 : Int32))] [(.ref a)])) rfl rfl (hb hby d3_55)
  refine own_to (T31.setTop (mkF m 58 #[.val (.ref a), .val (.int x), .val (.int (0 : Int32))] [(.ref pg)])) (fun t k => st31 t k) ?_
  refine own_to (T31.setTop (mkF m 59 #[.val (.ref a), .val (.int x), .val (.int (0 : Int32))] [(.int (0 : Int32)), (.ref pg)])) (fun t k => XS.iloadN X31.here hx rfl (hb hby d3_58) rfl k) ?_
  obtain ⟨c32, r32, q32, z32, p32, j32, f32⟩ := id V29
  have u32 := inb_of z32 (j := (0 : Int32)) ⟨by decide, by decide⟩
  refine own_to (T31.setTop (mkF m 60 #[.val (.ref a), .val (.int x), .val (.int (0 : Int32))] [(.ref a17)])) (fun t k => X31.aaload hx (j := (0 : Int32)) (v := (.ref a17)) (by rw [e31]; exact r32.1) (State.isArrayOf_alike hZ.alike r32.2.1) rfl r32.2.2 u32 (j32.at u32 rfl) (g := (mkF m 59 #[.val (.ref a), .val (.int x), .val (.int (0 : Int32))] [(.int (0 : Int32)), (.ref pg)])) rfl rfl (hb hby d3_59) t k) ?_
  refine own_to (T31.setTop (mkF m 61 #[.val (.ref a), .val (.int x), .val (.int (0 : Int32))] [(.ref a), (.ref a17)])) (fun t k => XS.aloadN X31.here hx rfl (hb hby d3_60) rfl rfl k) ?_
  obtain ⟨T33, X33, e33, st33⟩ := getF X31 hx hZ hown (host := "") (Or.inl (hw _ (List.mem_of_getElem? (i := 18) rfl))) Via.refl e31 F26 (g := (mkF m 61 #[.val (.ref a), .val (.int x), .val (.int (0 : Int32))] [(.ref a), (.ref a17)])) rfl rfl (hb hby d3_61)
  refine own_to (T33.setTop (mkF m 64 #[.val (.ref a), .val (.int x), .val (.int (0 : Int32))] [(.int (0 : Int32)), (.ref a17)])) (fun t k => st33 t k) ?_
  refine own_to (T33.setTop (mkF m 67 #[.val (.ref a), .val (.int x), .val (.int (0 : Int32))] [(.int (16383 : Int32)), (.int (0 : Int32)), (.ref a17)])) (fun t k => XT.sipushV X33.here hx rfl (16383 : Int32) (hb hby d3_64) (by decide) k) ?_
  refine own_to (T33.setTop (mkF m 68 #[.val (.ref a), .val (.int x), .val (.int (0 : Int32))] [(.int (0 : Int32)), (.ref a17)])) (fun t k => XS.iand X33.here hx rfl (hb hby d3_67) rfl (by rw [show ((0 : Int32) &&& (16383 : Int32)) = (0 : Int32) from by decide]; exact k)) ?_
  refine own_to (T33.setTop (mkF m 69 #[.val (.ref a), .val (.int x), .val (.int (0 : Int32))] [(.int x), (.int (0 : Int32)), (.ref a17)])) (fun t k => XS.iloadN X33.here hx rfl (hb hby d3_68) rfl k) ?_
  obtain ⟨c34, r34, q34, z34, p34, j34, f34⟩ := id F28
  have u34 := inb_of z34 (j := (0 : Int32)) ⟨by decide, by decide⟩
  obtain ⟨T34, h34, X34, e34, W34, st34⟩ := stI X33 hx hZ e33 r34 u34 (g := (mkF m 69 #[.val (.ref a), .val (.int x), .val (.int (0 : Int32))] [(.int x), (.int (0 : Int32)), (.ref a17)])) rfl rfl (hb hby d3_69)
  have N34 := Fr.snoc X34 N23 ge17
  have F35 := F24.wr W34
  have F36 := F25.other W34 (Or.inl ne_a_a17)
  have F37 := F26.other W34 (Or.inl ne_a_a17)
  have F38 := F27.wr W34
  have F39 := V29.other W34 ne_pg_a17
  have V40 : Arv Z h34 a17 k17 .int (16384 : Int32) [(.int x), (.int (0 : Int32)), (.int (0 : Int32)), (.int (0 : Int32)), (.int (0 : Int32))] (.int (0 : Int32)) := Arv.set r34 q34 z34 p34 j34 f34 rfl W34 0 rfl (Nat.le_of_ble_eq_true rfl)
  have Z41 : n0 ≤ h34.size := by rw [W34.size]; exact Z30
  refine own_to (T34.setTop (mkF m 70 #[.val (.ref a), .val (.int x), .val (.int (0 : Int32))] [])) (fun t k => st34 t k) ?_
  refine own_to (T34.setTop (mkF m 71 #[.val (.ref a), .val (.int x), .val (.int (0 : Int32))] [(.ref a)])) (fun t k => XS.aloadN X34.here hx rfl (hb hby d3_70) rfl rfl k) ?_
  refine own_to (T34.setTop (mkF m 72 #[.val (.ref a), .val (.int x), .val (.int (0 : Int32))] [(.ref a), (.ref a)])) (fun t k => XS.dup X34.here hx rfl (hb hby d3_71) rfl rfl k) ?_
  obtain ⟨T42, X42, e42, st42⟩ := getF X34 hx hZ hown (host := "") (Or.inl (hw _ (List.mem_of_getElem? (i := 18) rfl))) Via.refl e34 F37 (g := (mkF m 72 #[.val (.ref a), .val (.int x), .val (.int (0 : Int32))] [(.ref a), (.ref a)])) rfl rfl (hb hby d3_72)
  refine own_to (T42.setTop (mkF m 75 #[.val (.ref a), .val (.int x), .val (.int (0 : Int32))] [(.int (0 : Int32)), (.ref a)])) (fun t k => st42 t k) ?_
  refine own_to (T42.setTop (mkF m 76 #[.val (.ref a), .val (.int x), .val (.int (0 : Int32))] [(.int (0 : Int32)), (.ref a), (.int (0 : Int32))])) (fun t k => XT.dupX1 X42.here hx rfl (hb hby d3_75) rfl rfl rfl k) ?_
  refine own_to (T42.setTop (mkF m 77 #[.val (.ref a), .val (.int x), .val (.int (0 : Int32))] [(.int (1 : Int32)), (.int (0 : Int32)), (.ref a), (.int (0 : Int32))])) (fun t k => XT.iconstV X42.here hx rfl (1 : Int32) (hb hby d3_76) (by decide) k) ?_
  refine own_to (T42.setTop (mkF m 78 #[.val (.ref a), .val (.int x), .val (.int (0 : Int32))] [(.int (1 : Int32)), (.ref a), (.int (0 : Int32))])) (fun t k => XS.iadd X42.here hx rfl (hb hby d3_77) rfl (by rw [show ((0 : Int32) + (1 : Int32)) = (1 : Int32) from by decide]; exact k)) ?_
  obtain ⟨T43, h43, X43, e43, W43, st43⟩ := putF X42 hx hZ hown (host := "") (Or.inl (hw _ (List.mem_of_getElem? (i := 18) rfl))) Via.refl e42 F37 F35 (Or.inl (hw _ (List.mem_of_getElem? (i := 19) rfl))) (hw _ (List.mem_of_getElem? (i := 1) rfl)) (ty := .int) (by decide) rfl rfl (g := (mkF m 78 #[.val (.ref a), .val (.int x), .val (.int (0 : Int32))] [(.int (1 : Int32)), (.ref a), (.int (0 : Int32))])) rfl rfl (hb hby d3_78)
  have N43 := Fr.snoc X43 N34 ga
  have F44 := F35.wr W43
  have F45 := F36.other W43 (Or.inr (slot_ne (Or.inl (hw _ (List.mem_of_getElem? (i := 12) rfl))) (Or.inl (hw _ (List.mem_of_getElem? (i := 19) rfl))) (by decide) (by rfl) (by rfl)))
  have F46 := F37.same W43
  have F47 := F38.wr W43
  have F48 := F39.other W43 (Ne.symm nap)
  have F49 := V40.other W43 (Ne.symm ne_a_a17)
  have Z50 : n0 ≤ h43.size := by rw [W43.size]; exact Z41
  refine own_to (T43.setTop (mkF m 81 #[.val (.ref a), .val (.int x), .val (.int (0 : Int32))] [(.int (0 : Int32))])) (fun t k => st43 t k) ?_
  exact own_retI X43 hx hret hk (hb hby d3_81) (by decide) (by decide) ⟨a17, _, rfl, N43, ⟨(by rw [e43]; exact F44), (by rw [e43]; exact F45), (by rw [e43]; exact F46), (by rw [e43]; exact F48), Op, (by rw [e43]; exact F49)⟩, ⟨ge17, ne_a_a17, ne_pg_a17⟩, by rw [e43]; exact Nat.le_trans ga (Nat.le_of_lt F44.lt)⟩
def QA1 (Z : State) (a pg bk : Addr) (kp kb : ClassId) (u0 u1 u2 u3 u4 x : Int32) (h0 : Heap) (n0 : Nat) (v : Option Value) (h : Heap) (L : List Loc) : Prop := v = some (.int 1) ∧ Fr n0 L ∧ own_S1 Z h a pg bk kp kb 2 u0 x u2 u3 u4 ∧ n0 ≤ h.size
set_option maxRecDepth 65536 in
set_option maxHeartbeats 40000000 in
theorem rmA1 (l : Launch) (Z : State) (a0 : Array Value) (hw : ∀ d ∈ tables_1, d.before a0 Z = true) (a pg bk : Addr) (kp kb : ClassId) (u0 u1 u2 u3 u4 x : Int32) (h0 : Heap) (n0 : Nat) (Z0 : n0 ≤ h0.size) (St : own_S1 Z h0 a pg bk kp kb 1 u0 u1 u2 u3 u4) (Na : own_N0 n0 a pg) (Nb : own_N1 n0 a pg bk) :
    own_Ct l Z (⟨"com/example/clearance/clearance/IntColumn", "add", "(I)I"⟩ : MethodName) prog_22_method_3_code 3 (some .int) ({ frames := 0, cells := 0, slots := 0, locals := 0 } : Room) #[(.ref a), (.int x)] h0 (QA1 Z a pg bk kp kb u0 u1 u2 u3 u4 x h0 n0) := by
  refine own_body pn_3 ?_
  intro p e s m below meth cd s₁ hx hZ hby hml hown hnm hret hk X0 e0
  have N0 := Fr.nil n0
  refine own_to (s₁.setTop (mkF m 0 #[.val (.ref a), .val (.int x), .unset] [])) (fun t k => castTop (by first | (simp [entryFrame, mkF, argsToLocals, Value.category]; done) | rfl) k) ?_
  obtain ⟨E, Fp, Fs, Vp, Op, Vb⟩ := St
  obtain ⟨gb, nab, npb⟩ := Nb
  obtain ⟨ga, gp, nap⟩ := Na
  refine own_to (s₁.setTop (mkF m 1 #[.val (.ref a), .val (.int x), .unset] [(.ref a)])) (fun t k => XS.aloadN X0.here hx rfl (hb hby d3_0) rfl rfl k) ?_
  obtain ⟨T11, X11, e11, st11⟩ := getF X0 hx hZ hown (host := "") (Or.inl (hw _ (List.mem_of_getElem? (i := 18) rfl))) Via.refl e0 Fs (g := (mkF m 1 #[.val (.ref a), .val (.int x), .unset] [(.ref a)])) rfl rfl (hb hby d3_1)
  refine own_to (T11.setTop (mkF m 4 #[.val (.ref a), .val (.int x), .unset] [(.int (1 : Int32))])) (fun t k => st11 t k) ?_
  refine own_to (T11.setTop (mkF m 6 #[.val (.ref a), .val (.int x), .unset] [(.int (14 : Int32)), (.int (1 : Int32))])) (fun t k => XT.bipushV X11.here hx rfl (14 : Int32) (hb hby d3_4) (by decide) k) ?_
  refine own_to (T11.setTop (mkF m 7 #[.val (.ref a), .val (.int x), .unset] [(.int (0 : Int32))])) (fun t k => XT.iushr X11.here hx rfl (hb hby d3_6) rfl (by rw [show (XT.ushr (1 : Int32) (14 : Int32)) = (0 : Int32) from by decide]; exact k)) ?_
  refine own_to (T11.setTop (mkF m 8 #[.val (.ref a), .val (.int x), .val (.int (0 : Int32))] [])) (fun t k => XS.istoreN X11.here hx rfl (hb hby d3_7) rfl (l' := #[.val (.ref a), .val (.int x), .val (.int (0 : Int32))]) rfl k) ?_
  refine own_to (T11.setTop (mkF m 9 #[.val (.ref a), .val (.int x), .val (.int (0 : Int32))] [(.int (0 : Int32))])) (fun t k => XS.iloadN X11.here hx rfl (hb hby d3_8) rfl k) ?_
  refine own_to (T11.setTop (mkF m 10 #[.val (.ref a), .val (.int x), .val (.int (0 : Int32))] [(.ref a), (.int (0 : Int32))])) (fun t k => XS.aloadN X11.here hx rfl (hb hby d3_9) rfl rfl k) ?_
  obtain ⟨T12, X12, e12, st12⟩ := getF X11 hx hZ hown (host := "") (Or.inl (hw _ (List.mem_of_getElem? (i := 11) rfl))) Via.refl e11 Fp (g := (mkF m 10 #[.val (.ref a), .val (.int x), .val (.int (0 : Int32))] [(.ref a), (.int (0 : Int32))])) rfl rfl (hb hby d3_10)
  refine own_to (T12.setTop (mkF m 13 #[.val (.ref a), .val (.int x), .val (.int (0 : Int32))] [(.ref pg), (.int (0 : Int32))])) (fun t k => st12 t k) ?_
  obtain ⟨c13, r13, q13, z13, p13, j13, f13⟩ := id Vp
  refine own_to (T12.setTop (mkF m 14 #[.val (.ref a), .val (.int x), .val (.int (0 : Int32))] [(.int (16 : Int32)), (.int (0 : Int32))])) (fun t k => X12.arraylength hx (by rw [e12]; exact r13.1) (State.isArrayOf_alike hZ.alike r13.2.1) (g := (mkF m 13 #[.val (.ref a), .val (.int x), .val (.int (0 : Int32))] [(.ref pg), (.int (0 : Int32))])) rfl rfl (hb hby d3_13) t (by rw [len_of z13 p13]; exact k)) ?_
  refine own_to (T12.setTop (mkF m 34 #[.val (.ref a), .val (.int x), .val (.int (0 : Int32))] [])) (fun t k => XS.icmpYes X12.here hx rfl (pc0 := 14) (pc' := 34) rfl (hb hby d3_14) rfl (feq (by decide)).2 (by decide) (by decide) k) ?_
  refine own_to (T12.setTop (mkF m 35 #[.val (.ref a), .val (.int x), .val (.int (0 : Int32))] [(.ref a)])) (fun t k => XS.aloadN X12.here hx rfl (hb hby d3_34) rfl rfl k) ?_
  obtain ⟨T14, X14, e14, st14⟩ := getF X12 hx hZ hown (host := "") (Or.inl (hw _ (List.mem_of_getElem? (i := 11) rfl))) Via.refl e12 Fp (g := (mkF m 35 #[.val (.ref a), .val (.int x), .val (.int (0 : Int32))] [(.ref a)])) rfl rfl (hb hby d3_35)
  refine own_to (T14.setTop (mkF m 38 #[.val (.ref a), .val (.int x), .val (.int (0 : Int32))] [(.ref pg)])) (fun t k => st14 t k) ?_
  refine own_to (T14.setTop (mkF m 39 #[.val (.ref a), .val (.int x), .val (.int (0 : Int32))] [(.int (0 : Int32)), (.ref pg)])) (fun t k => XS.iloadN X14.here hx rfl (hb hby d3_38) rfl k) ?_
  obtain ⟨c15, r15, q15, z15, p15, j15, f15⟩ := id Vp
  have u15 := inb_of z15 (j := (0 : Int32)) ⟨by decide, by decide⟩
  refine own_to (T14.setTop (mkF m 40 #[.val (.ref a), .val (.int x), .val (.int (0 : Int32))] [(.ref bk)])) (fun t k => X14.aaload hx (j := (0 : Int32)) (v := (.ref bk)) (by rw [e14]; exact r15.1) (State.isArrayOf_alike hZ.alike r15.2.1) rfl r15.2.2 u15 (j15.at u15 rfl) (g := (mkF m 39 #[.val (.ref a), .val (.int x), .val (.int (0 : Int32))] [(.int (0 : Int32)), (.ref pg)])) rfl rfl (hb hby d3_39) t k) ?_
  refine own_to (T14.setTop (mkF m 54 #[.val (.ref a), .val (.int x), .val (.int (0 : Int32))] [])) (fun t k => XT.ifnonnullYes X14.here hx rfl (pc0 := 40) (pc' := 54) rfl (hb hby d3_40) rfl (by decide) (by decide) k) ?_
  refine own_to (T14.setTop (mkF m 55 #[.val (.ref a), .val (.int x), .val (.int (0 : Int32))] [(.ref a)])) (fun t k => XS.aloadN X14.here hx rfl (hb hby d3_54) rfl rfl k) ?_
  obtain ⟨T16, X16, e16, st16⟩ := getF X14 hx hZ hown (host := "") (Or.inl (hw _ (List.mem_of_getElem? (i := 11) rfl))) Via.refl e14 Fp (g := (mkF m 55 #[.val (.ref a), .val (.int x), .val (.int (0 : Int32))] [(.ref a)])) rfl rfl (hb hby d3_55)
  refine own_to (T16.setTop (mkF m 58 #[.val (.ref a), .val (.int x), .val (.int (0 : Int32))] [(.ref pg)])) (fun t k => st16 t k) ?_
  refine own_to (T16.setTop (mkF m 59 #[.val (.ref a), .val (.int x), .val (.int (0 : Int32))] [(.int (0 : Int32)), (.ref pg)])) (fun t k => XS.iloadN X16.here hx rfl (hb hby d3_58) rfl k) ?_
  obtain ⟨c17, r17, q17, z17, p17, j17, f17⟩ := id Vp
  have u17 := inb_of z17 (j := (0 : Int32)) ⟨by decide, by decide⟩
  refine own_to (T16.setTop (mkF m 60 #[.val (.ref a), .val (.int x), .val (.int (0 : Int32))] [(.ref bk)])) (fun t k => X16.aaload hx (j := (0 : Int32)) (v := (.ref bk)) (by rw [e16]; exact r17.1) (State.isArrayOf_alike hZ.alike r17.2.1) rfl r17.2.2 u17 (j17.at u17 rfl) (g := (mkF m 59 #[.val (.ref a), .val (.int x), .val (.int (0 : Int32))] [(.int (0 : Int32)), (.ref pg)])) rfl rfl (hb hby d3_59) t k) ?_
  refine own_to (T16.setTop (mkF m 61 #[.val (.ref a), .val (.int x), .val (.int (0 : Int32))] [(.ref a), (.ref bk)])) (fun t k => XS.aloadN X16.here hx rfl (hb hby d3_60) rfl rfl k) ?_
  obtain ⟨T18, X18, e18, st18⟩ := getF X16 hx hZ hown (host := "") (Or.inl (hw _ (List.mem_of_getElem? (i := 18) rfl))) Via.refl e16 Fs (g := (mkF m 61 #[.val (.ref a), .val (.int x), .val (.int (0 : Int32))] [(.ref a), (.ref bk)])) rfl rfl (hb hby d3_61)
  refine own_to (T18.setTop (mkF m 64 #[.val (.ref a), .val (.int x), .val (.int (0 : Int32))] [(.int (1 : Int32)), (.ref bk)])) (fun t k => st18 t k) ?_
  refine own_to (T18.setTop (mkF m 67 #[.val (.ref a), .val (.int x), .val (.int (0 : Int32))] [(.int (16383 : Int32)), (.int (1 : Int32)), (.ref bk)])) (fun t k => XT.sipushV X18.here hx rfl (16383 : Int32) (hb hby d3_64) (by decide) k) ?_
  refine own_to (T18.setTop (mkF m 68 #[.val (.ref a), .val (.int x), .val (.int (0 : Int32))] [(.int (1 : Int32)), (.ref bk)])) (fun t k => XS.iand X18.here hx rfl (hb hby d3_67) rfl (by rw [show ((1 : Int32) &&& (16383 : Int32)) = (1 : Int32) from by decide]; exact k)) ?_
  refine own_to (T18.setTop (mkF m 69 #[.val (.ref a), .val (.int x), .val (.int (0 : Int32))] [(.int x), (.int (1 : Int32)), (.ref bk)])) (fun t k => XS.iloadN X18.here hx rfl (hb hby d3_68) rfl k) ?_
  obtain ⟨c19, r19, q19, z19, p19, j19, f19⟩ := id Vb
  have u19 := inb_of z19 (j := (1 : Int32)) ⟨by decide, by decide⟩
  obtain ⟨T19, h19, X19, e19, W19, st19⟩ := stI X18 hx hZ e18 r19 u19 (g := (mkF m 69 #[.val (.ref a), .val (.int x), .val (.int (0 : Int32))] [(.int x), (.int (1 : Int32)), (.ref bk)])) rfl rfl (hb hby d3_69)
  have N19 := Fr.snoc X19 N0 gb
  have F20 := E.wr W19
  have F21 := Fp.other W19 (Or.inl nab)
  have F22 := Fs.other W19 (Or.inl nab)
  have F23 := Vp.other W19 npb
  have V24 : Arv Z h19 bk kb .int (16384 : Int32) [(.int u0), (.int x), (.int u2), (.int u3), (.int u4)] (.int (0 : Int32)) := Arv.set r19 q19 z19 p19 j19 f19 rfl W19 1 rfl (Nat.le_of_ble_eq_true rfl)
  have Z25 : n0 ≤ h19.size := by rw [W19.size]; exact Z0
  refine own_to (T19.setTop (mkF m 70 #[.val (.ref a), .val (.int x), .val (.int (0 : Int32))] [])) (fun t k => st19 t k) ?_
  refine own_to (T19.setTop (mkF m 71 #[.val (.ref a), .val (.int x), .val (.int (0 : Int32))] [(.ref a)])) (fun t k => XS.aloadN X19.here hx rfl (hb hby d3_70) rfl rfl k) ?_
  refine own_to (T19.setTop (mkF m 72 #[.val (.ref a), .val (.int x), .val (.int (0 : Int32))] [(.ref a), (.ref a)])) (fun t k => XS.dup X19.here hx rfl (hb hby d3_71) rfl rfl k) ?_
  obtain ⟨T26, X26, e26, st26⟩ := getF X19 hx hZ hown (host := "") (Or.inl (hw _ (List.mem_of_getElem? (i := 18) rfl))) Via.refl e19 F22 (g := (mkF m 72 #[.val (.ref a), .val (.int x), .val (.int (0 : Int32))] [(.ref a), (.ref a)])) rfl rfl (hb hby d3_72)
  refine own_to (T26.setTop (mkF m 75 #[.val (.ref a), .val (.int x), .val (.int (0 : Int32))] [(.int (1 : Int32)), (.ref a)])) (fun t k => st26 t k) ?_
  refine own_to (T26.setTop (mkF m 76 #[.val (.ref a), .val (.int x), .val (.int (0 : Int32))] [(.int (1 : Int32)), (.ref a), (.int (1 : Int32))])) (fun t k => XT.dupX1 X26.here hx rfl (hb hby d3_75) rfl rfl rfl k) ?_
  refine own_to (T26.setTop (mkF m 77 #[.val (.ref a), .val (.int x), .val (.int (0 : Int32))] [(.int (1 : Int32)), (.int (1 : Int32)), (.ref a), (.int (1 : Int32))])) (fun t k => XT.iconstV X26.here hx rfl (1 : Int32) (hb hby d3_76) (by decide) k) ?_
  refine own_to (T26.setTop (mkF m 78 #[.val (.ref a), .val (.int x), .val (.int (0 : Int32))] [(.int (2 : Int32)), (.ref a), (.int (1 : Int32))])) (fun t k => XS.iadd X26.here hx rfl (hb hby d3_77) rfl (by rw [show ((1 : Int32) + (1 : Int32)) = (2 : Int32) from by decide]; exact k)) ?_
  obtain ⟨T27, h27, X27, e27, W27, st27⟩ := putF X26 hx hZ hown (host := "") (Or.inl (hw _ (List.mem_of_getElem? (i := 18) rfl))) Via.refl e26 F22 F20 (Or.inl (hw _ (List.mem_of_getElem? (i := 19) rfl))) (hw _ (List.mem_of_getElem? (i := 1) rfl)) (ty := .int) (by decide) rfl rfl (g := (mkF m 78 #[.val (.ref a), .val (.int x), .val (.int (0 : Int32))] [(.int (2 : Int32)), (.ref a), (.int (1 : Int32))])) rfl rfl (hb hby d3_78)
  have N27 := Fr.snoc X27 N19 ga
  have F28 := F20.wr W27
  have F29 := F21.other W27 (Or.inr (slot_ne (Or.inl (hw _ (List.mem_of_getElem? (i := 12) rfl))) (Or.inl (hw _ (List.mem_of_getElem? (i := 19) rfl))) (by decide) (by rfl) (by rfl)))
  have F30 := F22.same W27
  have F31 := F23.other W27 (Ne.symm nap)
  have F32 := V24.other W27 (Ne.symm nab)
  have Z33 : n0 ≤ h27.size := by rw [W27.size]; exact Z25
  refine own_to (T27.setTop (mkF m 81 #[.val (.ref a), .val (.int x), .val (.int (0 : Int32))] [(.int (1 : Int32))])) (fun t k => st27 t k) ?_
  exact own_retI X27 hx hret hk (hb hby d3_81) (by decide) (by decide) ⟨rfl, N27, ⟨(by rw [e27]; exact F28), (by rw [e27]; exact F29), (by rw [e27]; exact F30), (by rw [e27]; exact F31), Op, (by rw [e27]; exact F32)⟩, by rw [e27]; exact Nat.le_trans ga (Nat.le_of_lt F28.lt)⟩
def QA2 (Z : State) (a pg bk : Addr) (kp kb : ClassId) (u0 u1 u2 u3 u4 x : Int32) (h0 : Heap) (n0 : Nat) (v : Option Value) (h : Heap) (L : List Loc) : Prop := v = some (.int 2) ∧ Fr n0 L ∧ own_S1 Z h a pg bk kp kb 3 u0 u1 x u3 u4 ∧ n0 ≤ h.size
set_option maxRecDepth 65536 in
set_option maxHeartbeats 40000000 in
theorem rmA2 (l : Launch) (Z : State) (a0 : Array Value) (hw : ∀ d ∈ tables_1, d.before a0 Z = true) (a pg bk : Addr) (kp kb : ClassId) (u0 u1 u2 u3 u4 x : Int32) (h0 : Heap) (n0 : Nat) (Z0 : n0 ≤ h0.size) (St : own_S1 Z h0 a pg bk kp kb 2 u0 u1 u2 u3 u4) (Na : own_N0 n0 a pg) (Nb : own_N1 n0 a pg bk) :
    own_Ct l Z (⟨"com/example/clearance/clearance/IntColumn", "add", "(I)I"⟩ : MethodName) prog_22_method_3_code 3 (some .int) ({ frames := 0, cells := 0, slots := 0, locals := 0 } : Room) #[(.ref a), (.int x)] h0 (QA2 Z a pg bk kp kb u0 u1 u2 u3 u4 x h0 n0) := by
  refine own_body pn_3 ?_
  intro p e s m below meth cd s₁ hx hZ hby hml hown hnm hret hk X0 e0
  have N0 := Fr.nil n0
  refine own_to (s₁.setTop (mkF m 0 #[.val (.ref a), .val (.int x), .unset] [])) (fun t k => castTop (by first | (simp [entryFrame, mkF, argsToLocals, Value.category]; done) | rfl) k) ?_
  obtain ⟨E, Fp, Fs, Vp, Op, Vb⟩ := St
  obtain ⟨gb, nab, npb⟩ := Nb
  obtain ⟨ga, gp, nap⟩ := Na
  refine own_to (s₁.setTop (mkF m 1 #[.val (.ref a), .val (.int x), .unset] [(.ref a)])) (fun t k => XS.aloadN X0.here hx rfl (hb hby d3_0) rfl rfl k) ?_
  obtain ⟨T11, X11, e11, st11⟩ := getF X0 hx hZ hown (host := "") (Or.inl (hw _ (List.mem_of_getElem? (i := 18) rfl))) Via.refl e0 Fs (g := (mkF m 1 #[.val (.ref a), .val (.int x), .unset] [(.ref a)])) rfl rfl (hb hby d3_1)
  refine own_to (T11.setTop (mkF m 4 #[.val (.ref a), .val (.int x), .unset] [(.int (2 : Int32))])) (fun t k => st11 t k) ?_
  refine own_to (T11.setTop (mkF m 6 #[.val (.ref a), .val (.int x), .unset] [(.int (14 : Int32)), (.int (2 : Int32))])) (fun t k => XT.bipushV X11.here hx rfl (14 : Int32) (hb hby d3_4) (by decide) k) ?_
  refine own_to (T11.setTop (mkF m 7 #[.val (.ref a), .val (.int x), .unset] [(.int (0 : Int32))])) (fun t k => XT.iushr X11.here hx rfl (hb hby d3_6) rfl (by rw [show (XT.ushr (2 : Int32) (14 : Int32)) = (0 : Int32) from by decide]; exact k)) ?_
  refine own_to (T11.setTop (mkF m 8 #[.val (.ref a), .val (.int x), .val (.int (0 : Int32))] [])) (fun t k => XS.istoreN X11.here hx rfl (hb hby d3_7) rfl (l' := #[.val (.ref a), .val (.int x), .val (.int (0 : Int32))]) rfl k) ?_
  refine own_to (T11.setTop (mkF m 9 #[.val (.ref a), .val (.int x), .val (.int (0 : Int32))] [(.int (0 : Int32))])) (fun t k => XS.iloadN X11.here hx rfl (hb hby d3_8) rfl k) ?_
  refine own_to (T11.setTop (mkF m 10 #[.val (.ref a), .val (.int x), .val (.int (0 : Int32))] [(.ref a), (.int (0 : Int32))])) (fun t k => XS.aloadN X11.here hx rfl (hb hby d3_9) rfl rfl k) ?_
  obtain ⟨T12, X12, e12, st12⟩ := getF X11 hx hZ hown (host := "") (Or.inl (hw _ (List.mem_of_getElem? (i := 11) rfl))) Via.refl e11 Fp (g := (mkF m 10 #[.val (.ref a), .val (.int x), .val (.int (0 : Int32))] [(.ref a), (.int (0 : Int32))])) rfl rfl (hb hby d3_10)
  refine own_to (T12.setTop (mkF m 13 #[.val (.ref a), .val (.int x), .val (.int (0 : Int32))] [(.ref pg), (.int (0 : Int32))])) (fun t k => st12 t k) ?_
  obtain ⟨c13, r13, q13, z13, p13, j13, f13⟩ := id Vp
  refine own_to (T12.setTop (mkF m 14 #[.val (.ref a), .val (.int x), .val (.int (0 : Int32))] [(.int (16 : Int32)), (.int (0 : Int32))])) (fun t k => X12.arraylength hx (by rw [e12]; exact r13.1) (State.isArrayOf_alike hZ.alike r13.2.1) (g := (mkF m 13 #[.val (.ref a), .val (.int x), .val (.int (0 : Int32))] [(.ref pg), (.int (0 : Int32))])) rfl rfl (hb hby d3_13) t (by rw [len_of z13 p13]; exact k)) ?_
  refine own_to (T12.setTop (mkF m 34 #[.val (.ref a), .val (.int x), .val (.int (0 : Int32))] [])) (fun t k => XS.icmpYes X12.here hx rfl (pc0 := 14) (pc' := 34) rfl (hb hby d3_14) rfl (feq (by decide)).2 (by decide) (by decide) k) ?_
  refine own_to (T12.setTop (mkF m 35 #[.val (.ref a), .val (.int x), .val (.int (0 : Int32))] [(.ref a)])) (fun t k => XS.aloadN X12.here hx rfl (hb hby d3_34) rfl rfl k) ?_
  obtain ⟨T14, X14, e14, st14⟩ := getF X12 hx hZ hown (host := "") (Or.inl (hw _ (List.mem_of_getElem? (i := 11) rfl))) Via.refl e12 Fp (g := (mkF m 35 #[.val (.ref a), .val (.int x), .val (.int (0 : Int32))] [(.ref a)])) rfl rfl (hb hby d3_35)
  refine own_to (T14.setTop (mkF m 38 #[.val (.ref a), .val (.int x), .val (.int (0 : Int32))] [(.ref pg)])) (fun t k => st14 t k) ?_
  refine own_to (T14.setTop (mkF m 39 #[.val (.ref a), .val (.int x), .val (.int (0 : Int32))] [(.int (0 : Int32)), (.ref pg)])) (fun t k => XS.iloadN X14.here hx rfl (hb hby d3_38) rfl k) ?_
  obtain ⟨c15, r15, q15, z15, p15, j15, f15⟩ := id Vp
  have u15 := inb_of z15 (j := (0 : Int32)) ⟨by decide, by decide⟩
  refine own_to (T14.setTop (mkF m 40 #[.val (.ref a), .val (.int x), .val (.int (0 : Int32))] [(.ref bk)])) (fun t k => X14.aaload hx (j := (0 : Int32)) (v := (.ref bk)) (by rw [e14]; exact r15.1) (State.isArrayOf_alike hZ.alike r15.2.1) rfl r15.2.2 u15 (j15.at u15 rfl) (g := (mkF m 39 #[.val (.ref a), .val (.int x), .val (.int (0 : Int32))] [(.int (0 : Int32)), (.ref pg)])) rfl rfl (hb hby d3_39) t k) ?_
  refine own_to (T14.setTop (mkF m 54 #[.val (.ref a), .val (.int x), .val (.int (0 : Int32))] [])) (fun t k => XT.ifnonnullYes X14.here hx rfl (pc0 := 40) (pc' := 54) rfl (hb hby d3_40) rfl (by decide) (by decide) k) ?_
  refine own_to (T14.setTop (mkF m 55 #[.val (.ref a), .val (.int x), .val (.int (0 : Int32))] [(.ref a)])) (fun t k => XS.aloadN X14.here hx rfl (hb hby d3_54) rfl rfl k) ?_
  obtain ⟨T16, X16, e16, st16⟩ := getF X14 hx hZ hown (host := "") (Or.inl (hw _ (List.mem_of_getElem? (i := 11) rfl))) Via.refl e14 Fp (g := (mkF m 55 #[.val (.ref a), .val (.int x), .val (.int (0 : Int32))] [(.ref a)])) rfl rfl (hb hby d3_55)
  refine own_to (T16.setTop (mkF m 58 #[.val (.ref a), .val (.int x), .val (.int (0 : Int32))] [(.ref pg)])) (fun t k => st16 t k) ?_
  refine own_to (T16.setTop (mkF m 59 #[.val (.ref a), .val (.int x), .val (.int (0 : Int32))] [(.int (0 : Int32)), (.ref pg)])) (fun t k => XS.iloadN X16.here hx rfl (hb hby d3_58) rfl k) ?_
  obtain ⟨c17, r17, q17, z17, p17, j17, f17⟩ := id Vp
  have u17 := inb_of z17 (j := (0 : Int32)) ⟨by decide, by decide⟩
  refine own_to (T16.setTop (mkF m 60 #[.val (.ref a), .val (.int x), .val (.int (0 : Int32))] [(.ref bk)])) (fun t k => X16.aaload hx (j := (0 : Int32)) (v := (.ref bk)) (by rw [e16]; exact r17.1) (State.isArrayOf_alike hZ.alike r17.2.1) rfl r17.2.2 u17 (j17.at u17 rfl) (g := (mkF m 59 #[.val (.ref a), .val (.int x), .val (.int (0 : Int32))] [(.int (0 : Int32)), (.ref pg)])) rfl rfl (hb hby d3_59) t k) ?_
  refine own_to (T16.setTop (mkF m 61 #[.val (.ref a), .val (.int x), .val (.int (0 : Int32))] [(.ref a), (.ref bk)])) (fun t k => XS.aloadN X16.here hx rfl (hb hby d3_60) rfl rfl k) ?_
  obtain ⟨T18, X18, e18, st18⟩ := getF X16 hx hZ hown (host := "") (Or.inl (hw _ (List.mem_of_getElem? (i := 18) rfl))) Via.refl e16 Fs (g := (mkF m 61 #[.val (.ref a), .val (.int x), .val (.int (0 : Int32))] [(.ref a), (.ref bk)])) rfl rfl (hb hby d3_61)
  refine own_to (T18.setTop (mkF m 64 #[.val (.ref a), .val (.int x), .val (.int (0 : Int32))] [(.int (2 : Int32)), (.ref bk)])) (fun t k => st18 t k) ?_
  refine own_to (T18.setTop (mkF m 67 #[.val (.ref a), .val (.int x), .val (.int (0 : Int32))] [(.int (16383 : Int32)), (.int (2 : Int32)), (.ref bk)])) (fun t k => XT.sipushV X18.here hx rfl (16383 : Int32) (hb hby d3_64) (by decide) k) ?_
  refine own_to (T18.setTop (mkF m 68 #[.val (.ref a), .val (.int x), .val (.int (0 : Int32))] [(.int (2 : Int32)), (.ref bk)])) (fun t k => XS.iand X18.here hx rfl (hb hby d3_67) rfl (by rw [show ((2 : Int32) &&& (16383 : Int32)) = (2 : Int32) from by decide]; exact k)) ?_
  refine own_to (T18.setTop (mkF m 69 #[.val (.ref a), .val (.int x), .val (.int (0 : Int32))] [(.int x), (.int (2 : Int32)), (.ref bk)])) (fun t k => XS.iloadN X18.here hx rfl (hb hby d3_68) rfl k) ?_
  obtain ⟨c19, r19, q19, z19, p19, j19, f19⟩ := id Vb
  have u19 := inb_of z19 (j := (2 : Int32)) ⟨by decide, by decide⟩
  obtain ⟨T19, h19, X19, e19, W19, st19⟩ := stI X18 hx hZ e18 r19 u19 (g := (mkF m 69 #[.val (.ref a), .val (.int x), .val (.int (0 : Int32))] [(.int x), (.int (2 : Int32)), (.ref bk)])) rfl rfl (hb hby d3_69)
  have N19 := Fr.snoc X19 N0 gb
  have F20 := E.wr W19
  have F21 := Fp.other W19 (Or.inl nab)
  have F22 := Fs.other W19 (Or.inl nab)
  have F23 := Vp.other W19 npb
  have V24 : Arv Z h19 bk kb .int (16384 : Int32) [(.int u0), (.int u1), (.int x), (.int u3), (.int u4)] (.int (0 : Int32)) := Arv.set r19 q19 z19 p19 j19 f19 rfl W19 2 rfl (Nat.le_of_ble_eq_true rfl)
  have Z25 : n0 ≤ h19.size := by rw [W19.size]; exact Z0
  refine own_to (T19.setTop (mkF m 70 #[.val (.ref a), .val (.int x), .val (.int (0 : Int32))] [])) (fun t k => st19 t k) ?_
  refine own_to (T19.setTop (mkF m 71 #[.val (.ref a), .val (.int x), .val (.int (0 : Int32))] [(.ref a)])) (fun t k => XS.aloadN X19.here hx rfl (hb hby d3_70) rfl rfl k) ?_
  refine own_to (T19.setTop (mkF m 72 #[.val (.ref a), .val (.int x), .val (.int (0 : Int32))] [(.ref a), (.ref a)])) (fun t k => XS.dup X19.here hx rfl (hb hby d3_71) rfl rfl k) ?_
  obtain ⟨T26, X26, e26, st26⟩ := getF X19 hx hZ hown (host := "") (Or.inl (hw _ (List.mem_of_getElem? (i := 18) rfl))) Via.refl e19 F22 (g := (mkF m 72 #[.val (.ref a), .val (.int x), .val (.int (0 : Int32))] [(.ref a), (.ref a)])) rfl rfl (hb hby d3_72)
  refine own_to (T26.setTop (mkF m 75 #[.val (.ref a), .val (.int x), .val (.int (0 : Int32))] [(.int (2 : Int32)), (.ref a)])) (fun t k => st26 t k) ?_
  refine own_to (T26.setTop (mkF m 76 #[.val (.ref a), .val (.int x), .val (.int (0 : Int32))] [(.int (2 : Int32)), (.ref a), (.int (2 : Int32))])) (fun t k => XT.dupX1 X26.here hx rfl (hb hby d3_75) rfl rfl rfl k) ?_
  refine own_to (T26.setTop (mkF m 77 #[.val (.ref a), .val (.int x), .val (.int (0 : Int32))] [(.int (1 : Int32)), (.int (2 : Int32)), (.ref a), (.int (2 : Int32))])) (fun t k => XT.iconstV X26.here hx rfl (1 : Int32) (hb hby d3_76) (by decide) k) ?_
  refine own_to (T26.setTop (mkF m 78 #[.val (.ref a), .val (.int x), .val (.int (0 : Int32))] [(.int (3 : Int32)), (.ref a), (.int (2 : Int32))])) (fun t k => XS.iadd X26.here hx rfl (hb hby d3_77) rfl (by rw [show ((2 : Int32) + (1 : Int32)) = (3 : Int32) from by decide]; exact k)) ?_
  obtain ⟨T27, h27, X27, e27, W27, st27⟩ := putF X26 hx hZ hown (host := "") (Or.inl (hw _ (List.mem_of_getElem? (i := 18) rfl))) Via.refl e26 F22 F20 (Or.inl (hw _ (List.mem_of_getElem? (i := 19) rfl))) (hw _ (List.mem_of_getElem? (i := 1) rfl)) (ty := .int) (by decide) rfl rfl (g := (mkF m 78 #[.val (.ref a), .val (.int x), .val (.int (0 : Int32))] [(.int (3 : Int32)), (.ref a), (.int (2 : Int32))])) rfl rfl (hb hby d3_78)
  have N27 := Fr.snoc X27 N19 ga
  have F28 := F20.wr W27
  have F29 := F21.other W27 (Or.inr (slot_ne (Or.inl (hw _ (List.mem_of_getElem? (i := 12) rfl))) (Or.inl (hw _ (List.mem_of_getElem? (i := 19) rfl))) (by decide) (by rfl) (by rfl)))
  have F30 := F22.same W27
  have F31 := F23.other W27 (Ne.symm nap)
  have F32 := V24.other W27 (Ne.symm nab)
  have Z33 : n0 ≤ h27.size := by rw [W27.size]; exact Z25
  refine own_to (T27.setTop (mkF m 81 #[.val (.ref a), .val (.int x), .val (.int (0 : Int32))] [(.int (2 : Int32))])) (fun t k => st27 t k) ?_
  exact own_retI X27 hx hret hk (hb hby d3_81) (by decide) (by decide) ⟨rfl, N27, ⟨(by rw [e27]; exact F28), (by rw [e27]; exact F29), (by rw [e27]; exact F30), (by rw [e27]; exact F31), Op, (by rw [e27]; exact F32)⟩, by rw [e27]; exact Nat.le_trans ga (Nat.le_of_lt F28.lt)⟩
def QA3 (Z : State) (a pg bk : Addr) (kp kb : ClassId) (u0 u1 u2 u3 u4 x : Int32) (h0 : Heap) (n0 : Nat) (v : Option Value) (h : Heap) (L : List Loc) : Prop := v = some (.int 3) ∧ Fr n0 L ∧ own_S1 Z h a pg bk kp kb 4 u0 u1 u2 x u4 ∧ n0 ≤ h.size
set_option maxRecDepth 65536 in
set_option maxHeartbeats 40000000 in
theorem rmA3 (l : Launch) (Z : State) (a0 : Array Value) (hw : ∀ d ∈ tables_1, d.before a0 Z = true) (a pg bk : Addr) (kp kb : ClassId) (u0 u1 u2 u3 u4 x : Int32) (h0 : Heap) (n0 : Nat) (Z0 : n0 ≤ h0.size) (St : own_S1 Z h0 a pg bk kp kb 3 u0 u1 u2 u3 u4) (Na : own_N0 n0 a pg) (Nb : own_N1 n0 a pg bk) :
    own_Ct l Z (⟨"com/example/clearance/clearance/IntColumn", "add", "(I)I"⟩ : MethodName) prog_22_method_3_code 3 (some .int) ({ frames := 0, cells := 0, slots := 0, locals := 0 } : Room) #[(.ref a), (.int x)] h0 (QA3 Z a pg bk kp kb u0 u1 u2 u3 u4 x h0 n0) := by
  refine own_body pn_3 ?_
  intro p e s m below meth cd s₁ hx hZ hby hml hown hnm hret hk X0 e0
  have N0 := Fr.nil n0
  refine own_to (s₁.setTop (mkF m 0 #[.val (.ref a), .val (.int x), .unset] [])) (fun t k => castTop (by first | (simp [entryFrame, mkF, argsToLocals, Value.category]; done) | rfl) k) ?_
  obtain ⟨E, Fp, Fs, Vp, Op, Vb⟩ := St
  obtain ⟨gb, nab, npb⟩ := Nb
  obtain ⟨ga, gp, nap⟩ := Na
  refine own_to (s₁.setTop (mkF m 1 #[.val (.ref a), .val (.int x), .unset] [(.ref a)])) (fun t k => XS.aloadN X0.here hx rfl (hb hby d3_0) rfl rfl k) ?_
  obtain ⟨T11, X11, e11, st11⟩ := getF X0 hx hZ hown (host := "") (Or.inl (hw _ (List.mem_of_getElem? (i := 18) rfl))) Via.refl e0 Fs (g := (mkF m 1 #[.val (.ref a), .val (.int x), .unset] [(.ref a)])) rfl rfl (hb hby d3_1)
  refine own_to (T11.setTop (mkF m 4 #[.val (.ref a), .val (.int x), .unset] [(.int (3 : Int32))])) (fun t k => st11 t k) ?_
  refine own_to (T11.setTop (mkF m 6 #[.val (.ref a), .val (.int x), .unset] [(.int (14 : Int32)), (.int (3 : Int32))])) (fun t k => XT.bipushV X11.here hx rfl (14 : Int32) (hb hby d3_4) (by decide) k) ?_
  refine own_to (T11.setTop (mkF m 7 #[.val (.ref a), .val (.int x), .unset] [(.int (0 : Int32))])) (fun t k => XT.iushr X11.here hx rfl (hb hby d3_6) rfl (by rw [show (XT.ushr (3 : Int32) (14 : Int32)) = (0 : Int32) from by decide]; exact k)) ?_
  refine own_to (T11.setTop (mkF m 8 #[.val (.ref a), .val (.int x), .val (.int (0 : Int32))] [])) (fun t k => XS.istoreN X11.here hx rfl (hb hby d3_7) rfl (l' := #[.val (.ref a), .val (.int x), .val (.int (0 : Int32))]) rfl k) ?_
  refine own_to (T11.setTop (mkF m 9 #[.val (.ref a), .val (.int x), .val (.int (0 : Int32))] [(.int (0 : Int32))])) (fun t k => XS.iloadN X11.here hx rfl (hb hby d3_8) rfl k) ?_
  refine own_to (T11.setTop (mkF m 10 #[.val (.ref a), .val (.int x), .val (.int (0 : Int32))] [(.ref a), (.int (0 : Int32))])) (fun t k => XS.aloadN X11.here hx rfl (hb hby d3_9) rfl rfl k) ?_
  obtain ⟨T12, X12, e12, st12⟩ := getF X11 hx hZ hown (host := "") (Or.inl (hw _ (List.mem_of_getElem? (i := 11) rfl))) Via.refl e11 Fp (g := (mkF m 10 #[.val (.ref a), .val (.int x), .val (.int (0 : Int32))] [(.ref a), (.int (0 : Int32))])) rfl rfl (hb hby d3_10)
  refine own_to (T12.setTop (mkF m 13 #[.val (.ref a), .val (.int x), .val (.int (0 : Int32))] [(.ref pg), (.int (0 : Int32))])) (fun t k => st12 t k) ?_
  obtain ⟨c13, r13, q13, z13, p13, j13, f13⟩ := id Vp
  refine own_to (T12.setTop (mkF m 14 #[.val (.ref a), .val (.int x), .val (.int (0 : Int32))] [(.int (16 : Int32)), (.int (0 : Int32))])) (fun t k => X12.arraylength hx (by rw [e12]; exact r13.1) (State.isArrayOf_alike hZ.alike r13.2.1) (g := (mkF m 13 #[.val (.ref a), .val (.int x), .val (.int (0 : Int32))] [(.ref pg), (.int (0 : Int32))])) rfl rfl (hb hby d3_13) t (by rw [len_of z13 p13]; exact k)) ?_
  refine own_to (T12.setTop (mkF m 34 #[.val (.ref a), .val (.int x), .val (.int (0 : Int32))] [])) (fun t k => XS.icmpYes X12.here hx rfl (pc0 := 14) (pc' := 34) rfl (hb hby d3_14) rfl (feq (by decide)).2 (by decide) (by decide) k) ?_
  refine own_to (T12.setTop (mkF m 35 #[.val (.ref a), .val (.int x), .val (.int (0 : Int32))] [(.ref a)])) (fun t k => XS.aloadN X12.here hx rfl (hb hby d3_34) rfl rfl k) ?_
  obtain ⟨T14, X14, e14, st14⟩ := getF X12 hx hZ hown (host := "") (Or.inl (hw _ (List.mem_of_getElem? (i := 11) rfl))) Via.refl e12 Fp (g := (mkF m 35 #[.val (.ref a), .val (.int x), .val (.int (0 : Int32))] [(.ref a)])) rfl rfl (hb hby d3_35)
  refine own_to (T14.setTop (mkF m 38 #[.val (.ref a), .val (.int x), .val (.int (0 : Int32))] [(.ref pg)])) (fun t k => st14 t k) ?_
  refine own_to (T14.setTop (mkF m 39 #[.val (.ref a), .val (.int x), .val (.int (0 : Int32))] [(.int (0 : Int32)), (.ref pg)])) (fun t k => XS.iloadN X14.here hx rfl (hb hby d3_38) rfl k) ?_
  obtain ⟨c15, r15, q15, z15, p15, j15, f15⟩ := id Vp
  have u15 := inb_of z15 (j := (0 : Int32)) ⟨by decide, by decide⟩
  refine own_to (T14.setTop (mkF m 40 #[.val (.ref a), .val (.int x), .val (.int (0 : Int32))] [(.ref bk)])) (fun t k => X14.aaload hx (j := (0 : Int32)) (v := (.ref bk)) (by rw [e14]; exact r15.1) (State.isArrayOf_alike hZ.alike r15.2.1) rfl r15.2.2 u15 (j15.at u15 rfl) (g := (mkF m 39 #[.val (.ref a), .val (.int x), .val (.int (0 : Int32))] [(.int (0 : Int32)), (.ref pg)])) rfl rfl (hb hby d3_39) t k) ?_
  refine own_to (T14.setTop (mkF m 54 #[.val (.ref a), .val (.int x), .val (.int (0 : Int32))] [])) (fun t k => XT.ifnonnullYes X14.here hx rfl (pc0 := 40) (pc' := 54) rfl (hb hby d3_40) rfl (by decide) (by decide) k) ?_
  refine own_to (T14.setTop (mkF m 55 #[.val (.ref a), .val (.int x), .val (.int (0 : Int32))] [(.ref a)])) (fun t k => XS.aloadN X14.here hx rfl (hb hby d3_54) rfl rfl k) ?_
  obtain ⟨T16, X16, e16, st16⟩ := getF X14 hx hZ hown (host := "") (Or.inl (hw _ (List.mem_of_getElem? (i := 11) rfl))) Via.refl e14 Fp (g := (mkF m 55 #[.val (.ref a), .val (.int x), .val (.int (0 : Int32))] [(.ref a)])) rfl rfl (hb hby d3_55)
  refine own_to (T16.setTop (mkF m 58 #[.val (.ref a), .val (.int x), .val (.int (0 : Int32))] [(.ref pg)])) (fun t k => st16 t k) ?_
  refine own_to (T16.setTop (mkF m 59 #[.val (.ref a), .val (.int x), .val (.int (0 : Int32))] [(.int (0 : Int32)), (.ref pg)])) (fun t k => XS.iloadN X16.here hx rfl (hb hby d3_58) rfl k) ?_
  obtain ⟨c17, r17, q17, z17, p17, j17, f17⟩ := id Vp
  have u17 := inb_of z17 (j := (0 : Int32)) ⟨by decide, by decide⟩
  refine own_to (T16.setTop (mkF m 60 #[.val (.ref a), .val (.int x), .val (.int (0 : Int32))] [(.ref bk)])) (fun t k => X16.aaload hx (j := (0 : Int32)) (v := (.ref bk)) (by rw [e16]; exact r17.1) (State.isArrayOf_alike hZ.alike r17.2.1) rfl r17.2.2 u17 (j17.at u17 rfl) (g := (mkF m 59 #[.val (.ref a), .val (.int x), .val (.int (0 : Int32))] [(.int (0 : Int32)), (.ref pg)])) rfl rfl (hb hby d3_59) t k) ?_
  refine own_to (T16.setTop (mkF m 61 #[.val (.ref a), .val (.int x), .val (.int (0 : Int32))] [(.ref a), (.ref bk)])) (fun t k => XS.aloadN X16.here hx rfl (hb hby d3_60) rfl rfl k) ?_
  obtain ⟨T18, X18, e18, st18⟩ := getF X16 hx hZ hown (host := "") (Or.inl (hw _ (List.mem_of_getElem? (i := 18) rfl))) Via.refl e16 Fs (g := (mkF m 61 #[.val (.ref a), .val (.int x), .val (.int (0 : Int32))] [(.ref a), (.ref bk)])) rfl rfl (hb hby d3_61)
  refine own_to (T18.setTop (mkF m 64 #[.val (.ref a), .val (.int x), .val (.int (0 : Int32))] [(.int (3 : Int32)), (.ref bk)])) (fun t k => st18 t k) ?_
  refine own_to (T18.setTop (mkF m 67 #[.val (.ref a), .val (.int x), .val (.int (0 : Int32))] [(.int (16383 : Int32)), (.int (3 : Int32)), (.ref bk)])) (fun t k => XT.sipushV X18.here hx rfl (16383 : Int32) (hb hby d3_64) (by decide) k) ?_
  refine own_to (T18.setTop (mkF m 68 #[.val (.ref a), .val (.int x), .val (.int (0 : Int32))] [(.int (3 : Int32)), (.ref bk)])) (fun t k => XS.iand X18.here hx rfl (hb hby d3_67) rfl (by rw [show ((3 : Int32) &&& (16383 : Int32)) = (3 : Int32) from by decide]; exact k)) ?_
  refine own_to (T18.setTop (mkF m 69 #[.val (.ref a), .val (.int x), .val (.int (0 : Int32))] [(.int x), (.int (3 : Int32)), (.ref bk)])) (fun t k => XS.iloadN X18.here hx rfl (hb hby d3_68) rfl k) ?_
  obtain ⟨c19, r19, q19, z19, p19, j19, f19⟩ := id Vb
  have u19 := inb_of z19 (j := (3 : Int32)) ⟨by decide, by decide⟩
  obtain ⟨T19, h19, X19, e19, W19, st19⟩ := stI X18 hx hZ e18 r19 u19 (g := (mkF m 69 #[.val (.ref a), .val (.int x), .val (.int (0 : Int32))] [(.int x), (.int (3 : Int32)), (.ref bk)])) rfl rfl (hb hby d3_69)
  have N19 := Fr.snoc X19 N0 gb
  have F20 := E.wr W19
  have F21 := Fp.other W19 (Or.inl nab)
  have F22 := Fs.other W19 (Or.inl nab)
  have F23 := Vp.other W19 npb
  have V24 : Arv Z h19 bk kb .int (16384 : Int32) [(.int u0), (.int u1), (.int u2), (.int x), (.int u4)] (.int (0 : Int32)) := Arv.set r19 q19 z19 p19 j19 f19 rfl W19 3 rfl (Nat.le_of_ble_eq_true rfl)
  have Z25 : n0 ≤ h19.size := by rw [W19.size]; exact Z0
  refine own_to (T19.setTop (mkF m 70 #[.val (.ref a), .val (.int x), .val (.int (0 : Int32))] [])) (fun t k => st19 t k) ?_
  refine own_to (T19.setTop (mkF m 71 #[.val (.ref a), .val (.int x), .val (.int (0 : Int32))] [(.ref a)])) (fun t k => XS.aloadN X19.here hx rfl (hb hby d3_70) rfl rfl k) ?_
  refine own_to (T19.setTop (mkF m 72 #[.val (.ref a), .val (.int x), .val (.int (0 : Int32))] [(.ref a), (.ref a)])) (fun t k => XS.dup X19.here hx rfl (hb hby d3_71) rfl rfl k) ?_
  obtain ⟨T26, X26, e26, st26⟩ := getF X19 hx hZ hown (host := "") (Or.inl (hw _ (List.mem_of_getElem? (i := 18) rfl))) Via.refl e19 F22 (g := (mkF m 72 #[.val (.ref a), .val (.int x), .val (.int (0 : Int32))] [(.ref a), (.ref a)])) rfl rfl (hb hby d3_72)
  refine own_to (T26.setTop (mkF m 75 #[.val (.ref a), .val (.int x), .val (.int (0 : Int32))] [(.int (3 : Int32)), (.ref a)])) (fun t k => st26 t k) ?_
  refine own_to (T26.setTop (mkF m 76 #[.val (.ref a), .val (.int x), .val (.int (0 : Int32))] [(.int (3 : Int32)), (.ref a), (.int (3 : Int32))])) (fun t k => XT.dupX1 X26.here hx rfl (hb hby d3_75) rfl rfl rfl k) ?_
  refine own_to (T26.setTop (mkF m 77 #[.val (.ref a), .val (.int x), .val (.int (0 : Int32))] [(.int (1 : Int32)), (.int (3 : Int32)), (.ref a), (.int (3 : Int32))])) (fun t k => XT.iconstV X26.here hx rfl (1 : Int32) (hb hby d3_76) (by decide) k) ?_
  refine own_to (T26.setTop (mkF m 78 #[.val (.ref a), .val (.int x), .val (.int (0 : Int32))] [(.int (4 : Int32)), (.ref a), (.int (3 : Int32))])) (fun t k => XS.iadd X26.here hx rfl (hb hby d3_77) rfl (by rw [show ((3 : Int32) + (1 : Int32)) = (4 : Int32) from by decide]; exact k)) ?_
  obtain ⟨T27, h27, X27, e27, W27, st27⟩ := putF X26 hx hZ hown (host := "") (Or.inl (hw _ (List.mem_of_getElem? (i := 18) rfl))) Via.refl e26 F22 F20 (Or.inl (hw _ (List.mem_of_getElem? (i := 19) rfl))) (hw _ (List.mem_of_getElem? (i := 1) rfl)) (ty := .int) (by decide) rfl rfl (g := (mkF m 78 #[.val (.ref a), .val (.int x), .val (.int (0 : Int32))] [(.int (4 : Int32)), (.ref a), (.int (3 : Int32))])) rfl rfl (hb hby d3_78)
  have N27 := Fr.snoc X27 N19 ga
  have F28 := F20.wr W27
  have F29 := F21.other W27 (Or.inr (slot_ne (Or.inl (hw _ (List.mem_of_getElem? (i := 12) rfl))) (Or.inl (hw _ (List.mem_of_getElem? (i := 19) rfl))) (by decide) (by rfl) (by rfl)))
  have F30 := F22.same W27
  have F31 := F23.other W27 (Ne.symm nap)
  have F32 := V24.other W27 (Ne.symm nab)
  have Z33 : n0 ≤ h27.size := by rw [W27.size]; exact Z25
  refine own_to (T27.setTop (mkF m 81 #[.val (.ref a), .val (.int x), .val (.int (0 : Int32))] [(.int (3 : Int32))])) (fun t k => st27 t k) ?_
  exact own_retI X27 hx hret hk (hb hby d3_81) (by decide) (by decide) ⟨rfl, N27, ⟨(by rw [e27]; exact F28), (by rw [e27]; exact F29), (by rw [e27]; exact F30), (by rw [e27]; exact F31), Op, (by rw [e27]; exact F32)⟩, by rw [e27]; exact Nat.le_trans ga (Nat.le_of_lt F28.lt)⟩
def QA4 (Z : State) (a pg bk : Addr) (kp kb : ClassId) (u0 u1 u2 u3 u4 x : Int32) (h0 : Heap) (n0 : Nat) (v : Option Value) (h : Heap) (L : List Loc) : Prop := v = some (.int 4) ∧ Fr n0 L ∧ own_S1 Z h a pg bk kp kb 5 u0 u1 u2 u3 x ∧ n0 ≤ h.size
set_option maxRecDepth 65536 in
set_option maxHeartbeats 40000000 in
theorem rmA4 (l : Launch) (Z : State) (a0 : Array Value) (hw : ∀ d ∈ tables_1, d.before a0 Z = true) (a pg bk : Addr) (kp kb : ClassId) (u0 u1 u2 u3 u4 x : Int32) (h0 : Heap) (n0 : Nat) (Z0 : n0 ≤ h0.size) (St : own_S1 Z h0 a pg bk kp kb 4 u0 u1 u2 u3 u4) (Na : own_N0 n0 a pg) (Nb : own_N1 n0 a pg bk) :
    own_Ct l Z (⟨"com/example/clearance/clearance/IntColumn", "add", "(I)I"⟩ : MethodName) prog_22_method_3_code 3 (some .int) ({ frames := 0, cells := 0, slots := 0, locals := 0 } : Room) #[(.ref a), (.int x)] h0 (QA4 Z a pg bk kp kb u0 u1 u2 u3 u4 x h0 n0) := by
  refine own_body pn_3 ?_
  intro p e s m below meth cd s₁ hx hZ hby hml hown hnm hret hk X0 e0
  have N0 := Fr.nil n0
  refine own_to (s₁.setTop (mkF m 0 #[.val (.ref a), .val (.int x), .unset] [])) (fun t k => castTop (by first | (simp [entryFrame, mkF, argsToLocals, Value.category]; done) | rfl) k) ?_
  obtain ⟨E, Fp, Fs, Vp, Op, Vb⟩ := St
  obtain ⟨gb, nab, npb⟩ := Nb
  obtain ⟨ga, gp, nap⟩ := Na
  refine own_to (s₁.setTop (mkF m 1 #[.val (.ref a), .val (.int x), .unset] [(.ref a)])) (fun t k => XS.aloadN X0.here hx rfl (hb hby d3_0) rfl rfl k) ?_
  obtain ⟨T11, X11, e11, st11⟩ := getF X0 hx hZ hown (host := "") (Or.inl (hw _ (List.mem_of_getElem? (i := 18) rfl))) Via.refl e0 Fs (g := (mkF m 1 #[.val (.ref a), .val (.int x), .unset] [(.ref a)])) rfl rfl (hb hby d3_1)
  refine own_to (T11.setTop (mkF m 4 #[.val (.ref a), .val (.int x), .unset] [(.int (4 : Int32))])) (fun t k => st11 t k) ?_
  refine own_to (T11.setTop (mkF m 6 #[.val (.ref a), .val (.int x), .unset] [(.int (14 : Int32)), (.int (4 : Int32))])) (fun t k => XT.bipushV X11.here hx rfl (14 : Int32) (hb hby d3_4) (by decide) k) ?_
  refine own_to (T11.setTop (mkF m 7 #[.val (.ref a), .val (.int x), .unset] [(.int (0 : Int32))])) (fun t k => XT.iushr X11.here hx rfl (hb hby d3_6) rfl (by rw [show (XT.ushr (4 : Int32) (14 : Int32)) = (0 : Int32) from by decide]; exact k)) ?_
  refine own_to (T11.setTop (mkF m 8 #[.val (.ref a), .val (.int x), .val (.int (0 : Int32))] [])) (fun t k => XS.istoreN X11.here hx rfl (hb hby d3_7) rfl (l' := #[.val (.ref a), .val (.int x), .val (.int (0 : Int32))]) rfl k) ?_
  refine own_to (T11.setTop (mkF m 9 #[.val (.ref a), .val (.int x), .val (.int (0 : Int32))] [(.int (0 : Int32))])) (fun t k => XS.iloadN X11.here hx rfl (hb hby d3_8) rfl k) ?_
  refine own_to (T11.setTop (mkF m 10 #[.val (.ref a), .val (.int x), .val (.int (0 : Int32))] [(.ref a), (.int (0 : Int32))])) (fun t k => XS.aloadN X11.here hx rfl (hb hby d3_9) rfl rfl k) ?_
  obtain ⟨T12, X12, e12, st12⟩ := getF X11 hx hZ hown (host := "") (Or.inl (hw _ (List.mem_of_getElem? (i := 11) rfl))) Via.refl e11 Fp (g := (mkF m 10 #[.val (.ref a), .val (.int x), .val (.int (0 : Int32))] [(.ref a), (.int (0 : Int32))])) rfl rfl (hb hby d3_10)
  refine own_to (T12.setTop (mkF m 13 #[.val (.ref a), .val (.int x), .val (.int (0 : Int32))] [(.ref pg), (.int (0 : Int32))])) (fun t k => st12 t k) ?_
  obtain ⟨c13, r13, q13, z13, p13, j13, f13⟩ := id Vp
  refine own_to (T12.setTop (mkF m 14 #[.val (.ref a), .val (.int x), .val (.int (0 : Int32))] [(.int (16 : Int32)), (.int (0 : Int32))])) (fun t k => X12.arraylength hx (by rw [e12]; exact r13.1) (State.isArrayOf_alike hZ.alike r13.2.1) (g := (mkF m 13 #[.val (.ref a), .val (.int x), .val (.int (0 : Int32))] [(.ref pg), (.int (0 : Int32))])) rfl rfl (hb hby d3_13) t (by rw [len_of z13 p13]; exact k)) ?_
  refine own_to (T12.setTop (mkF m 34 #[.val (.ref a), .val (.int x), .val (.int (0 : Int32))] [])) (fun t k => XS.icmpYes X12.here hx rfl (pc0 := 14) (pc' := 34) rfl (hb hby d3_14) rfl (feq (by decide)).2 (by decide) (by decide) k) ?_
  refine own_to (T12.setTop (mkF m 35 #[.val (.ref a), .val (.int x), .val (.int (0 : Int32))] [(.ref a)])) (fun t k => XS.aloadN X12.here hx rfl (hb hby d3_34) rfl rfl k) ?_
  obtain ⟨T14, X14, e14, st14⟩ := getF X12 hx hZ hown (host := "") (Or.inl (hw _ (List.mem_of_getElem? (i := 11) rfl))) Via.refl e12 Fp (g := (mkF m 35 #[.val (.ref a), .val (.int x), .val (.int (0 : Int32))] [(.ref a)])) rfl rfl (hb hby d3_35)
  refine own_to (T14.setTop (mkF m 38 #[.val (.ref a), .val (.int x), .val (.int (0 : Int32))] [(.ref pg)])) (fun t k => st14 t k) ?_
  refine own_to (T14.setTop (mkF m 39 #[.val (.ref a), .val (.int x), .val (.int (0 : Int32))] [(.int (0 : Int32)), (.ref pg)])) (fun t k => XS.iloadN X14.here hx rfl (hb hby d3_38) rfl k) ?_
  obtain ⟨c15, r15, q15, z15, p15, j15, f15⟩ := id Vp
  have u15 := inb_of z15 (j := (0 : Int32)) ⟨by decide, by decide⟩
  refine own_to (T14.setTop (mkF m 40 #[.val (.ref a), .val (.int x), .val (.int (0 : Int32))] [(.ref bk)])) (fun t k => X14.aaload hx (j := (0 : Int32)) (v := (.ref bk)) (by rw [e14]; exact r15.1) (State.isArrayOf_alike hZ.alike r15.2.1) rfl r15.2.2 u15 (j15.at u15 rfl) (g := (mkF m 39 #[.val (.ref a), .val (.int x), .val (.int (0 : Int32))] [(.int (0 : Int32)), (.ref pg)])) rfl rfl (hb hby d3_39) t k) ?_
  refine own_to (T14.setTop (mkF m 54 #[.val (.ref a), .val (.int x), .val (.int (0 : Int32))] [])) (fun t k => XT.ifnonnullYes X14.here hx rfl (pc0 := 40) (pc' := 54) rfl (hb hby d3_40) rfl (by decide) (by decide) k) ?_
  refine own_to (T14.setTop (mkF m 55 #[.val (.ref a), .val (.int x), .val (.int (0 : Int32))] [(.ref a)])) (fun t k => XS.aloadN X14.here hx rfl (hb hby d3_54) rfl rfl k) ?_
  obtain ⟨T16, X16, e16, st16⟩ := getF X14 hx hZ hown (host := "") (Or.inl (hw _ (List.mem_of_getElem? (i := 11) rfl))) Via.refl e14 Fp (g := (mkF m 55 #[.val (.ref a), .val (.int x), .val (.int (0 : Int32))] [(.ref a)])) rfl rfl (hb hby d3_55)
  refine own_to (T16.setTop (mkF m 58 #[.val (.ref a), .val (.int x), .val (.int (0 : Int32))] [(.ref pg)])) (fun t k => st16 t k) ?_
  refine own_to (T16.setTop (mkF m 59 #[.val (.ref a), .val (.int x), .val (.int (0 : Int32))] [(.int (0 : Int32)), (.ref pg)])) (fun t k => XS.iloadN X16.here hx rfl (hb hby d3_58) rfl k) ?_
  obtain ⟨c17, r17, q17, z17, p17, j17, f17⟩ := id Vp
  have u17 := inb_of z17 (j := (0 : Int32)) ⟨by decide, by decide⟩
  refine own_to (T16.setTop (mkF m 60 #[.val (.ref a), .val (.int x), .val (.int (0 : Int32))] [(.ref bk)])) (fun t k => X16.aaload hx (j := (0 : Int32)) (v := (.ref bk)) (by rw [e16]; exact r17.1) (State.isArrayOf_alike hZ.alike r17.2.1) rfl r17.2.2 u17 (j17.at u17 rfl) (g := (mkF m 59 #[.val (.ref a), .val (.int x), .val (.int (0 : Int32))] [(.int (0 : Int32)), (.ref pg)])) rfl rfl (hb hby d3_59) t k) ?_
  refine own_to (T16.setTop (mkF m 61 #[.val (.ref a), .val (.int x), .val (.int (0 : Int32))] [(.ref a), (.ref bk)])) (fun t k => XS.aloadN X16.here hx rfl (hb hby d3_60) rfl rfl k) ?_
  obtain ⟨T18, X18, e18, st18⟩ := getF X16 hx hZ hown (host := "") (Or.inl (hw _ (List.mem_of_getElem? (i := 18) rfl))) Via.refl e16 Fs (g := (mkF m 61 #[.val (.ref a), .val (.int x), .val (.int (0 : Int32))] [(.ref a), (.ref bk)])) rfl rfl (hb hby d3_61)
  refine own_to (T18.setTop (mkF m 64 #[.val (.ref a), .val (.int x), .val (.int (0 : Int32))] [(.int (4 : Int32)), (.ref bk)])) (fun t k => st18 t k) ?_
  refine own_to (T18.setTop (mkF m 67 #[.val (.ref a), .val (.int x), .val (.int (0 : Int32))] [(.int (16383 : Int32)), (.int (4 : Int32)), (.ref bk)])) (fun t k => XT.sipushV X18.here hx rfl (16383 : Int32) (hb hby d3_64) (by decide) k) ?_
  refine own_to (T18.setTop (mkF m 68 #[.val (.ref a), .val (.int x), .val (.int (0 : Int32))] [(.int (4 : Int32)), (.ref bk)])) (fun t k => XS.iand X18.here hx rfl (hb hby d3_67) rfl (by rw [show ((4 : Int32) &&& (16383 : Int32)) = (4 : Int32) from by decide]; exact k)) ?_
  refine own_to (T18.setTop (mkF m 69 #[.val (.ref a), .val (.int x), .val (.int (0 : Int32))] [(.int x), (.int (4 : Int32)), (.ref bk)])) (fun t k => XS.iloadN X18.here hx rfl (hb hby d3_68) rfl k) ?_
  obtain ⟨c19, r19, q19, z19, p19, j19, f19⟩ := id Vb
  have u19 := inb_of z19 (j := (4 : Int32)) ⟨by decide, by decide⟩
  obtain ⟨T19, h19, X19, e19, W19, st19⟩ := stI X18 hx hZ e18 r19 u19 (g := (mkF m 69 #[.val (.ref a), .val (.int x), .val (.int (0 : Int32))] [(.int x), (.int (4 : Int32)), (.ref bk)])) rfl rfl (hb hby d3_69)
  have N19 := Fr.snoc X19 N0 gb
  have F20 := E.wr W19
  have F21 := Fp.other W19 (Or.inl nab)
  have F22 := Fs.other W19 (Or.inl nab)
  have F23 := Vp.other W19 npb
  have V24 : Arv Z h19 bk kb .int (16384 : Int32) [(.int u0), (.int u1), (.int u2), (.int u3), (.int x)] (.int (0 : Int32)) := Arv.set r19 q19 z19 p19 j19 f19 rfl W19 4 rfl (Nat.le_of_ble_eq_true rfl)
  have Z25 : n0 ≤ h19.size := by rw [W19.size]; exact Z0
  refine own_to (T19.setTop (mkF m 70 #[.val (.ref a), .val (.int x), .val (.int (0 : Int32))] [])) (fun t k => st19 t k) ?_
  refine own_to (T19.setTop (mkF m 71 #[.val (.ref a), .val (.int x), .val (.int (0 : Int32))] [(.ref a)])) (fun t k => XS.aloadN X19.here hx rfl (hb hby d3_70) rfl rfl k) ?_
  refine own_to (T19.setTop (mkF m 72 #[.val (.ref a), .val (.int x), .val (.int (0 : Int32))] [(.ref a), (.ref a)])) (fun t k => XS.dup X19.here hx rfl (hb hby d3_71) rfl rfl k) ?_
  obtain ⟨T26, X26, e26, st26⟩ := getF X19 hx hZ hown (host := "") (Or.inl (hw _ (List.mem_of_getElem? (i := 18) rfl))) Via.refl e19 F22 (g := (mkF m 72 #[.val (.ref a), .val (.int x), .val (.int (0 : Int32))] [(.ref a), (.ref a)])) rfl rfl (hb hby d3_72)
  refine own_to (T26.setTop (mkF m 75 #[.val (.ref a), .val (.int x), .val (.int (0 : Int32))] [(.int (4 : Int32)), (.ref a)])) (fun t k => st26 t k) ?_
  refine own_to (T26.setTop (mkF m 76 #[.val (.ref a), .val (.int x), .val (.int (0 : Int32))] [(.int (4 : Int32)), (.ref a), (.int (4 : Int32))])) (fun t k => XT.dupX1 X26.here hx rfl (hb hby d3_75) rfl rfl rfl k) ?_
  refine own_to (T26.setTop (mkF m 77 #[.val (.ref a), .val (.int x), .val (.int (0 : Int32))] [(.int (1 : Int32)), (.int (4 : Int32)), (.ref a), (.int (4 : Int32))])) (fun t k => XT.iconstV X26.here hx rfl (1 : Int32) (hb hby d3_76) (by decide) k) ?_
  refine own_to (T26.setTop (mkF m 78 #[.val (.ref a), .val (.int x), .val (.int (0 : Int32))] [(.int (5 : Int32)), (.ref a), (.int (4 : Int32))])) (fun t k => XS.iadd X26.here hx rfl (hb hby d3_77) rfl (by rw [show ((4 : Int32) + (1 : Int32)) = (5 : Int32) from by decide]; exact k)) ?_
  obtain ⟨T27, h27, X27, e27, W27, st27⟩ := putF X26 hx hZ hown (host := "") (Or.inl (hw _ (List.mem_of_getElem? (i := 18) rfl))) Via.refl e26 F22 F20 (Or.inl (hw _ (List.mem_of_getElem? (i := 19) rfl))) (hw _ (List.mem_of_getElem? (i := 1) rfl)) (ty := .int) (by decide) rfl rfl (g := (mkF m 78 #[.val (.ref a), .val (.int x), .val (.int (0 : Int32))] [(.int (5 : Int32)), (.ref a), (.int (4 : Int32))])) rfl rfl (hb hby d3_78)
  have N27 := Fr.snoc X27 N19 ga
  have F28 := F20.wr W27
  have F29 := F21.other W27 (Or.inr (slot_ne (Or.inl (hw _ (List.mem_of_getElem? (i := 12) rfl))) (Or.inl (hw _ (List.mem_of_getElem? (i := 19) rfl))) (by decide) (by rfl) (by rfl)))
  have F30 := F22.same W27
  have F31 := F23.other W27 (Ne.symm nap)
  have F32 := V24.other W27 (Ne.symm nab)
  have Z33 : n0 ≤ h27.size := by rw [W27.size]; exact Z25
  refine own_to (T27.setTop (mkF m 81 #[.val (.ref a), .val (.int x), .val (.int (0 : Int32))] [(.int (4 : Int32))])) (fun t k => st27 t k) ?_
  exact own_retI X27 hx hret hk (hb hby d3_81) (by decide) (by decide) ⟨rfl, N27, ⟨(by rw [e27]; exact F28), (by rw [e27]; exact F29), (by rw [e27]; exact F30), (by rw [e27]; exact F31), Op, (by rw [e27]; exact F32)⟩, by rw [e27]; exact Nat.le_trans ga (Nat.le_of_lt F28.lt)⟩
theorem own_iincW {tb : Tables} [Ours tb] {e : Env} {below : List Frame} {T target : State} {m : MethodId} {c : Code} {g : JFrame} (h : At T m c below) (hx : tb.exec = Jvm.exec) (hg : g.method = m) {k : Nat} {cst : Int} {x : Int32} {l' : Array Slot} (v : Int32) (hd : decode c.code g.pc = .ok (.iinc k cst, 6)) (hv : Int32.ofInt cst = v) (hl : g.locals[k]? = some (.val (.int x))) (hl' : storeLocals g.locals k (.int (x + v)) = some l')
    (hr : Steps tb e below (T.setTop { g with pc := g.pc + 6, locals := l' }) target) : Steps tb e below (T.setTop g) target := by
  subst hg hv
  jvm_step h [h.top, hx, hd, hl, hl']
  exact hr
def QT0 (Z : State) (a pg bk : Addr) (kp kb : ClassId) (u0 u1 u2 u3 u4 : Int32) (h0 : Heap) (n0 : Nat) (v : Option Value) (h : Heap) (L : List Loc) : Prop := v = none ∧ Fr n0 L ∧ own_S0 Z h a pg kp 0 ∧ n0 ≤ h.size
set_option maxRecDepth 65536 in
set_option maxHeartbeats 40000000 in
theorem rmT0 (l : Launch) (Z : State) (a0 : Array Value) (hw : ∀ d ∈ tables_1, d.before a0 Z = true) (a pg bk : Addr) (kp kb : ClassId) (u0 u1 u2 u3 u4 : Int32) (h0 : Heap) (n0 : Nat) (Z0 : n0 ≤ h0.size) (St : own_S1 Z h0 a pg bk kp kb 4 u0 u1 u2 u3 u4) (Na : own_N0 n0 a pg) (Nb : own_N1 n0 a pg bk) :
    own_Ct l Z (⟨"com/example/clearance/clearance/IntColumn", "truncate", "(I)V"⟩ : MethodName) prog_22_method_6_code 3 none ({ frames := 0, cells := 0, slots := 0, locals := 0 } : Room) #[(.ref a), (.int (0 : Int32))] h0 (QT0 Z a pg bk kp kb u0 u1 u2 u3 u4 h0 n0) := by
  refine own_body pn_4 ?_
  intro p e s m below meth cd s₁ hx hZ hby hml hown hnm hret hk X0 e0
  have N0 := Fr.nil n0
  refine own_to (s₁.setTop (mkF m 0 #[.val (.ref a), .val (.int (0 : Int32)), .unset] [])) (fun t k => castTop (by first | (simp [entryFrame, mkF, argsToLocals, Value.category]; done) | rfl) k) ?_
  obtain ⟨E, Fp, Fs, Vp, Op, Vb⟩ := St
  obtain ⟨gb, nab, npb⟩ := Nb
  obtain ⟨ga, gp, nap⟩ := Na
  refine own_to (s₁.setTop (mkF m 1 #[.val (.ref a), .val (.int (0 : Int32)), .unset] [(.int (0 : Int32))])) (fun t k => XS.iloadN X0.here hx rfl (hb hby d4_0) rfl k) ?_
  refine own_to (s₁.setTop (mkF m 4 #[.val (.ref a), .val (.int (0 : Int32)), .unset] [(.int (16384 : Int32)), (.int (0 : Int32))])) (fun t k => XT.sipushV X0.here hx rfl (16384 : Int32) (hb hby d4_1) (by decide) k) ?_
  refine own_to (s₁.setTop (mkF m 5 #[.val (.ref a), .val (.int (0 : Int32)), .unset] [(.int (16384 : Int32))])) (fun t k => XS.iadd X0.here hx rfl (hb hby d4_4) rfl (by rw [show ((0 : Int32) + (16384 : Int32)) = (16384 : Int32) from by decide]; exact k)) ?_
  refine own_to (s₁.setTop (mkF m 6 #[.val (.ref a), .val (.int (0 : Int32)), .unset] [(.int (1 : Int32)), (.int (16384 : Int32))])) (fun t k => XT.iconstV X0.here hx rfl (1 : Int32) (hb hby d4_5) (by decide) k) ?_
  refine own_to (s₁.setTop (mkF m 7 #[.val (.ref a), .val (.int (0 : Int32)), .unset] [(.int (16383 : Int32))])) (fun t k => XS.isub X0.here hx rfl (hb hby d4_6) rfl (by rw [show ((16384 : Int32) - (1 : Int32)) = (16383 : Int32) from by decide]; exact k)) ?_
  refine own_to (s₁.setTop (mkF m 9 #[.val (.ref a), .val (.int (0 : Int32)), .unset] [(.int (14 : Int32)), (.int (16383 : Int32))])) (fun t k => XT.bipushV X0.here hx rfl (14 : Int32) (hb hby d4_7) (by decide) k) ?_
  refine own_to (s₁.setTop (mkF m 10 #[.val (.ref a), .val (.int (0 : Int32)), .unset] [(.int (0 : Int32))])) (fun t k => XT.iushr X0.here hx rfl (hb hby d4_9) rfl (by rw [show (XT.ushr (16383 : Int32) (14 : Int32)) = (0 : Int32) from by decide]; exact k)) ?_
  refine own_to (s₁.setTop (mkF m 11 #[.val (.ref a), .val (.int (0 : Int32)), .val (.int (0 : Int32))] [])) (fun t k => XS.istoreN X0.here hx rfl (hb hby d4_10) rfl (l' := #[.val (.ref a), .val (.int (0 : Int32)), .val (.int (0 : Int32))]) rfl k) ?_
  refine own_to (s₁.setTop (mkF m 12 #[.val (.ref a), .val (.int (0 : Int32)), .val (.int (0 : Int32))] [(.int (0 : Int32))])) (fun t k => XS.iloadN X0.here hx rfl (hb hby d4_11) rfl k) ?_
  refine own_to (s₁.setTop (mkF m 13 #[.val (.ref a), .val (.int (0 : Int32)), .val (.int (0 : Int32))] [(.ref a), (.int (0 : Int32))])) (fun t k => XS.aloadN X0.here hx rfl (hb hby d4_12) rfl rfl k) ?_
  obtain ⟨T11, X11, e11, st11⟩ := getF X0 hx hZ hown (host := "") (Or.inl (hw _ (List.mem_of_getElem? (i := 11) rfl))) Via.refl e0 Fp (g := (mkF m 13 #[.val (.ref a), .val (.int (0 : Int32)), .val (.int (0 : Int32))] [(.ref a), (.int (0 : Int32))])) rfl rfl (hb hby d4_13)
  refine own_to (T11.setTop (mkF m 16 #[.val (.ref a), .val (.int (0 : Int32)), .val (.int (0 : Int32))] [(.ref pg), (.int (0 : Int32))])) (fun t k => st11 t k) ?_
  obtain ⟨c12, r12, q12, z12, p12, j12, f12⟩ := id Vp
  refine own_to (T11.setTop (mkF m 17 #[.val (.ref a), .val (.int (0 : Int32)), .val (.int (0 : Int32))] [(.int (16 : Int32)), (.int (0 : Int32))])) (fun t k => X11.arraylength hx (by rw [e11]; exact r12.1) (State.isArrayOf_alike hZ.alike r12.2.1) (g := (mkF m 16 #[.val (.ref a), .val (.int (0 : Int32)), .val (.int (0 : Int32))] [(.ref pg), (.int (0 : Int32))])) rfl rfl (hb hby d4_16) t (by rw [len_of z12 p12]; exact k)) ?_
  refine own_to (T11.setTop (mkF m 20 #[.val (.ref a), .val (.int (0 : Int32)), .val (.int (0 : Int32))] [])) (fun t k => XS.icmpNo X11.here hx rfl (hb hby d4_17) rfl (tlt (by decide)).2.1 k) ?_
  refine own_to (T11.setTop (mkF m 21 #[.val (.ref a), .val (.int (0 : Int32)), .val (.int (0 : Int32))] [(.ref a)])) (fun t k => XS.aloadN X11.here hx rfl (hb hby d4_20) rfl rfl k) ?_
  obtain ⟨T13, X13, e13, st13⟩ := getF X11 hx hZ hown (host := "") (Or.inl (hw _ (List.mem_of_getElem? (i := 11) rfl))) Via.refl e11 Fp (g := (mkF m 21 #[.val (.ref a), .val (.int (0 : Int32)), .val (.int (0 : Int32))] [(.ref a)])) rfl rfl (hb hby d4_21)
  refine own_to (T13.setTop (mkF m 24 #[.val (.ref a), .val (.int (0 : Int32)), .val (.int (0 : Int32))] [(.ref pg)])) (fun t k => st13 t k) ?_
  refine own_to (T13.setTop (mkF m 25 #[.val (.ref a), .val (.int (0 : Int32)), .val (.int (0 : Int32))] [(.int (0 : Int32)), (.ref pg)])) (fun t k => XS.iloadN X13.here hx rfl (hb hby d4_24) rfl k) ?_
  refine own_to (T13.setTop (mkF m 26 #[.val (.ref a), .val (.int (0 : Int32)), .val (.int (0 : Int32))] [.null, (.int (0 : Int32)), (.ref pg)])) (fun t k => XS.aconstNull X13.here hx rfl (hb hby d4_25) k) ?_
  obtain ⟨c14, r14, q14, z14, p14, j14, f14⟩ := id Vp
  have u14 := inb_of z14 (j := (0 : Int32)) ⟨by decide, by decide⟩
  obtain ⟨T14, h14, X14, e14, W14, st14⟩ := stR X13 hx hZ e13 r14 u14 rfl (Or.inl rfl) (g := (mkF m 26 #[.val (.ref a), .val (.int (0 : Int32)), .val (.int (0 : Int32))] [.null, (.int (0 : Int32)), (.ref pg)])) rfl rfl (hb hby d4_26)
  have N14 := Fr.snoc X14 N0 gp
  have F15 := E.wr W14
  have F16 := Fp.other W14 (Or.inl nap)
  have F17 := Fs.other W14 (Or.inl nap)
  have V18 : Arv Z h14 pg kp (.array .int) (16 : Int32) [.null, .null, .null, .null, .null, .null, .null, .null, .null, .null, .null, .null, .null, .null, .null, .null] .null := Arv.set r14 q14 z14 p14 j14 f14 rfl W14 0 rfl (Nat.le_of_ble_eq_true rfl)
  have Z19 : n0 ≤ h14.size := by rw [W14.size]; exact Z0
  refine own_to (T14.setTop (mkF m 27 #[.val (.ref a), .val (.int (0 : Int32)), .val (.int (0 : Int32))] [])) (fun t k => st14 t k) ?_
  refine own_to (T14.setTop (mkF m 30 #[.val (.ref a), .val (.int (0 : Int32)), .val (.int (1 : Int32))] [])) (fun t k => XT.iincV X14.here hx rfl (1 : Int32) (hb hby d4_27) (by decide) rfl (l' := #[.val (.ref a), .val (.int (0 : Int32)), .val (.int (1 : Int32))]) (by rw [show (0 : Int32) + (1 : Int32) = (1 : Int32) from by decide]; rfl) k) ?_
  refine own_to (T14.setTop (mkF m 11 #[.val (.ref a), .val (.int (0 : Int32)), .val (.int (1 : Int32))] [])) (fun t k => XS.goto X14.here hx rfl (pc0 := 30) (pc' := 11) rfl (hb hby d4_30) (by decide) (by decide) k) ?_
  refine own_to (T14.setTop (mkF m 12 #[.val (.ref a), .val (.int (0 : Int32)), .val (.int (1 : Int32))] [(.int (1 : Int32))])) (fun t k => XS.iloadN X14.here hx rfl (hb hby d4_11) rfl k) ?_
  refine own_to (T14.setTop (mkF m 13 #[.val (.ref a), .val (.int (0 : Int32)), .val (.int (1 : Int32))] [(.ref a), (.int (1 : Int32))])) (fun t k => XS.aloadN X14.here hx rfl (hb hby d4_12) rfl rfl k) ?_
  obtain ⟨T20, X20, e20, st20⟩ := getF X14 hx hZ hown (host := "") (Or.inl (hw _ (List.mem_of_getElem? (i := 11) rfl))) Via.refl e14 F16 (g := (mkF m 13 #[.val (.ref a), .val (.int (0 : Int32)), .val (.int (1 : Int32))] [(.ref a), (.int (1 : Int32))])) rfl rfl (hb hby d4_13)
  refine own_to (T20.setTop (mkF m 16 #[.val (.ref a), .val (.int (0 : Int32)), .val (.int (1 : Int32))] [(.ref pg), (.int (1 : Int32))])) (fun t k => st20 t k) ?_
  obtain ⟨c21, r21, q21, z21, p21, j21, f21⟩ := id V18
  refine own_to (T20.setTop (mkF m 17 #[.val (.ref a), .val (.int (0 : Int32)), .val (.int (1 : Int32))] [(.int (16 : Int32)), (.int (1 : Int32))])) (fun t k => X20.arraylength hx (by rw [e20]; exact r21.1) (State.isArrayOf_alike hZ.alike r21.2.1) (g := (mkF m 16 #[.val (.ref a), .val (.int (0 : Int32)), .val (.int (1 : Int32))] [(.ref pg), (.int (1 : Int32))])) rfl rfl (hb hby d4_16) t (by rw [len_of z21 p21]; exact k)) ?_
  refine own_to (T20.setTop (mkF m 20 #[.val (.ref a), .val (.int (0 : Int32)), .val (.int (1 : Int32))] [])) (fun t k => XS.icmpNo X20.here hx rfl (hb hby d4_17) rfl (tlt (by decide)).2.1 k) ?_
  refine own_to (T20.setTop (mkF m 21 #[.val (.ref a), .val (.int (0 : Int32)), .val (.int (1 : Int32))] [(.ref a)])) (fun t k => XS.aloadN X20.here hx rfl (hb hby d4_20) rfl rfl k) ?_
  obtain ⟨T22, X22, e22, st22⟩ := getF X20 hx hZ hown (host := "") (Or.inl (hw _ (List.mem_of_getElem? (i := 11) rfl))) Via.refl e20 F16 (g := (mkF m 21 #[.val (.ref a), .val (.int (0 : Int32)), .val (.int (1 : Int32))] [(.ref a)])) rfl rfl (hb hby d4_21)
  refine own_to (T22.setTop (mkF m 24 #[.val (.ref a), .val (.int (0 : Int32)), .val (.int (1 : Int32))] [(.ref pg)])) (fun t k => st22 t k) ?_
  refine own_to (T22.setTop (mkF m 25 #[.val (.ref a), .val (.int (0 : Int32)), .val (.int (1 : Int32))] [(.int (1 : Int32)), (.ref pg)])) (fun t k => XS.iloadN X22.here hx rfl (hb hby d4_24) rfl k) ?_
  refine own_to (T22.setTop (mkF m 26 #[.val (.ref a), .val (.int (0 : Int32)), .val (.int (1 : Int32))] [.null, (.int (1 : Int32)), (.ref pg)])) (fun t k => XS.aconstNull X22.here hx rfl (hb hby d4_25) k) ?_
  obtain ⟨c23, r23, q23, z23, p23, j23, f23⟩ := id V18
  have u23 := inb_of z23 (j := (1 : Int32)) ⟨by decide, by decide⟩
  obtain ⟨T23, h23, X23, e23, W23, st23⟩ := stR X22 hx hZ e22 r23 u23 rfl (Or.inl rfl) (g := (mkF m 26 #[.val (.ref a), .val (.int (0 : Int32)), .val (.int (1 : Int32))] [.null, (.int (1 : Int32)), (.ref pg)])) rfl rfl (hb hby d4_26)
  have N23 := Fr.snoc X23 N14 gp
  have F24 := F15.wr W23
  have F25 := F16.other W23 (Or.inl nap)
  have F26 := F17.other W23 (Or.inl nap)
  have V27 : Arv Z h23 pg kp (.array .int) (16 : Int32) [.null, .null, .null, .null, .null, .null, .null, .null, .null, .null, .null, .null, .null, .null, .null, .null] .null := Arv.set r23 q23 z23 p23 j23 f23 rfl W23 1 rfl (Nat.le_of_ble_eq_true rfl)
  have Z28 : n0 ≤ h23.size := by rw [W23.size]; exact Z19
  refine own_to (T23.setTop (mkF m 27 #[.val (.ref a), .val (.int (0 : Int32)), .val (.int (1 : Int32))] [])) (fun t k => st23 t k) ?_
  refine own_to (T23.setTop (mkF m 30 #[.val (.ref a), .val (.int (0 : Int32)), .val (.int (2 : Int32))] [])) (fun t k => XT.iincV X23.here hx rfl (1 : Int32) (hb hby d4_27) (by decide) rfl (l' := #[.val (.ref a), .val (.int (0 : Int32)), .val (.int (2 : Int32))]) (by rw [show (1 : Int32) + (1 : Int32) = (2 : Int32) from by decide]; rfl) k) ?_
  refine own_to (T23.setTop (mkF m 11 #[.val (.ref a), .val (.int (0 : Int32)), .val (.int (2 : Int32))] [])) (fun t k => XS.goto X23.here hx rfl (pc0 := 30) (pc' := 11) rfl (hb hby d4_30) (by decide) (by decide) k) ?_
  refine own_to (T23.setTop (mkF m 12 #[.val (.ref a), .val (.int (0 : Int32)), .val (.int (2 : Int32))] [(.int (2 : Int32))])) (fun t k => XS.iloadN X23.here hx rfl (hb hby d4_11) rfl k) ?_
  refine own_to (T23.setTop (mkF m 13 #[.val (.ref a), .val (.int (0 : Int32)), .val (.int (2 : Int32))] [(.ref a), (.int (2 : Int32))])) (fun t k => XS.aloadN X23.here hx rfl (hb hby d4_12) rfl rfl k) ?_
  obtain ⟨T29, X29, e29, st29⟩ := getF X23 hx hZ hown (host := "") (Or.inl (hw _ (List.mem_of_getElem? (i := 11) rfl))) Via.refl e23 F25 (g := (mkF m 13 #[.val (.ref a), .val (.int (0 : Int32)), .val (.int (2 : Int32))] [(.ref a), (.int (2 : Int32))])) rfl rfl (hb hby d4_13)
  refine own_to (T29.setTop (mkF m 16 #[.val (.ref a), .val (.int (0 : Int32)), .val (.int (2 : Int32))] [(.ref pg), (.int (2 : Int32))])) (fun t k => st29 t k) ?_
  obtain ⟨c30, r30, q30, z30, p30, j30, f30⟩ := id V27
  refine own_to (T29.setTop (mkF m 17 #[.val (.ref a), .val (.int (0 : Int32)), .val (.int (2 : Int32))] [(.int (16 : Int32)), (.int (2 : Int32))])) (fun t k => X29.arraylength hx (by rw [e29]; exact r30.1) (State.isArrayOf_alike hZ.alike r30.2.1) (g := (mkF m 16 #[.val (.ref a), .val (.int (0 : Int32)), .val (.int (2 : Int32))] [(.ref pg), (.int (2 : Int32))])) rfl rfl (hb hby d4_16) t (by rw [len_of z30 p30]; exact k)) ?_
  refine own_to (T29.setTop (mkF m 20 #[.val (.ref a), .val (.int (0 : Int32)), .val (.int (2 : Int32))] [])) (fun t k => XS.icmpNo X29.here hx rfl (hb hby d4_17) rfl (tlt (by decide)).2.1 k) ?_
  refine own_to (T29.setTop (mkF m 21 #[.val (.ref a), .val (.int (0 : Int32)), .val (.int (2 : Int32))] [(.ref a)])) (fun t k => XS.aloadN X29.here hx rfl (hb hby d4_20) rfl rfl k) ?_
  obtain ⟨T31, X31, e31, st31⟩ := getF X29 hx hZ hown (host := "") (Or.inl (hw _ (List.mem_of_getElem? (i := 11) rfl))) Via.refl e29 F25 (g := (mkF m 21 #[.val (.ref a), .val (.int (0 : Int32)), .val (.int (2 : Int32))] [(.ref a)])) rfl rfl (hb hby d4_21)
  refine own_to (T31.setTop (mkF m 24 #[.val (.ref a), .val (.int (0 : Int32)), .val (.int (2 : Int32))] [(.ref pg)])) (fun t k => st31 t k) ?_
  refine own_to (T31.setTop (mkF m 25 #[.val (.ref a), .val (.int (0 : Int32)), .val (.int (2 : Int32))] [(.int (2 : Int32)), (.ref pg)])) (fun t k => XS.iloadN X31.here hx rfl (hb hby d4_24) rfl k) ?_
  refine own_to (T31.setTop (mkF m 26 #[.val (.ref a), .val (.int (0 : Int32)), .val (.int (2 : Int32))] [.null, (.int (2 : Int32)), (.ref pg)])) (fun t k => XS.aconstNull X31.here hx rfl (hb hby d4_25) k) ?_
  obtain ⟨c32, r32, q32, z32, p32, j32, f32⟩ := id V27
  have u32 := inb_of z32 (j := (2 : Int32)) ⟨by decide, by decide⟩
  obtain ⟨T32, h32, X32, e32, W32, st32⟩ := stR X31 hx hZ e31 r32 u32 rfl (Or.inl rfl) (g := (mkF m 26 #[.val (.ref a), .val (.int (0 : Int32)), .val (.int (2 : Int32))] [.null, (.int (2 : Int32)), (.ref pg)])) rfl rfl (hb hby d4_26)
  have N32 := Fr.snoc X32 N23 gp
  have F33 := F24.wr W32
  have F34 := F25.other W32 (Or.inl nap)
  have F35 := F26.other W32 (Or.inl nap)
  have V36 : Arv Z h32 pg kp (.array .int) (16 : Int32) [.null, .null, .null, .null, .null, .null, .null, .null, .null, .null, .null, .null, .null, .null, .null, .null] .null := Arv.set r32 q32 z32 p32 j32 f32 rfl W32 2 rfl (Nat.le_of_ble_eq_true rfl)
  have Z37 : n0 ≤ h32.size := by rw [W32.size]; exact Z28
  refine own_to (T32.setTop (mkF m 27 #[.val (.ref a), .val (.int (0 : Int32)), .val (.int (2 : Int32))] [])) (fun t k => st32 t k) ?_
  refine own_to (T32.setTop (mkF m 30 #[.val (.ref a), .val (.int (0 : Int32)), .val (.int (3 : Int32))] [])) (fun t k => XT.iincV X32.here hx rfl (1 : Int32) (hb hby d4_27) (by decide) rfl (l' := #[.val (.ref a), .val (.int (0 : Int32)), .val (.int (3 : Int32))]) (by rw [show (2 : Int32) + (1 : Int32) = (3 : Int32) from by decide]; rfl) k) ?_
  refine own_to (T32.setTop (mkF m 11 #[.val (.ref a), .val (.int (0 : Int32)), .val (.int (3 : Int32))] [])) (fun t k => XS.goto X32.here hx rfl (pc0 := 30) (pc' := 11) rfl (hb hby d4_30) (by decide) (by decide) k) ?_
  refine own_to (T32.setTop (mkF m 12 #[.val (.ref a), .val (.int (0 : Int32)), .val (.int (3 : Int32))] [(.int (3 : Int32))])) (fun t k => XS.iloadN X32.here hx rfl (hb hby d4_11) rfl k) ?_
  refine own_to (T32.setTop (mkF m 13 #[.val (.ref a), .val (.int (0 : Int32)), .val (.int (3 : Int32))] [(.ref a), (.int (3 : Int32))])) (fun t k => XS.aloadN X32.here hx rfl (hb hby d4_12) rfl rfl k) ?_
  obtain ⟨T38, X38, e38, st38⟩ := getF X32 hx hZ hown (host := "") (Or.inl (hw _ (List.mem_of_getElem? (i := 11) rfl))) Via.refl e32 F34 (g := (mkF m 13 #[.val (.ref a), .val (.int (0 : Int32)), .val (.int (3 : Int32))] [(.ref a), (.int (3 : Int32))])) rfl rfl (hb hby d4_13)
  refine own_to (T38.setTop (mkF m 16 #[.val (.ref a), .val (.int (0 : Int32)), .val (.int (3 : Int32))] [(.ref pg), (.int (3 : Int32))])) (fun t k => st38 t k) ?_
  obtain ⟨c39, r39, q39, z39, p39, j39, f39⟩ := id V36
  refine own_to (T38.setTop (mkF m 17 #[.val (.ref a), .val (.int (0 : Int32)), .val (.int (3 : Int32))] [(.int (16 : Int32)), (.int (3 : Int32))])) (fun t k => X38.arraylength hx (by rw [e38]; exact r39.1) (State.isArrayOf_alike hZ.alike r39.2.1) (g := (mkF m 16 #[.val (.ref a), .val (.int (0 : Int32)), .val (.int (3 : Int32))] [(.ref pg), (.int (3 : Int32))])) rfl rfl (hb hby d4_16) t (by rw [len_of z39 p39]; exact k)) ?_
  refine own_to (T38.setTop (mkF m 20 #[.val (.ref a), .val (.int (0 : Int32)), .val (.int (3 : Int32))] [])) (fun t k => XS.icmpNo X38.here hx rfl (hb hby d4_17) rfl (tlt (by decide)).2.1 k) ?_
  refine own_to (T38.setTop (mkF m 21 #[.val (.ref a), .val (.int (0 : Int32)), .val (.int (3 : Int32))] [(.ref a)])) (fun t k => XS.aloadN X38.here hx rfl (hb hby d4_20) rfl rfl k) ?_
  obtain ⟨T40, X40, e40, st40⟩ := getF X38 hx hZ hown (host := "") (Or.inl (hw _ (List.mem_of_getElem? (i := 11) rfl))) Via.refl e38 F34 (g := (mkF m 21 #[.val (.ref a), .val (.int (0 : Int32)), .val (.int (3 : Int32))] [(.ref a)])) rfl rfl (hb hby d4_21)
  refine own_to (T40.setTop (mkF m 24 #[.val (.ref a), .val (.int (0 : Int32)), .val (.int (3 : Int32))] [(.ref pg)])) (fun t k => st40 t k) ?_
  refine own_to (T40.setTop (mkF m 25 #[.val (.ref a), .val (.int (0 : Int32)), .val (.int (3 : Int32))] [(.int (3 : Int32)), (.ref pg)])) (fun t k => XS.iloadN X40.here hx rfl (hb hby d4_24) rfl k) ?_
  refine own_to (T40.setTop (mkF m 26 #[.val (.ref a), .val (.int (0 : Int32)), .val (.int (3 : Int32))] [.null, (.int (3 : Int32)), (.ref pg)])) (fun t k => XS.aconstNull X40.here hx rfl (hb hby d4_25) k) ?_
  obtain ⟨c41, r41, q41, z41, p41, j41, f41⟩ := id V36
  have u41 := inb_of z41 (j := (3 : Int32)) ⟨by decide, by decide⟩
  obtain ⟨T41, h41, X41, e41, W41, st41⟩ := stR X40 hx hZ e40 r41 u41 rfl (Or.inl rfl) (g := (mkF m 26 #[.val (.ref a), .val (.int (0 : Int32)), .val (.int (3 : Int32))] [.null, (.int (3 : Int32)), (.ref pg)])) rfl rfl (hb hby d4_26)
  have N41 := Fr.snoc X41 N32 gp
  have F42 := F33.wr W41
  have F43 := F34.other W41 (Or.inl nap)
  have F44 := F35.other W41 (Or.inl nap)
  have V45 : Arv Z h41 pg kp (.array .int) (16 : Int32) [.null, .null, .null, .null, .null, .null, .null, .null, .null, .null, .null, .null, .null, .null, .null, .null] .null := Arv.set r41 q41 z41 p41 j41 f41 rfl W41 3 rfl (Nat.le_of_ble_eq_true rfl)
  have Z46 : n0 ≤ h41.size := by rw [W41.size]; exact Z37
  refine own_to (T41.setTop (mkF m 27 #[.val (.ref a), .val (.int (0 : Int32)), .val (.int (3 : Int32))] [])) (fun t k => st41 t k) ?_
  refine own_to (T41.setTop (mkF m 30 #[.val (.ref a), .val (.int (0 : Int32)), .val (.int (4 : Int32))] [])) (fun t k => XT.iincV X41.here hx rfl (1 : Int32) (hb hby d4_27) (by decide) rfl (l' := #[.val (.ref a), .val (.int (0 : Int32)), .val (.int (4 : Int32))]) (by rw [show (3 : Int32) + (1 : Int32) = (4 : Int32) from by decide]; rfl) k) ?_
  refine own_to (T41.setTop (mkF m 11 #[.val (.ref a), .val (.int (0 : Int32)), .val (.int (4 : Int32))] [])) (fun t k => XS.goto X41.here hx rfl (pc0 := 30) (pc' := 11) rfl (hb hby d4_30) (by decide) (by decide) k) ?_
  refine own_to (T41.setTop (mkF m 12 #[.val (.ref a), .val (.int (0 : Int32)), .val (.int (4 : Int32))] [(.int (4 : Int32))])) (fun t k => XS.iloadN X41.here hx rfl (hb hby d4_11) rfl k) ?_
  refine own_to (T41.setTop (mkF m 13 #[.val (.ref a), .val (.int (0 : Int32)), .val (.int (4 : Int32))] [(.ref a), (.int (4 : Int32))])) (fun t k => XS.aloadN X41.here hx rfl (hb hby d4_12) rfl rfl k) ?_
  obtain ⟨T47, X47, e47, st47⟩ := getF X41 hx hZ hown (host := "") (Or.inl (hw _ (List.mem_of_getElem? (i := 11) rfl))) Via.refl e41 F43 (g := (mkF m 13 #[.val (.ref a), .val (.int (0 : Int32)), .val (.int (4 : Int32))] [(.ref a), (.int (4 : Int32))])) rfl rfl (hb hby d4_13)
  refine own_to (T47.setTop (mkF m 16 #[.val (.ref a), .val (.int (0 : Int32)), .val (.int (4 : Int32))] [(.ref pg), (.int (4 : Int32))])) (fun t k => st47 t k) ?_
  obtain ⟨c48, r48, q48, z48, p48, j48, f48⟩ := id V45
  refine own_to (T47.setTop (mkF m 17 #[.val (.ref a), .val (.int (0 : Int32)), .val (.int (4 : Int32))] [(.int (16 : Int32)), (.int (4 : Int32))])) (fun t k => X47.arraylength hx (by rw [e47]; exact r48.1) (State.isArrayOf_alike hZ.alike r48.2.1) (g := (mkF m 16 #[.val (.ref a), .val (.int (0 : Int32)), .val (.int (4 : Int32))] [(.ref pg), (.int (4 : Int32))])) rfl rfl (hb hby d4_16) t (by rw [len_of z48 p48]; exact k)) ?_
  refine own_to (T47.setTop (mkF m 20 #[.val (.ref a), .val (.int (0 : Int32)), .val (.int (4 : Int32))] [])) (fun t k => XS.icmpNo X47.here hx rfl (hb hby d4_17) rfl (tlt (by decide)).2.1 k) ?_
  refine own_to (T47.setTop (mkF m 21 #[.val (.ref a), .val (.int (0 : Int32)), .val (.int (4 : Int32))] [(.ref a)])) (fun t k => XS.aloadN X47.here hx rfl (hb hby d4_20) rfl rfl k) ?_
  obtain ⟨T49, X49, e49, st49⟩ := getF X47 hx hZ hown (host := "") (Or.inl (hw _ (List.mem_of_getElem? (i := 11) rfl))) Via.refl e47 F43 (g := (mkF m 21 #[.val (.ref a), .val (.int (0 : Int32)), .val (.int (4 : Int32))] [(.ref a)])) rfl rfl (hb hby d4_21)
  refine own_to (T49.setTop (mkF m 24 #[.val (.ref a), .val (.int (0 : Int32)), .val (.int (4 : Int32))] [(.ref pg)])) (fun t k => st49 t k) ?_
  refine own_to (T49.setTop (mkF m 25 #[.val (.ref a), .val (.int (0 : Int32)), .val (.int (4 : Int32))] [(.int (4 : Int32)), (.ref pg)])) (fun t k => XS.iloadN X49.here hx rfl (hb hby d4_24) rfl k) ?_
  refine own_to (T49.setTop (mkF m 26 #[.val (.ref a), .val (.int (0 : Int32)), .val (.int (4 : Int32))] [.null, (.int (4 : Int32)), (.ref pg)])) (fun t k => XS.aconstNull X49.here hx rfl (hb hby d4_25) k) ?_
  obtain ⟨c50, r50, q50, z50, p50, j50, f50⟩ := id V45
  have u50 := inb_of z50 (j := (4 : Int32)) ⟨by decide, by decide⟩
  obtain ⟨T50, h50, X50, e50, W50, st50⟩ := stR X49 hx hZ e49 r50 u50 rfl (Or.inl rfl) (g := (mkF m 26 #[.val (.ref a), .val (.int (0 : Int32)), .val (.int (4 : Int32))] [.null, (.int (4 : Int32)), (.ref pg)])) rfl rfl (hb hby d4_26)
  have N50 := Fr.snoc X50 N41 gp
  have F51 := F42.wr W50
  have F52 := F43.other W50 (Or.inl nap)
  have F53 := F44.other W50 (Or.inl nap)
  have V54 : Arv Z h50 pg kp (.array .int) (16 : Int32) [.null, .null, .null, .null, .null, .null, .null, .null, .null, .null, .null, .null, .null, .null, .null, .null] .null := Arv.set r50 q50 z50 p50 j50 f50 rfl W50 4 rfl (Nat.le_of_ble_eq_true rfl)
  have Z55 : n0 ≤ h50.size := by rw [W50.size]; exact Z46
  refine own_to (T50.setTop (mkF m 27 #[.val (.ref a), .val (.int (0 : Int32)), .val (.int (4 : Int32))] [])) (fun t k => st50 t k) ?_
  refine own_to (T50.setTop (mkF m 30 #[.val (.ref a), .val (.int (0 : Int32)), .val (.int (5 : Int32))] [])) (fun t k => XT.iincV X50.here hx rfl (1 : Int32) (hb hby d4_27) (by decide) rfl (l' := #[.val (.ref a), .val (.int (0 : Int32)), .val (.int (5 : Int32))]) (by rw [show (4 : Int32) + (1 : Int32) = (5 : Int32) from by decide]; rfl) k) ?_
  refine own_to (T50.setTop (mkF m 11 #[.val (.ref a), .val (.int (0 : Int32)), .val (.int (5 : Int32))] [])) (fun t k => XS.goto X50.here hx rfl (pc0 := 30) (pc' := 11) rfl (hb hby d4_30) (by decide) (by decide) k) ?_
  refine own_to (T50.setTop (mkF m 12 #[.val (.ref a), .val (.int (0 : Int32)), .val (.int (5 : Int32))] [(.int (5 : Int32))])) (fun t k => XS.iloadN X50.here hx rfl (hb hby d4_11) rfl k) ?_
  refine own_to (T50.setTop (mkF m 13 #[.val (.ref a), .val (.int (0 : Int32)), .val (.int (5 : Int32))] [(.ref a), (.int (5 : Int32))])) (fun t k => XS.aloadN X50.here hx rfl (hb hby d4_12) rfl rfl k) ?_
  obtain ⟨T56, X56, e56, st56⟩ := getF X50 hx hZ hown (host := "") (Or.inl (hw _ (List.mem_of_getElem? (i := 11) rfl))) Via.refl e50 F52 (g := (mkF m 13 #[.val (.ref a), .val (.int (0 : Int32)), .val (.int (5 : Int32))] [(.ref a), (.int (5 : Int32))])) rfl rfl (hb hby d4_13)
  refine own_to (T56.setTop (mkF m 16 #[.val (.ref a), .val (.int (0 : Int32)), .val (.int (5 : Int32))] [(.ref pg), (.int (5 : Int32))])) (fun t k => st56 t k) ?_
  obtain ⟨c57, r57, q57, z57, p57, j57, f57⟩ := id V54
  refine own_to (T56.setTop (mkF m 17 #[.val (.ref a), .val (.int (0 : Int32)), .val (.int (5 : Int32))] [(.int (16 : Int32)), (.int (5 : Int32))])) (fun t k => X56.arraylength hx (by rw [e56]; exact r57.1) (State.isArrayOf_alike hZ.alike r57.2.1) (g := (mkF m 16 #[.val (.ref a), .val (.int (0 : Int32)), .val (.int (5 : Int32))] [(.ref pg), (.int (5 : Int32))])) rfl rfl (hb hby d4_16) t (by rw [len_of z57 p57]; exact k)) ?_
  refine own_to (T56.setTop (mkF m 20 #[.val (.ref a), .val (.int (0 : Int32)), .val (.int (5 : Int32))] [])) (fun t k => XS.icmpNo X56.here hx rfl (hb hby d4_17) rfl (tlt (by decide)).2.1 k) ?_
  refine own_to (T56.setTop (mkF m 21 #[.val (.ref a), .val (.int (0 : Int32)), .val (.int (5 : Int32))] [(.ref a)])) (fun t k => XS.aloadN X56.here hx rfl (hb hby d4_20) rfl rfl k) ?_
  obtain ⟨T58, X58, e58, st58⟩ := getF X56 hx hZ hown (host := "") (Or.inl (hw _ (List.mem_of_getElem? (i := 11) rfl))) Via.refl e56 F52 (g := (mkF m 21 #[.val (.ref a), .val (.int (0 : Int32)), .val (.int (5 : Int32))] [(.ref a)])) rfl rfl (hb hby d4_21)
  refine own_to (T58.setTop (mkF m 24 #[.val (.ref a), .val (.int (0 : Int32)), .val (.int (5 : Int32))] [(.ref pg)])) (fun t k => st58 t k) ?_
  refine own_to (T58.setTop (mkF m 25 #[.val (.ref a), .val (.int (0 : Int32)), .val (.int (5 : Int32))] [(.int (5 : Int32)), (.ref pg)])) (fun t k => XS.iloadN X58.here hx rfl (hb hby d4_24) rfl k) ?_
  refine own_to (T58.setTop (mkF m 26 #[.val (.ref a), .val (.int (0 : Int32)), .val (.int (5 : Int32))] [.null, (.int (5 : Int32)), (.ref pg)])) (fun t k => XS.aconstNull X58.here hx rfl (hb hby d4_25) k) ?_
  obtain ⟨c59, r59, q59, z59, p59, j59, f59⟩ := id V54
  have u59 := inb_of z59 (j := (5 : Int32)) ⟨by decide, by decide⟩
  obtain ⟨T59, h59, X59, e59, W59, st59⟩ := stR X58 hx hZ e58 r59 u59 rfl (Or.inl rfl) (g := (mkF m 26 #[.val (.ref a), .val (.int (0 : Int32)), .val (.int (5 : Int32))] [.null, (.int (5 : Int32)), (.ref pg)])) rfl rfl (hb hby d4_26)
  have N59 := Fr.snoc X59 N50 gp
  have F60 := F51.wr W59
  have F61 := F52.other W59 (Or.inl nap)
  have F62 := F53.other W59 (Or.inl nap)
  have V63 : Arv Z h59 pg kp (.array .int) (16 : Int32) [.null, .null, .null, .null, .null, .null, .null, .null, .null, .null, .null, .null, .null, .null, .null, .null] .null := Arv.set r59 q59 z59 p59 j59 f59 rfl W59 5 rfl (Nat.le_of_ble_eq_true rfl)
  have Z64 : n0 ≤ h59.size := by rw [W59.size]; exact Z55
  refine own_to (T59.setTop (mkF m 27 #[.val (.ref a), .val (.int (0 : Int32)), .val (.int (5 : Int32))] [])) (fun t k => st59 t k) ?_
  refine own_to (T59.setTop (mkF m 30 #[.val (.ref a), .val (.int (0 : Int32)), .val (.int (6 : Int32))] [])) (fun t k => XT.iincV X59.here hx rfl (1 : Int32) (hb hby d4_27) (by decide) rfl (l' := #[.val (.ref a), .val (.int (0 : Int32)), .val (.int (6 : Int32))]) (by rw [show (5 : Int32) + (1 : Int32) = (6 : Int32) from by decide]; rfl) k) ?_
  refine own_to (T59.setTop (mkF m 11 #[.val (.ref a), .val (.int (0 : Int32)), .val (.int (6 : Int32))] [])) (fun t k => XS.goto X59.here hx rfl (pc0 := 30) (pc' := 11) rfl (hb hby d4_30) (by decide) (by decide) k) ?_
  refine own_to (T59.setTop (mkF m 12 #[.val (.ref a), .val (.int (0 : Int32)), .val (.int (6 : Int32))] [(.int (6 : Int32))])) (fun t k => XS.iloadN X59.here hx rfl (hb hby d4_11) rfl k) ?_
  refine own_to (T59.setTop (mkF m 13 #[.val (.ref a), .val (.int (0 : Int32)), .val (.int (6 : Int32))] [(.ref a), (.int (6 : Int32))])) (fun t k => XS.aloadN X59.here hx rfl (hb hby d4_12) rfl rfl k) ?_
  obtain ⟨T65, X65, e65, st65⟩ := getF X59 hx hZ hown (host := "") (Or.inl (hw _ (List.mem_of_getElem? (i := 11) rfl))) Via.refl e59 F61 (g := (mkF m 13 #[.val (.ref a), .val (.int (0 : Int32)), .val (.int (6 : Int32))] [(.ref a), (.int (6 : Int32))])) rfl rfl (hb hby d4_13)
  refine own_to (T65.setTop (mkF m 16 #[.val (.ref a), .val (.int (0 : Int32)), .val (.int (6 : Int32))] [(.ref pg), (.int (6 : Int32))])) (fun t k => st65 t k) ?_
  obtain ⟨c66, r66, q66, z66, p66, j66, f66⟩ := id V63
  refine own_to (T65.setTop (mkF m 17 #[.val (.ref a), .val (.int (0 : Int32)), .val (.int (6 : Int32))] [(.int (16 : Int32)), (.int (6 : Int32))])) (fun t k => X65.arraylength hx (by rw [e65]; exact r66.1) (State.isArrayOf_alike hZ.alike r66.2.1) (g := (mkF m 16 #[.val (.ref a), .val (.int (0 : Int32)), .val (.int (6 : Int32))] [(.ref pg), (.int (6 : Int32))])) rfl rfl (hb hby d4_16) t (by rw [len_of z66 p66]; exact k)) ?_
  refine own_to (T65.setTop (mkF m 20 #[.val (.ref a), .val (.int (0 : Int32)), .val (.int (6 : Int32))] [])) (fun t k => XS.icmpNo X65.here hx rfl (hb hby d4_17) rfl (tlt (by decide)).2.1 k) ?_
  refine own_to (T65.setTop (mkF m 21 #[.val (.ref a), .val (.int (0 : Int32)), .val (.int (6 : Int32))] [(.ref a)])) (fun t k => XS.aloadN X65.here hx rfl (hb hby d4_20) rfl rfl k) ?_
  obtain ⟨T67, X67, e67, st67⟩ := getF X65 hx hZ hown (host := "") (Or.inl (hw _ (List.mem_of_getElem? (i := 11) rfl))) Via.refl e65 F61 (g := (mkF m 21 #[.val (.ref a), .val (.int (0 : Int32)), .val (.int (6 : Int32))] [(.ref a)])) rfl rfl (hb hby d4_21)
  refine own_to (T67.setTop (mkF m 24 #[.val (.ref a), .val (.int (0 : Int32)), .val (.int (6 : Int32))] [(.ref pg)])) (fun t k => st67 t k) ?_
  refine own_to (T67.setTop (mkF m 25 #[.val (.ref a), .val (.int (0 : Int32)), .val (.int (6 : Int32))] [(.int (6 : Int32)), (.ref pg)])) (fun t k => XS.iloadN X67.here hx rfl (hb hby d4_24) rfl k) ?_
  refine own_to (T67.setTop (mkF m 26 #[.val (.ref a), .val (.int (0 : Int32)), .val (.int (6 : Int32))] [.null, (.int (6 : Int32)), (.ref pg)])) (fun t k => XS.aconstNull X67.here hx rfl (hb hby d4_25) k) ?_
  obtain ⟨c68, r68, q68, z68, p68, j68, f68⟩ := id V63
  have u68 := inb_of z68 (j := (6 : Int32)) ⟨by decide, by decide⟩
  obtain ⟨T68, h68, X68, e68, W68, st68⟩ := stR X67 hx hZ e67 r68 u68 rfl (Or.inl rfl) (g := (mkF m 26 #[.val (.ref a), .val (.int (0 : Int32)), .val (.int (6 : Int32))] [.null, (.int (6 : Int32)), (.ref pg)])) rfl rfl (hb hby d4_26)
  have N68 := Fr.snoc X68 N59 gp
  have F69 := F60.wr W68
  have F70 := F61.other W68 (Or.inl nap)
  have F71 := F62.other W68 (Or.inl nap)
  have V72 : Arv Z h68 pg kp (.array .int) (16 : Int32) [.null, .null, .null, .null, .null, .null, .null, .null, .null, .null, .null, .null, .null, .null, .null, .null] .null := Arv.set r68 q68 z68 p68 j68 f68 rfl W68 6 rfl (Nat.le_of_ble_eq_true rfl)
  have Z73 : n0 ≤ h68.size := by rw [W68.size]; exact Z64
  refine own_to (T68.setTop (mkF m 27 #[.val (.ref a), .val (.int (0 : Int32)), .val (.int (6 : Int32))] [])) (fun t k => st68 t k) ?_
  refine own_to (T68.setTop (mkF m 30 #[.val (.ref a), .val (.int (0 : Int32)), .val (.int (7 : Int32))] [])) (fun t k => XT.iincV X68.here hx rfl (1 : Int32) (hb hby d4_27) (by decide) rfl (l' := #[.val (.ref a), .val (.int (0 : Int32)), .val (.int (7 : Int32))]) (by rw [show (6 : Int32) + (1 : Int32) = (7 : Int32) from by decide]; rfl) k) ?_
  refine own_to (T68.setTop (mkF m 11 #[.val (.ref a), .val (.int (0 : Int32)), .val (.int (7 : Int32))] [])) (fun t k => XS.goto X68.here hx rfl (pc0 := 30) (pc' := 11) rfl (hb hby d4_30) (by decide) (by decide) k) ?_
  refine own_to (T68.setTop (mkF m 12 #[.val (.ref a), .val (.int (0 : Int32)), .val (.int (7 : Int32))] [(.int (7 : Int32))])) (fun t k => XS.iloadN X68.here hx rfl (hb hby d4_11) rfl k) ?_
  refine own_to (T68.setTop (mkF m 13 #[.val (.ref a), .val (.int (0 : Int32)), .val (.int (7 : Int32))] [(.ref a), (.int (7 : Int32))])) (fun t k => XS.aloadN X68.here hx rfl (hb hby d4_12) rfl rfl k) ?_
  obtain ⟨T74, X74, e74, st74⟩ := getF X68 hx hZ hown (host := "") (Or.inl (hw _ (List.mem_of_getElem? (i := 11) rfl))) Via.refl e68 F70 (g := (mkF m 13 #[.val (.ref a), .val (.int (0 : Int32)), .val (.int (7 : Int32))] [(.ref a), (.int (7 : Int32))])) rfl rfl (hb hby d4_13)
  refine own_to (T74.setTop (mkF m 16 #[.val (.ref a), .val (.int (0 : Int32)), .val (.int (7 : Int32))] [(.ref pg), (.int (7 : Int32))])) (fun t k => st74 t k) ?_
  obtain ⟨c75, r75, q75, z75, p75, j75, f75⟩ := id V72
  refine own_to (T74.setTop (mkF m 17 #[.val (.ref a), .val (.int (0 : Int32)), .val (.int (7 : Int32))] [(.int (16 : Int32)), (.int (7 : Int32))])) (fun t k => X74.arraylength hx (by rw [e74]; exact r75.1) (State.isArrayOf_alike hZ.alike r75.2.1) (g := (mkF m 16 #[.val (.ref a), .val (.int (0 : Int32)), .val (.int (7 : Int32))] [(.ref pg), (.int (7 : Int32))])) rfl rfl (hb hby d4_16) t (by rw [len_of z75 p75]; exact k)) ?_
  refine own_to (T74.setTop (mkF m 20 #[.val (.ref a), .val (.int (0 : Int32)), .val (.int (7 : Int32))] [])) (fun t k => XS.icmpNo X74.here hx rfl (hb hby d4_17) rfl (tlt (by decide)).2.1 k) ?_
  refine own_to (T74.setTop (mkF m 21 #[.val (.ref a), .val (.int (0 : Int32)), .val (.int (7 : Int32))] [(.ref a)])) (fun t k => XS.aloadN X74.here hx rfl (hb hby d4_20) rfl rfl k) ?_
  obtain ⟨T76, X76, e76, st76⟩ := getF X74 hx hZ hown (host := "") (Or.inl (hw _ (List.mem_of_getElem? (i := 11) rfl))) Via.refl e74 F70 (g := (mkF m 21 #[.val (.ref a), .val (.int (0 : Int32)), .val (.int (7 : Int32))] [(.ref a)])) rfl rfl (hb hby d4_21)
  refine own_to (T76.setTop (mkF m 24 #[.val (.ref a), .val (.int (0 : Int32)), .val (.int (7 : Int32))] [(.ref pg)])) (fun t k => st76 t k) ?_
  refine own_to (T76.setTop (mkF m 25 #[.val (.ref a), .val (.int (0 : Int32)), .val (.int (7 : Int32))] [(.int (7 : Int32)), (.ref pg)])) (fun t k => XS.iloadN X76.here hx rfl (hb hby d4_24) rfl k) ?_
  refine own_to (T76.setTop (mkF m 26 #[.val (.ref a), .val (.int (0 : Int32)), .val (.int (7 : Int32))] [.null, (.int (7 : Int32)), (.ref pg)])) (fun t k => XS.aconstNull X76.here hx rfl (hb hby d4_25) k) ?_
  obtain ⟨c77, r77, q77, z77, p77, j77, f77⟩ := id V72
  have u77 := inb_of z77 (j := (7 : Int32)) ⟨by decide, by decide⟩
  obtain ⟨T77, h77, X77, e77, W77, st77⟩ := stR X76 hx hZ e76 r77 u77 rfl (Or.inl rfl) (g := (mkF m 26 #[.val (.ref a), .val (.int (0 : Int32)), .val (.int (7 : Int32))] [.null, (.int (7 : Int32)), (.ref pg)])) rfl rfl (hb hby d4_26)
  have N77 := Fr.snoc X77 N68 gp
  have F78 := F69.wr W77
  have F79 := F70.other W77 (Or.inl nap)
  have F80 := F71.other W77 (Or.inl nap)
  have V81 : Arv Z h77 pg kp (.array .int) (16 : Int32) [.null, .null, .null, .null, .null, .null, .null, .null, .null, .null, .null, .null, .null, .null, .null, .null] .null := Arv.set r77 q77 z77 p77 j77 f77 rfl W77 7 rfl (Nat.le_of_ble_eq_true rfl)
  have Z82 : n0 ≤ h77.size := by rw [W77.size]; exact Z73
  refine own_to (T77.setTop (mkF m 27 #[.val (.ref a), .val (.int (0 : Int32)), .val (.int (7 : Int32))] [])) (fun t k => st77 t k) ?_
  refine own_to (T77.setTop (mkF m 30 #[.val (.ref a), .val (.int (0 : Int32)), .val (.int (8 : Int32))] [])) (fun t k => XT.iincV X77.here hx rfl (1 : Int32) (hb hby d4_27) (by decide) rfl (l' := #[.val (.ref a), .val (.int (0 : Int32)), .val (.int (8 : Int32))]) (by rw [show (7 : Int32) + (1 : Int32) = (8 : Int32) from by decide]; rfl) k) ?_
  refine own_to (T77.setTop (mkF m 11 #[.val (.ref a), .val (.int (0 : Int32)), .val (.int (8 : Int32))] [])) (fun t k => XS.goto X77.here hx rfl (pc0 := 30) (pc' := 11) rfl (hb hby d4_30) (by decide) (by decide) k) ?_
  refine own_to (T77.setTop (mkF m 12 #[.val (.ref a), .val (.int (0 : Int32)), .val (.int (8 : Int32))] [(.int (8 : Int32))])) (fun t k => XS.iloadN X77.here hx rfl (hb hby d4_11) rfl k) ?_
  refine own_to (T77.setTop (mkF m 13 #[.val (.ref a), .val (.int (0 : Int32)), .val (.int (8 : Int32))] [(.ref a), (.int (8 : Int32))])) (fun t k => XS.aloadN X77.here hx rfl (hb hby d4_12) rfl rfl k) ?_
  obtain ⟨T83, X83, e83, st83⟩ := getF X77 hx hZ hown (host := "") (Or.inl (hw _ (List.mem_of_getElem? (i := 11) rfl))) Via.refl e77 F79 (g := (mkF m 13 #[.val (.ref a), .val (.int (0 : Int32)), .val (.int (8 : Int32))] [(.ref a), (.int (8 : Int32))])) rfl rfl (hb hby d4_13)
  refine own_to (T83.setTop (mkF m 16 #[.val (.ref a), .val (.int (0 : Int32)), .val (.int (8 : Int32))] [(.ref pg), (.int (8 : Int32))])) (fun t k => st83 t k) ?_
  obtain ⟨c84, r84, q84, z84, p84, j84, f84⟩ := id V81
  refine own_to (T83.setTop (mkF m 17 #[.val (.ref a), .val (.int (0 : Int32)), .val (.int (8 : Int32))] [(.int (16 : Int32)), (.int (8 : Int32))])) (fun t k => X83.arraylength hx (by rw [e83]; exact r84.1) (State.isArrayOf_alike hZ.alike r84.2.1) (g := (mkF m 16 #[.val (.ref a), .val (.int (0 : Int32)), .val (.int (8 : Int32))] [(.ref pg), (.int (8 : Int32))])) rfl rfl (hb hby d4_16) t (by rw [len_of z84 p84]; exact k)) ?_
  refine own_to (T83.setTop (mkF m 20 #[.val (.ref a), .val (.int (0 : Int32)), .val (.int (8 : Int32))] [])) (fun t k => XS.icmpNo X83.here hx rfl (hb hby d4_17) rfl (tlt (by decide)).2.1 k) ?_
  refine own_to (T83.setTop (mkF m 21 #[.val (.ref a), .val (.int (0 : Int32)), .val (.int (8 : Int32))] [(.ref a)])) (fun t k => XS.aloadN X83.here hx rfl (hb hby d4_20) rfl rfl k) ?_
  obtain ⟨T85, X85, e85, st85⟩ := getF X83 hx hZ hown (host := "") (Or.inl (hw _ (List.mem_of_getElem? (i := 11) rfl))) Via.refl e83 F79 (g := (mkF m 21 #[.val (.ref a), .val (.int (0 : Int32)), .val (.int (8 : Int32))] [(.ref a)])) rfl rfl (hb hby d4_21)
  refine own_to (T85.setTop (mkF m 24 #[.val (.ref a), .val (.int (0 : Int32)), .val (.int (8 : Int32))] [(.ref pg)])) (fun t k => st85 t k) ?_
  refine own_to (T85.setTop (mkF m 25 #[.val (.ref a), .val (.int (0 : Int32)), .val (.int (8 : Int32))] [(.int (8 : Int32)), (.ref pg)])) (fun t k => XS.iloadN X85.here hx rfl (hb hby d4_24) rfl k) ?_
  refine own_to (T85.setTop (mkF m 26 #[.val (.ref a), .val (.int (0 : Int32)), .val (.int (8 : Int32))] [.null, (.int (8 : Int32)), (.ref pg)])) (fun t k => XS.aconstNull X85.here hx rfl (hb hby d4_25) k) ?_
  obtain ⟨c86, r86, q86, z86, p86, j86, f86⟩ := id V81
  have u86 := inb_of z86 (j := (8 : Int32)) ⟨by decide, by decide⟩
  obtain ⟨T86, h86, X86, e86, W86, st86⟩ := stR X85 hx hZ e85 r86 u86 rfl (Or.inl rfl) (g := (mkF m 26 #[.val (.ref a), .val (.int (0 : Int32)), .val (.int (8 : Int32))] [.null, (.int (8 : Int32)), (.ref pg)])) rfl rfl (hb hby d4_26)
  have N86 := Fr.snoc X86 N77 gp
  have F87 := F78.wr W86
  have F88 := F79.other W86 (Or.inl nap)
  have F89 := F80.other W86 (Or.inl nap)
  have V90 : Arv Z h86 pg kp (.array .int) (16 : Int32) [.null, .null, .null, .null, .null, .null, .null, .null, .null, .null, .null, .null, .null, .null, .null, .null] .null := Arv.set r86 q86 z86 p86 j86 f86 rfl W86 8 rfl (Nat.le_of_ble_eq_true rfl)
  have Z91 : n0 ≤ h86.size := by rw [W86.size]; exact Z82
  refine own_to (T86.setTop (mkF m 27 #[.val (.ref a), .val (.int (0 : Int32)), .val (.int (8 : Int32))] [])) (fun t k => st86 t k) ?_
  refine own_to (T86.setTop (mkF m 30 #[.val (.ref a), .val (.int (0 : Int32)), .val (.int (9 : Int32))] [])) (fun t k => XT.iincV X86.here hx rfl (1 : Int32) (hb hby d4_27) (by decide) rfl (l' := #[.val (.ref a), .val (.int (0 : Int32)), .val (.int (9 : Int32))]) (by rw [show (8 : Int32) + (1 : Int32) = (9 : Int32) from by decide]; rfl) k) ?_
  refine own_to (T86.setTop (mkF m 11 #[.val (.ref a), .val (.int (0 : Int32)), .val (.int (9 : Int32))] [])) (fun t k => XS.goto X86.here hx rfl (pc0 := 30) (pc' := 11) rfl (hb hby d4_30) (by decide) (by decide) k) ?_
  refine own_to (T86.setTop (mkF m 12 #[.val (.ref a), .val (.int (0 : Int32)), .val (.int (9 : Int32))] [(.int (9 : Int32))])) (fun t k => XS.iloadN X86.here hx rfl (hb hby d4_11) rfl k) ?_
  refine own_to (T86.setTop (mkF m 13 #[.val (.ref a), .val (.int (0 : Int32)), .val (.int (9 : Int32))] [(.ref a), (.int (9 : Int32))])) (fun t k => XS.aloadN X86.here hx rfl (hb hby d4_12) rfl rfl k) ?_
  obtain ⟨T92, X92, e92, st92⟩ := getF X86 hx hZ hown (host := "") (Or.inl (hw _ (List.mem_of_getElem? (i := 11) rfl))) Via.refl e86 F88 (g := (mkF m 13 #[.val (.ref a), .val (.int (0 : Int32)), .val (.int (9 : Int32))] [(.ref a), (.int (9 : Int32))])) rfl rfl (hb hby d4_13)
  refine own_to (T92.setTop (mkF m 16 #[.val (.ref a), .val (.int (0 : Int32)), .val (.int (9 : Int32))] [(.ref pg), (.int (9 : Int32))])) (fun t k => st92 t k) ?_
  obtain ⟨c93, r93, q93, z93, p93, j93, f93⟩ := id V90
  refine own_to (T92.setTop (mkF m 17 #[.val (.ref a), .val (.int (0 : Int32)), .val (.int (9 : Int32))] [(.int (16 : Int32)), (.int (9 : Int32))])) (fun t k => X92.arraylength hx (by rw [e92]; exact r93.1) (State.isArrayOf_alike hZ.alike r93.2.1) (g := (mkF m 16 #[.val (.ref a), .val (.int (0 : Int32)), .val (.int (9 : Int32))] [(.ref pg), (.int (9 : Int32))])) rfl rfl (hb hby d4_16) t (by rw [len_of z93 p93]; exact k)) ?_
  refine own_to (T92.setTop (mkF m 20 #[.val (.ref a), .val (.int (0 : Int32)), .val (.int (9 : Int32))] [])) (fun t k => XS.icmpNo X92.here hx rfl (hb hby d4_17) rfl (tlt (by decide)).2.1 k) ?_
  refine own_to (T92.setTop (mkF m 21 #[.val (.ref a), .val (.int (0 : Int32)), .val (.int (9 : Int32))] [(.ref a)])) (fun t k => XS.aloadN X92.here hx rfl (hb hby d4_20) rfl rfl k) ?_
  obtain ⟨T94, X94, e94, st94⟩ := getF X92 hx hZ hown (host := "") (Or.inl (hw _ (List.mem_of_getElem? (i := 11) rfl))) Via.refl e92 F88 (g := (mkF m 21 #[.val (.ref a), .val (.int (0 : Int32)), .val (.int (9 : Int32))] [(.ref a)])) rfl rfl (hb hby d4_21)
  refine own_to (T94.setTop (mkF m 24 #[.val (.ref a), .val (.int (0 : Int32)), .val (.int (9 : Int32))] [(.ref pg)])) (fun t k => st94 t k) ?_
  refine own_to (T94.setTop (mkF m 25 #[.val (.ref a), .val (.int (0 : Int32)), .val (.int (9 : Int32))] [(.int (9 : Int32)), (.ref pg)])) (fun t k => XS.iloadN X94.here hx rfl (hb hby d4_24) rfl k) ?_
  refine own_to (T94.setTop (mkF m 26 #[.val (.ref a), .val (.int (0 : Int32)), .val (.int (9 : Int32))] [.null, (.int (9 : Int32)), (.ref pg)])) (fun t k => XS.aconstNull X94.here hx rfl (hb hby d4_25) k) ?_
  obtain ⟨c95, r95, q95, z95, p95, j95, f95⟩ := id V90
  have u95 := inb_of z95 (j := (9 : Int32)) ⟨by decide, by decide⟩
  obtain ⟨T95, h95, X95, e95, W95, st95⟩ := stR X94 hx hZ e94 r95 u95 rfl (Or.inl rfl) (g := (mkF m 26 #[.val (.ref a), .val (.int (0 : Int32)), .val (.int (9 : Int32))] [.null, (.int (9 : Int32)), (.ref pg)])) rfl rfl (hb hby d4_26)
  have N95 := Fr.snoc X95 N86 gp
  have F96 := F87.wr W95
  have F97 := F88.other W95 (Or.inl nap)
  have F98 := F89.other W95 (Or.inl nap)
  have V99 : Arv Z h95 pg kp (.array .int) (16 : Int32) [.null, .null, .null, .null, .null, .null, .null, .null, .null, .null, .null, .null, .null, .null, .null, .null] .null := Arv.set r95 q95 z95 p95 j95 f95 rfl W95 9 rfl (Nat.le_of_ble_eq_true rfl)
  have Z100 : n0 ≤ h95.size := by rw [W95.size]; exact Z91
  refine own_to (T95.setTop (mkF m 27 #[.val (.ref a), .val (.int (0 : Int32)), .val (.int (9 : Int32))] [])) (fun t k => st95 t k) ?_
  refine own_to (T95.setTop (mkF m 30 #[.val (.ref a), .val (.int (0 : Int32)), .val (.int (10 : Int32))] [])) (fun t k => XT.iincV X95.here hx rfl (1 : Int32) (hb hby d4_27) (by decide) rfl (l' := #[.val (.ref a), .val (.int (0 : Int32)), .val (.int (10 : Int32))]) (by rw [show (9 : Int32) + (1 : Int32) = (10 : Int32) from by decide]; rfl) k) ?_
  refine own_to (T95.setTop (mkF m 11 #[.val (.ref a), .val (.int (0 : Int32)), .val (.int (10 : Int32))] [])) (fun t k => XS.goto X95.here hx rfl (pc0 := 30) (pc' := 11) rfl (hb hby d4_30) (by decide) (by decide) k) ?_
  refine own_to (T95.setTop (mkF m 12 #[.val (.ref a), .val (.int (0 : Int32)), .val (.int (10 : Int32))] [(.int (10 : Int32))])) (fun t k => XS.iloadN X95.here hx rfl (hb hby d4_11) rfl k) ?_
  refine own_to (T95.setTop (mkF m 13 #[.val (.ref a), .val (.int (0 : Int32)), .val (.int (10 : Int32))] [(.ref a), (.int (10 : Int32))])) (fun t k => XS.aloadN X95.here hx rfl (hb hby d4_12) rfl rfl k) ?_
  obtain ⟨T101, X101, e101, st101⟩ := getF X95 hx hZ hown (host := "") (Or.inl (hw _ (List.mem_of_getElem? (i := 11) rfl))) Via.refl e95 F97 (g := (mkF m 13 #[.val (.ref a), .val (.int (0 : Int32)), .val (.int (10 : Int32))] [(.ref a), (.int (10 : Int32))])) rfl rfl (hb hby d4_13)
  refine own_to (T101.setTop (mkF m 16 #[.val (.ref a), .val (.int (0 : Int32)), .val (.int (10 : Int32))] [(.ref pg), (.int (10 : Int32))])) (fun t k => st101 t k) ?_
  obtain ⟨c102, r102, q102, z102, p102, j102, f102⟩ := id V99
  refine own_to (T101.setTop (mkF m 17 #[.val (.ref a), .val (.int (0 : Int32)), .val (.int (10 : Int32))] [(.int (16 : Int32)), (.int (10 : Int32))])) (fun t k => X101.arraylength hx (by rw [e101]; exact r102.1) (State.isArrayOf_alike hZ.alike r102.2.1) (g := (mkF m 16 #[.val (.ref a), .val (.int (0 : Int32)), .val (.int (10 : Int32))] [(.ref pg), (.int (10 : Int32))])) rfl rfl (hb hby d4_16) t (by rw [len_of z102 p102]; exact k)) ?_
  refine own_to (T101.setTop (mkF m 20 #[.val (.ref a), .val (.int (0 : Int32)), .val (.int (10 : Int32))] [])) (fun t k => XS.icmpNo X101.here hx rfl (hb hby d4_17) rfl (tlt (by decide)).2.1 k) ?_
  refine own_to (T101.setTop (mkF m 21 #[.val (.ref a), .val (.int (0 : Int32)), .val (.int (10 : Int32))] [(.ref a)])) (fun t k => XS.aloadN X101.here hx rfl (hb hby d4_20) rfl rfl k) ?_
  obtain ⟨T103, X103, e103, st103⟩ := getF X101 hx hZ hown (host := "") (Or.inl (hw _ (List.mem_of_getElem? (i := 11) rfl))) Via.refl e101 F97 (g := (mkF m 21 #[.val (.ref a), .val (.int (0 : Int32)), .val (.int (10 : Int32))] [(.ref a)])) rfl rfl (hb hby d4_21)
  refine own_to (T103.setTop (mkF m 24 #[.val (.ref a), .val (.int (0 : Int32)), .val (.int (10 : Int32))] [(.ref pg)])) (fun t k => st103 t k) ?_
  refine own_to (T103.setTop (mkF m 25 #[.val (.ref a), .val (.int (0 : Int32)), .val (.int (10 : Int32))] [(.int (10 : Int32)), (.ref pg)])) (fun t k => XS.iloadN X103.here hx rfl (hb hby d4_24) rfl k) ?_
  refine own_to (T103.setTop (mkF m 26 #[.val (.ref a), .val (.int (0 : Int32)), .val (.int (10 : Int32))] [.null, (.int (10 : Int32)), (.ref pg)])) (fun t k => XS.aconstNull X103.here hx rfl (hb hby d4_25) k) ?_
  obtain ⟨c104, r104, q104, z104, p104, j104, f104⟩ := id V99
  have u104 := inb_of z104 (j := (10 : Int32)) ⟨by decide, by decide⟩
  obtain ⟨T104, h104, X104, e104, W104, st104⟩ := stR X103 hx hZ e103 r104 u104 rfl (Or.inl rfl) (g := (mkF m 26 #[.val (.ref a), .val (.int (0 : Int32)), .val (.int (10 : Int32))] [.null, (.int (10 : Int32)), (.ref pg)])) rfl rfl (hb hby d4_26)
  have N104 := Fr.snoc X104 N95 gp
  have F105 := F96.wr W104
  have F106 := F97.other W104 (Or.inl nap)
  have F107 := F98.other W104 (Or.inl nap)
  have V108 : Arv Z h104 pg kp (.array .int) (16 : Int32) [.null, .null, .null, .null, .null, .null, .null, .null, .null, .null, .null, .null, .null, .null, .null, .null] .null := Arv.set r104 q104 z104 p104 j104 f104 rfl W104 10 rfl (Nat.le_of_ble_eq_true rfl)
  have Z109 : n0 ≤ h104.size := by rw [W104.size]; exact Z100
  refine own_to (T104.setTop (mkF m 27 #[.val (.ref a), .val (.int (0 : Int32)), .val (.int (10 : Int32))] [])) (fun t k => st104 t k) ?_
  refine own_to (T104.setTop (mkF m 30 #[.val (.ref a), .val (.int (0 : Int32)), .val (.int (11 : Int32))] [])) (fun t k => XT.iincV X104.here hx rfl (1 : Int32) (hb hby d4_27) (by decide) rfl (l' := #[.val (.ref a), .val (.int (0 : Int32)), .val (.int (11 : Int32))]) (by rw [show (10 : Int32) + (1 : Int32) = (11 : Int32) from by decide]; rfl) k) ?_
  refine own_to (T104.setTop (mkF m 11 #[.val (.ref a), .val (.int (0 : Int32)), .val (.int (11 : Int32))] [])) (fun t k => XS.goto X104.here hx rfl (pc0 := 30) (pc' := 11) rfl (hb hby d4_30) (by decide) (by decide) k) ?_
  refine own_to (T104.setTop (mkF m 12 #[.val (.ref a), .val (.int (0 : Int32)), .val (.int (11 : Int32))] [(.int (11 : Int32))])) (fun t k => XS.iloadN X104.here hx rfl (hb hby d4_11) rfl k) ?_
  refine own_to (T104.setTop (mkF m 13 #[.val (.ref a), .val (.int (0 : Int32)), .val (.int (11 : Int32))] [(.ref a), (.int (11 : Int32))])) (fun t k => XS.aloadN X104.here hx rfl (hb hby d4_12) rfl rfl k) ?_
  obtain ⟨T110, X110, e110, st110⟩ := getF X104 hx hZ hown (host := "") (Or.inl (hw _ (List.mem_of_getElem? (i := 11) rfl))) Via.refl e104 F106 (g := (mkF m 13 #[.val (.ref a), .val (.int (0 : Int32)), .val (.int (11 : Int32))] [(.ref a), (.int (11 : Int32))])) rfl rfl (hb hby d4_13)
  refine own_to (T110.setTop (mkF m 16 #[.val (.ref a), .val (.int (0 : Int32)), .val (.int (11 : Int32))] [(.ref pg), (.int (11 : Int32))])) (fun t k => st110 t k) ?_
  obtain ⟨c111, r111, q111, z111, p111, j111, f111⟩ := id V108
  refine own_to (T110.setTop (mkF m 17 #[.val (.ref a), .val (.int (0 : Int32)), .val (.int (11 : Int32))] [(.int (16 : Int32)), (.int (11 : Int32))])) (fun t k => X110.arraylength hx (by rw [e110]; exact r111.1) (State.isArrayOf_alike hZ.alike r111.2.1) (g := (mkF m 16 #[.val (.ref a), .val (.int (0 : Int32)), .val (.int (11 : Int32))] [(.ref pg), (.int (11 : Int32))])) rfl rfl (hb hby d4_16) t (by rw [len_of z111 p111]; exact k)) ?_
  refine own_to (T110.setTop (mkF m 20 #[.val (.ref a), .val (.int (0 : Int32)), .val (.int (11 : Int32))] [])) (fun t k => XS.icmpNo X110.here hx rfl (hb hby d4_17) rfl (tlt (by decide)).2.1 k) ?_
  refine own_to (T110.setTop (mkF m 21 #[.val (.ref a), .val (.int (0 : Int32)), .val (.int (11 : Int32))] [(.ref a)])) (fun t k => XS.aloadN X110.here hx rfl (hb hby d4_20) rfl rfl k) ?_
  obtain ⟨T112, X112, e112, st112⟩ := getF X110 hx hZ hown (host := "") (Or.inl (hw _ (List.mem_of_getElem? (i := 11) rfl))) Via.refl e110 F106 (g := (mkF m 21 #[.val (.ref a), .val (.int (0 : Int32)), .val (.int (11 : Int32))] [(.ref a)])) rfl rfl (hb hby d4_21)
  refine own_to (T112.setTop (mkF m 24 #[.val (.ref a), .val (.int (0 : Int32)), .val (.int (11 : Int32))] [(.ref pg)])) (fun t k => st112 t k) ?_
  refine own_to (T112.setTop (mkF m 25 #[.val (.ref a), .val (.int (0 : Int32)), .val (.int (11 : Int32))] [(.int (11 : Int32)), (.ref pg)])) (fun t k => XS.iloadN X112.here hx rfl (hb hby d4_24) rfl k) ?_
  refine own_to (T112.setTop (mkF m 26 #[.val (.ref a), .val (.int (0 : Int32)), .val (.int (11 : Int32))] [.null, (.int (11 : Int32)), (.ref pg)])) (fun t k => XS.aconstNull X112.here hx rfl (hb hby d4_25) k) ?_
  obtain ⟨c113, r113, q113, z113, p113, j113, f113⟩ := id V108
  have u113 := inb_of z113 (j := (11 : Int32)) ⟨by decide, by decide⟩
  obtain ⟨T113, h113, X113, e113, W113, st113⟩ := stR X112 hx hZ e112 r113 u113 rfl (Or.inl rfl) (g := (mkF m 26 #[.val (.ref a), .val (.int (0 : Int32)), .val (.int (11 : Int32))] [.null, (.int (11 : Int32)), (.ref pg)])) rfl rfl (hb hby d4_26)
  have N113 := Fr.snoc X113 N104 gp
  have F114 := F105.wr W113
  have F115 := F106.other W113 (Or.inl nap)
  have F116 := F107.other W113 (Or.inl nap)
  have V117 : Arv Z h113 pg kp (.array .int) (16 : Int32) [.null, .null, .null, .null, .null, .null, .null, .null, .null, .null, .null, .null, .null, .null, .null, .null] .null := Arv.set r113 q113 z113 p113 j113 f113 rfl W113 11 rfl (Nat.le_of_ble_eq_true rfl)
  have Z118 : n0 ≤ h113.size := by rw [W113.size]; exact Z109
  refine own_to (T113.setTop (mkF m 27 #[.val (.ref a), .val (.int (0 : Int32)), .val (.int (11 : Int32))] [])) (fun t k => st113 t k) ?_
  refine own_to (T113.setTop (mkF m 30 #[.val (.ref a), .val (.int (0 : Int32)), .val (.int (12 : Int32))] [])) (fun t k => XT.iincV X113.here hx rfl (1 : Int32) (hb hby d4_27) (by decide) rfl (l' := #[.val (.ref a), .val (.int (0 : Int32)), .val (.int (12 : Int32))]) (by rw [show (11 : Int32) + (1 : Int32) = (12 : Int32) from by decide]; rfl) k) ?_
  refine own_to (T113.setTop (mkF m 11 #[.val (.ref a), .val (.int (0 : Int32)), .val (.int (12 : Int32))] [])) (fun t k => XS.goto X113.here hx rfl (pc0 := 30) (pc' := 11) rfl (hb hby d4_30) (by decide) (by decide) k) ?_
  refine own_to (T113.setTop (mkF m 12 #[.val (.ref a), .val (.int (0 : Int32)), .val (.int (12 : Int32))] [(.int (12 : Int32))])) (fun t k => XS.iloadN X113.here hx rfl (hb hby d4_11) rfl k) ?_
  refine own_to (T113.setTop (mkF m 13 #[.val (.ref a), .val (.int (0 : Int32)), .val (.int (12 : Int32))] [(.ref a), (.int (12 : Int32))])) (fun t k => XS.aloadN X113.here hx rfl (hb hby d4_12) rfl rfl k) ?_
  obtain ⟨T119, X119, e119, st119⟩ := getF X113 hx hZ hown (host := "") (Or.inl (hw _ (List.mem_of_getElem? (i := 11) rfl))) Via.refl e113 F115 (g := (mkF m 13 #[.val (.ref a), .val (.int (0 : Int32)), .val (.int (12 : Int32))] [(.ref a), (.int (12 : Int32))])) rfl rfl (hb hby d4_13)
  refine own_to (T119.setTop (mkF m 16 #[.val (.ref a), .val (.int (0 : Int32)), .val (.int (12 : Int32))] [(.ref pg), (.int (12 : Int32))])) (fun t k => st119 t k) ?_
  obtain ⟨c120, r120, q120, z120, p120, j120, f120⟩ := id V117
  refine own_to (T119.setTop (mkF m 17 #[.val (.ref a), .val (.int (0 : Int32)), .val (.int (12 : Int32))] [(.int (16 : Int32)), (.int (12 : Int32))])) (fun t k => X119.arraylength hx (by rw [e119]; exact r120.1) (State.isArrayOf_alike hZ.alike r120.2.1) (g := (mkF m 16 #[.val (.ref a), .val (.int (0 : Int32)), .val (.int (12 : Int32))] [(.ref pg), (.int (12 : Int32))])) rfl rfl (hb hby d4_16) t (by rw [len_of z120 p120]; exact k)) ?_
  refine own_to (T119.setTop (mkF m 20 #[.val (.ref a), .val (.int (0 : Int32)), .val (.int (12 : Int32))] [])) (fun t k => XS.icmpNo X119.here hx rfl (hb hby d4_17) rfl (tlt (by decide)).2.1 k) ?_
  refine own_to (T119.setTop (mkF m 21 #[.val (.ref a), .val (.int (0 : Int32)), .val (.int (12 : Int32))] [(.ref a)])) (fun t k => XS.aloadN X119.here hx rfl (hb hby d4_20) rfl rfl k) ?_
  obtain ⟨T121, X121, e121, st121⟩ := getF X119 hx hZ hown (host := "") (Or.inl (hw _ (List.mem_of_getElem? (i := 11) rfl))) Via.refl e119 F115 (g := (mkF m 21 #[.val (.ref a), .val (.int (0 : Int32)), .val (.int (12 : Int32))] [(.ref a)])) rfl rfl (hb hby d4_21)
  refine own_to (T121.setTop (mkF m 24 #[.val (.ref a), .val (.int (0 : Int32)), .val (.int (12 : Int32))] [(.ref pg)])) (fun t k => st121 t k) ?_
  refine own_to (T121.setTop (mkF m 25 #[.val (.ref a), .val (.int (0 : Int32)), .val (.int (12 : Int32))] [(.int (12 : Int32)), (.ref pg)])) (fun t k => XS.iloadN X121.here hx rfl (hb hby d4_24) rfl k) ?_
  refine own_to (T121.setTop (mkF m 26 #[.val (.ref a), .val (.int (0 : Int32)), .val (.int (12 : Int32))] [.null, (.int (12 : Int32)), (.ref pg)])) (fun t k => XS.aconstNull X121.here hx rfl (hb hby d4_25) k) ?_
  obtain ⟨c122, r122, q122, z122, p122, j122, f122⟩ := id V117
  have u122 := inb_of z122 (j := (12 : Int32)) ⟨by decide, by decide⟩
  obtain ⟨T122, h122, X122, e122, W122, st122⟩ := stR X121 hx hZ e121 r122 u122 rfl (Or.inl rfl) (g := (mkF m 26 #[.val (.ref a), .val (.int (0 : Int32)), .val (.int (12 : Int32))] [.null, (.int (12 : Int32)), (.ref pg)])) rfl rfl (hb hby d4_26)
  have N122 := Fr.snoc X122 N113 gp
  have F123 := F114.wr W122
  have F124 := F115.other W122 (Or.inl nap)
  have F125 := F116.other W122 (Or.inl nap)
  have V126 : Arv Z h122 pg kp (.array .int) (16 : Int32) [.null, .null, .null, .null, .null, .null, .null, .null, .null, .null, .null, .null, .null, .null, .null, .null] .null := Arv.set r122 q122 z122 p122 j122 f122 rfl W122 12 rfl (Nat.le_of_ble_eq_true rfl)
  have Z127 : n0 ≤ h122.size := by rw [W122.size]; exact Z118
  refine own_to (T122.setTop (mkF m 27 #[.val (.ref a), .val (.int (0 : Int32)), .val (.int (12 : Int32))] [])) (fun t k => st122 t k) ?_
  refine own_to (T122.setTop (mkF m 30 #[.val (.ref a), .val (.int (0 : Int32)), .val (.int (13 : Int32))] [])) (fun t k => XT.iincV X122.here hx rfl (1 : Int32) (hb hby d4_27) (by decide) rfl (l' := #[.val (.ref a), .val (.int (0 : Int32)), .val (.int (13 : Int32))]) (by rw [show (12 : Int32) + (1 : Int32) = (13 : Int32) from by decide]; rfl) k) ?_
  refine own_to (T122.setTop (mkF m 11 #[.val (.ref a), .val (.int (0 : Int32)), .val (.int (13 : Int32))] [])) (fun t k => XS.goto X122.here hx rfl (pc0 := 30) (pc' := 11) rfl (hb hby d4_30) (by decide) (by decide) k) ?_
  refine own_to (T122.setTop (mkF m 12 #[.val (.ref a), .val (.int (0 : Int32)), .val (.int (13 : Int32))] [(.int (13 : Int32))])) (fun t k => XS.iloadN X122.here hx rfl (hb hby d4_11) rfl k) ?_
  refine own_to (T122.setTop (mkF m 13 #[.val (.ref a), .val (.int (0 : Int32)), .val (.int (13 : Int32))] [(.ref a), (.int (13 : Int32))])) (fun t k => XS.aloadN X122.here hx rfl (hb hby d4_12) rfl rfl k) ?_
  obtain ⟨T128, X128, e128, st128⟩ := getF X122 hx hZ hown (host := "") (Or.inl (hw _ (List.mem_of_getElem? (i := 11) rfl))) Via.refl e122 F124 (g := (mkF m 13 #[.val (.ref a), .val (.int (0 : Int32)), .val (.int (13 : Int32))] [(.ref a), (.int (13 : Int32))])) rfl rfl (hb hby d4_13)
  refine own_to (T128.setTop (mkF m 16 #[.val (.ref a), .val (.int (0 : Int32)), .val (.int (13 : Int32))] [(.ref pg), (.int (13 : Int32))])) (fun t k => st128 t k) ?_
  obtain ⟨c129, r129, q129, z129, p129, j129, f129⟩ := id V126
  refine own_to (T128.setTop (mkF m 17 #[.val (.ref a), .val (.int (0 : Int32)), .val (.int (13 : Int32))] [(.int (16 : Int32)), (.int (13 : Int32))])) (fun t k => X128.arraylength hx (by rw [e128]; exact r129.1) (State.isArrayOf_alike hZ.alike r129.2.1) (g := (mkF m 16 #[.val (.ref a), .val (.int (0 : Int32)), .val (.int (13 : Int32))] [(.ref pg), (.int (13 : Int32))])) rfl rfl (hb hby d4_16) t (by rw [len_of z129 p129]; exact k)) ?_
  refine own_to (T128.setTop (mkF m 20 #[.val (.ref a), .val (.int (0 : Int32)), .val (.int (13 : Int32))] [])) (fun t k => XS.icmpNo X128.here hx rfl (hb hby d4_17) rfl (tlt (by decide)).2.1 k) ?_
  refine own_to (T128.setTop (mkF m 21 #[.val (.ref a), .val (.int (0 : Int32)), .val (.int (13 : Int32))] [(.ref a)])) (fun t k => XS.aloadN X128.here hx rfl (hb hby d4_20) rfl rfl k) ?_
  obtain ⟨T130, X130, e130, st130⟩ := getF X128 hx hZ hown (host := "") (Or.inl (hw _ (List.mem_of_getElem? (i := 11) rfl))) Via.refl e128 F124 (g := (mkF m 21 #[.val (.ref a), .val (.int (0 : Int32)), .val (.int (13 : Int32))] [(.ref a)])) rfl rfl (hb hby d4_21)
  refine own_to (T130.setTop (mkF m 24 #[.val (.ref a), .val (.int (0 : Int32)), .val (.int (13 : Int32))] [(.ref pg)])) (fun t k => st130 t k) ?_
  refine own_to (T130.setTop (mkF m 25 #[.val (.ref a), .val (.int (0 : Int32)), .val (.int (13 : Int32))] [(.int (13 : Int32)), (.ref pg)])) (fun t k => XS.iloadN X130.here hx rfl (hb hby d4_24) rfl k) ?_
  refine own_to (T130.setTop (mkF m 26 #[.val (.ref a), .val (.int (0 : Int32)), .val (.int (13 : Int32))] [.null, (.int (13 : Int32)), (.ref pg)])) (fun t k => XS.aconstNull X130.here hx rfl (hb hby d4_25) k) ?_
  obtain ⟨c131, r131, q131, z131, p131, j131, f131⟩ := id V126
  have u131 := inb_of z131 (j := (13 : Int32)) ⟨by decide, by decide⟩
  obtain ⟨T131, h131, X131, e131, W131, st131⟩ := stR X130 hx hZ e130 r131 u131 rfl (Or.inl rfl) (g := (mkF m 26 #[.val (.ref a), .val (.int (0 : Int32)), .val (.int (13 : Int32))] [.null, (.int (13 : Int32)), (.ref pg)])) rfl rfl (hb hby d4_26)
  have N131 := Fr.snoc X131 N122 gp
  have F132 := F123.wr W131
  have F133 := F124.other W131 (Or.inl nap)
  have F134 := F125.other W131 (Or.inl nap)
  have V135 : Arv Z h131 pg kp (.array .int) (16 : Int32) [.null, .null, .null, .null, .null, .null, .null, .null, .null, .null, .null, .null, .null, .null, .null, .null] .null := Arv.set r131 q131 z131 p131 j131 f131 rfl W131 13 rfl (Nat.le_of_ble_eq_true rfl)
  have Z136 : n0 ≤ h131.size := by rw [W131.size]; exact Z127
  refine own_to (T131.setTop (mkF m 27 #[.val (.ref a), .val (.int (0 : Int32)), .val (.int (13 : Int32))] [])) (fun t k => st131 t k) ?_
  refine own_to (T131.setTop (mkF m 30 #[.val (.ref a), .val (.int (0 : Int32)), .val (.int (14 : Int32))] [])) (fun t k => XT.iincV X131.here hx rfl (1 : Int32) (hb hby d4_27) (by decide) rfl (l' := #[.val (.ref a), .val (.int (0 : Int32)), .val (.int (14 : Int32))]) (by rw [show (13 : Int32) + (1 : Int32) = (14 : Int32) from by decide]; rfl) k) ?_
  refine own_to (T131.setTop (mkF m 11 #[.val (.ref a), .val (.int (0 : Int32)), .val (.int (14 : Int32))] [])) (fun t k => XS.goto X131.here hx rfl (pc0 := 30) (pc' := 11) rfl (hb hby d4_30) (by decide) (by decide) k) ?_
  refine own_to (T131.setTop (mkF m 12 #[.val (.ref a), .val (.int (0 : Int32)), .val (.int (14 : Int32))] [(.int (14 : Int32))])) (fun t k => XS.iloadN X131.here hx rfl (hb hby d4_11) rfl k) ?_
  refine own_to (T131.setTop (mkF m 13 #[.val (.ref a), .val (.int (0 : Int32)), .val (.int (14 : Int32))] [(.ref a), (.int (14 : Int32))])) (fun t k => XS.aloadN X131.here hx rfl (hb hby d4_12) rfl rfl k) ?_
  obtain ⟨T137, X137, e137, st137⟩ := getF X131 hx hZ hown (host := "") (Or.inl (hw _ (List.mem_of_getElem? (i := 11) rfl))) Via.refl e131 F133 (g := (mkF m 13 #[.val (.ref a), .val (.int (0 : Int32)), .val (.int (14 : Int32))] [(.ref a), (.int (14 : Int32))])) rfl rfl (hb hby d4_13)
  refine own_to (T137.setTop (mkF m 16 #[.val (.ref a), .val (.int (0 : Int32)), .val (.int (14 : Int32))] [(.ref pg), (.int (14 : Int32))])) (fun t k => st137 t k) ?_
  obtain ⟨c138, r138, q138, z138, p138, j138, f138⟩ := id V135
  refine own_to (T137.setTop (mkF m 17 #[.val (.ref a), .val (.int (0 : Int32)), .val (.int (14 : Int32))] [(.int (16 : Int32)), (.int (14 : Int32))])) (fun t k => X137.arraylength hx (by rw [e137]; exact r138.1) (State.isArrayOf_alike hZ.alike r138.2.1) (g := (mkF m 16 #[.val (.ref a), .val (.int (0 : Int32)), .val (.int (14 : Int32))] [(.ref pg), (.int (14 : Int32))])) rfl rfl (hb hby d4_16) t (by rw [len_of z138 p138]; exact k)) ?_
  refine own_to (T137.setTop (mkF m 20 #[.val (.ref a), .val (.int (0 : Int32)), .val (.int (14 : Int32))] [])) (fun t k => XS.icmpNo X137.here hx rfl (hb hby d4_17) rfl (tlt (by decide)).2.1 k) ?_
  refine own_to (T137.setTop (mkF m 21 #[.val (.ref a), .val (.int (0 : Int32)), .val (.int (14 : Int32))] [(.ref a)])) (fun t k => XS.aloadN X137.here hx rfl (hb hby d4_20) rfl rfl k) ?_
  obtain ⟨T139, X139, e139, st139⟩ := getF X137 hx hZ hown (host := "") (Or.inl (hw _ (List.mem_of_getElem? (i := 11) rfl))) Via.refl e137 F133 (g := (mkF m 21 #[.val (.ref a), .val (.int (0 : Int32)), .val (.int (14 : Int32))] [(.ref a)])) rfl rfl (hb hby d4_21)
  refine own_to (T139.setTop (mkF m 24 #[.val (.ref a), .val (.int (0 : Int32)), .val (.int (14 : Int32))] [(.ref pg)])) (fun t k => st139 t k) ?_
  refine own_to (T139.setTop (mkF m 25 #[.val (.ref a), .val (.int (0 : Int32)), .val (.int (14 : Int32))] [(.int (14 : Int32)), (.ref pg)])) (fun t k => XS.iloadN X139.here hx rfl (hb hby d4_24) rfl k) ?_
  refine own_to (T139.setTop (mkF m 26 #[.val (.ref a), .val (.int (0 : Int32)), .val (.int (14 : Int32))] [.null, (.int (14 : Int32)), (.ref pg)])) (fun t k => XS.aconstNull X139.here hx rfl (hb hby d4_25) k) ?_
  obtain ⟨c140, r140, q140, z140, p140, j140, f140⟩ := id V135
  have u140 := inb_of z140 (j := (14 : Int32)) ⟨by decide, by decide⟩
  obtain ⟨T140, h140, X140, e140, W140, st140⟩ := stR X139 hx hZ e139 r140 u140 rfl (Or.inl rfl) (g := (mkF m 26 #[.val (.ref a), .val (.int (0 : Int32)), .val (.int (14 : Int32))] [.null, (.int (14 : Int32)), (.ref pg)])) rfl rfl (hb hby d4_26)
  have N140 := Fr.snoc X140 N131 gp
  have F141 := F132.wr W140
  have F142 := F133.other W140 (Or.inl nap)
  have F143 := F134.other W140 (Or.inl nap)
  have V144 : Arv Z h140 pg kp (.array .int) (16 : Int32) [.null, .null, .null, .null, .null, .null, .null, .null, .null, .null, .null, .null, .null, .null, .null, .null] .null := Arv.set r140 q140 z140 p140 j140 f140 rfl W140 14 rfl (Nat.le_of_ble_eq_true rfl)
  have Z145 : n0 ≤ h140.size := by rw [W140.size]; exact Z136
  refine own_to (T140.setTop (mkF m 27 #[.val (.ref a), .val (.int (0 : Int32)), .val (.int (14 : Int32))] [])) (fun t k => st140 t k) ?_
  refine own_to (T140.setTop (mkF m 30 #[.val (.ref a), .val (.int (0 : Int32)), .val (.int (15 : Int32))] [])) (fun t k => XT.iincV X140.here hx rfl (1 : Int32) (hb hby d4_27) (by decide) rfl (l' := #[.val (.ref a), .val (.int (0 : Int32)), .val (.int (15 : Int32))]) (by rw [show (14 : Int32) + (1 : Int32) = (15 : Int32) from by decide]; rfl) k) ?_
  refine own_to (T140.setTop (mkF m 11 #[.val (.ref a), .val (.int (0 : Int32)), .val (.int (15 : Int32))] [])) (fun t k => XS.goto X140.here hx rfl (pc0 := 30) (pc' := 11) rfl (hb hby d4_30) (by decide) (by decide) k) ?_
  refine own_to (T140.setTop (mkF m 12 #[.val (.ref a), .val (.int (0 : Int32)), .val (.int (15 : Int32))] [(.int (15 : Int32))])) (fun t k => XS.iloadN X140.here hx rfl (hb hby d4_11) rfl k) ?_
  refine own_to (T140.setTop (mkF m 13 #[.val (.ref a), .val (.int (0 : Int32)), .val (.int (15 : Int32))] [(.ref a), (.int (15 : Int32))])) (fun t k => XS.aloadN X140.here hx rfl (hb hby d4_12) rfl rfl k) ?_
  obtain ⟨T146, X146, e146, st146⟩ := getF X140 hx hZ hown (host := "") (Or.inl (hw _ (List.mem_of_getElem? (i := 11) rfl))) Via.refl e140 F142 (g := (mkF m 13 #[.val (.ref a), .val (.int (0 : Int32)), .val (.int (15 : Int32))] [(.ref a), (.int (15 : Int32))])) rfl rfl (hb hby d4_13)
  refine own_to (T146.setTop (mkF m 16 #[.val (.ref a), .val (.int (0 : Int32)), .val (.int (15 : Int32))] [(.ref pg), (.int (15 : Int32))])) (fun t k => st146 t k) ?_
  obtain ⟨c147, r147, q147, z147, p147, j147, f147⟩ := id V144
  refine own_to (T146.setTop (mkF m 17 #[.val (.ref a), .val (.int (0 : Int32)), .val (.int (15 : Int32))] [(.int (16 : Int32)), (.int (15 : Int32))])) (fun t k => X146.arraylength hx (by rw [e146]; exact r147.1) (State.isArrayOf_alike hZ.alike r147.2.1) (g := (mkF m 16 #[.val (.ref a), .val (.int (0 : Int32)), .val (.int (15 : Int32))] [(.ref pg), (.int (15 : Int32))])) rfl rfl (hb hby d4_16) t (by rw [len_of z147 p147]; exact k)) ?_
  refine own_to (T146.setTop (mkF m 20 #[.val (.ref a), .val (.int (0 : Int32)), .val (.int (15 : Int32))] [])) (fun t k => XS.icmpNo X146.here hx rfl (hb hby d4_17) rfl (tlt (by decide)).2.1 k) ?_
  refine own_to (T146.setTop (mkF m 21 #[.val (.ref a), .val (.int (0 : Int32)), .val (.int (15 : Int32))] [(.ref a)])) (fun t k => XS.aloadN X146.here hx rfl (hb hby d4_20) rfl rfl k) ?_
  obtain ⟨T148, X148, e148, st148⟩ := getF X146 hx hZ hown (host := "") (Or.inl (hw _ (List.mem_of_getElem? (i := 11) rfl))) Via.refl e146 F142 (g := (mkF m 21 #[.val (.ref a), .val (.int (0 : Int32)), .val (.int (15 : Int32))] [(.ref a)])) rfl rfl (hb hby d4_21)
  refine own_to (T148.setTop (mkF m 24 #[.val (.ref a), .val (.int (0 : Int32)), .val (.int (15 : Int32))] [(.ref pg)])) (fun t k => st148 t k) ?_
  refine own_to (T148.setTop (mkF m 25 #[.val (.ref a), .val (.int (0 : Int32)), .val (.int (15 : Int32))] [(.int (15 : Int32)), (.ref pg)])) (fun t k => XS.iloadN X148.here hx rfl (hb hby d4_24) rfl k) ?_
  refine own_to (T148.setTop (mkF m 26 #[.val (.ref a), .val (.int (0 : Int32)), .val (.int (15 : Int32))] [.null, (.int (15 : Int32)), (.ref pg)])) (fun t k => XS.aconstNull X148.here hx rfl (hb hby d4_25) k) ?_
  obtain ⟨c149, r149, q149, z149, p149, j149, f149⟩ := id V144
  have u149 := inb_of z149 (j := (15 : Int32)) ⟨by decide, by decide⟩
  obtain ⟨T149, h149, X149, e149, W149, st149⟩ := stR X148 hx hZ e148 r149 u149 rfl (Or.inl rfl) (g := (mkF m 26 #[.val (.ref a), .val (.int (0 : Int32)), .val (.int (15 : Int32))] [.null, (.int (15 : Int32)), (.ref pg)])) rfl rfl (hb hby d4_26)
  have N149 := Fr.snoc X149 N140 gp
  have F150 := F141.wr W149
  have F151 := F142.other W149 (Or.inl nap)
  have F152 := F143.other W149 (Or.inl nap)
  have V153 : Arv Z h149 pg kp (.array .int) (16 : Int32) [.null, .null, .null, .null, .null, .null, .null, .null, .null, .null, .null, .null, .null, .null, .null, .null] .null := Arv.set r149 q149 z149 p149 j149 f149 rfl W149 15 rfl (Nat.le_of_ble_eq_true rfl)
  have Z154 : n0 ≤ h149.size := by rw [W149.size]; exact Z145
  refine own_to (T149.setTop (mkF m 27 #[.val (.ref a), .val (.int (0 : Int32)), .val (.int (15 : Int32))] [])) (fun t k => st149 t k) ?_
  refine own_to (T149.setTop (mkF m 30 #[.val (.ref a), .val (.int (0 : Int32)), .val (.int (16 : Int32))] [])) (fun t k => XT.iincV X149.here hx rfl (1 : Int32) (hb hby d4_27) (by decide) rfl (l' := #[.val (.ref a), .val (.int (0 : Int32)), .val (.int (16 : Int32))]) (by rw [show (15 : Int32) + (1 : Int32) = (16 : Int32) from by decide]; rfl) k) ?_
  refine own_to (T149.setTop (mkF m 11 #[.val (.ref a), .val (.int (0 : Int32)), .val (.int (16 : Int32))] [])) (fun t k => XS.goto X149.here hx rfl (pc0 := 30) (pc' := 11) rfl (hb hby d4_30) (by decide) (by decide) k) ?_
  refine own_to (T149.setTop (mkF m 12 #[.val (.ref a), .val (.int (0 : Int32)), .val (.int (16 : Int32))] [(.int (16 : Int32))])) (fun t k => XS.iloadN X149.here hx rfl (hb hby d4_11) rfl k) ?_
  refine own_to (T149.setTop (mkF m 13 #[.val (.ref a), .val (.int (0 : Int32)), .val (.int (16 : Int32))] [(.ref a), (.int (16 : Int32))])) (fun t k => XS.aloadN X149.here hx rfl (hb hby d4_12) rfl rfl k) ?_
  obtain ⟨T155, X155, e155, st155⟩ := getF X149 hx hZ hown (host := "") (Or.inl (hw _ (List.mem_of_getElem? (i := 11) rfl))) Via.refl e149 F151 (g := (mkF m 13 #[.val (.ref a), .val (.int (0 : Int32)), .val (.int (16 : Int32))] [(.ref a), (.int (16 : Int32))])) rfl rfl (hb hby d4_13)
  refine own_to (T155.setTop (mkF m 16 #[.val (.ref a), .val (.int (0 : Int32)), .val (.int (16 : Int32))] [(.ref pg), (.int (16 : Int32))])) (fun t k => st155 t k) ?_
  obtain ⟨c156, r156, q156, z156, p156, j156, f156⟩ := id V153
  refine own_to (T155.setTop (mkF m 17 #[.val (.ref a), .val (.int (0 : Int32)), .val (.int (16 : Int32))] [(.int (16 : Int32)), (.int (16 : Int32))])) (fun t k => X155.arraylength hx (by rw [e155]; exact r156.1) (State.isArrayOf_alike hZ.alike r156.2.1) (g := (mkF m 16 #[.val (.ref a), .val (.int (0 : Int32)), .val (.int (16 : Int32))] [(.ref pg), (.int (16 : Int32))])) rfl rfl (hb hby d4_16) t (by rw [len_of z156 p156]; exact k)) ?_
  refine own_to (T155.setTop (mkF m 33 #[.val (.ref a), .val (.int (0 : Int32)), .val (.int (16 : Int32))] [])) (fun t k => XS.icmpYes X155.here hx rfl (pc0 := 17) (pc' := 33) rfl (hb hby d4_17) rfl (flt (by decide)).2.1 (by decide) (by decide) k) ?_
  refine own_to (T155.setTop (mkF m 34 #[.val (.ref a), .val (.int (0 : Int32)), .val (.int (16 : Int32))] [(.ref a)])) (fun t k => XS.aloadN X155.here hx rfl (hb hby d4_33) rfl rfl k) ?_
  refine own_to (T155.setTop (mkF m 35 #[.val (.ref a), .val (.int (0 : Int32)), .val (.int (16 : Int32))] [(.int (0 : Int32)), (.ref a)])) (fun t k => XS.iloadN X155.here hx rfl (hb hby d4_34) rfl k) ?_
  obtain ⟨T157, h157, X157, e157, W157, st157⟩ := putF X155 hx hZ hown (host := "") (Or.inl (hw _ (List.mem_of_getElem? (i := 18) rfl))) Via.refl e155 F152 F150 (Or.inl (hw _ (List.mem_of_getElem? (i := 19) rfl))) (hw _ (List.mem_of_getElem? (i := 1) rfl)) (ty := .int) (by decide) rfl rfl (g := (mkF m 35 #[.val (.ref a), .val (.int (0 : Int32)), .val (.int (16 : Int32))] [(.int (0 : Int32)), (.ref a)])) rfl rfl (hb hby d4_35)
  have N157 := Fr.snoc X157 N149 ga
  have F158 := F150.wr W157
  have F159 := F151.other W157 (Or.inr (slot_ne (Or.inl (hw _ (List.mem_of_getElem? (i := 12) rfl))) (Or.inl (hw _ (List.mem_of_getElem? (i := 19) rfl))) (by decide) (by rfl) (by rfl)))
  have F160 := F152.same W157
  have F161 := V153.other W157 (Ne.symm nap)
  have Z162 : n0 ≤ h157.size := by rw [W157.size]; exact Z154
  refine own_to (T157.setTop (mkF m 38 #[.val (.ref a), .val (.int (0 : Int32)), .val (.int (16 : Int32))] [])) (fun t k => st157 t k) ?_
  exact own_retV X157 hx hret hk (hb hby d4_38) (by decide) (by decide) ⟨rfl, N157, ⟨(by rw [e157]; exact F158), (by rw [e157]; exact F159), (by rw [e157]; exact F160), (by rw [e157]; exact F161), Op⟩, by rw [e157]; exact Nat.le_trans ga (Nat.le_of_lt F158.lt)⟩
def QTK (Z : State) (a pg bk : Addr) (kp kb : ClassId) (u0 u1 u2 u3 u4 q : Int32) (h0 : Heap) (n0 : Nat) (v : Option Value) (h : Heap) (L : List Loc) : Prop := v = none ∧ Fr n0 L ∧ own_S1 Z h a pg bk kp kb q u0 u1 u2 u3 u4 ∧ n0 ≤ h.size
set_option maxRecDepth 65536 in
set_option maxHeartbeats 40000000 in
theorem rmTK (l : Launch) (Z : State) (a0 : Array Value) (hw : ∀ d ∈ tables_1, d.before a0 Z = true) (a pg bk : Addr) (kp kb : ClassId) (u0 u1 u2 u3 u4 q : Int32) (h0 : Heap) (n0 : Nat) (Z0 : n0 ≤ h0.size) (hq : XT.ushr (q + (16384 : Int32) - (1 : Int32)) (14 : Int32) = 1) (St : own_S1 Z h0 a pg bk kp kb 4 u0 u1 u2 u3 u4) (Na : own_N0 n0 a pg) (Nb : own_N1 n0 a pg bk) :
    own_Ct l Z (⟨"com/example/clearance/clearance/IntColumn", "truncate", "(I)V"⟩ : MethodName) prog_22_method_6_code 3 none ({ frames := 0, cells := 0, slots := 0, locals := 0 } : Room) #[(.ref a), (.int q)] h0 (QTK Z a pg bk kp kb u0 u1 u2 u3 u4 q h0 n0) := by
  refine own_body pn_4 ?_
  intro p e s m below meth cd s₁ hx hZ hby hml hown hnm hret hk X0 e0
  have N0 := Fr.nil n0
  refine own_to (s₁.setTop (mkF m 0 #[.val (.ref a), .val (.int q), .unset] [])) (fun t k => castTop (by first | (simp [entryFrame, mkF, argsToLocals, Value.category]; done) | rfl) k) ?_
  obtain ⟨E, Fp, Fs, Vp, Op, Vb⟩ := St
  obtain ⟨gb, nab, npb⟩ := Nb
  obtain ⟨ga, gp, nap⟩ := Na
  refine own_to (s₁.setTop (mkF m 1 #[.val (.ref a), .val (.int q), .unset] [(.int q)])) (fun t k => XS.iloadN X0.here hx rfl (hb hby d4_0) rfl k) ?_
  refine own_to (s₁.setTop (mkF m 4 #[.val (.ref a), .val (.int q), .unset] [(.int (16384 : Int32)), (.int q)])) (fun t k => XT.sipushV X0.here hx rfl (16384 : Int32) (hb hby d4_1) (by decide) k) ?_
  refine own_to (s₁.setTop (mkF m 5 #[.val (.ref a), .val (.int q), .unset] [(.int (q + (16384 : Int32)))])) (fun t k => XS.iadd X0.here hx rfl (hb hby d4_4) rfl k) ?_
  refine own_to (s₁.setTop (mkF m 6 #[.val (.ref a), .val (.int q), .unset] [(.int (1 : Int32)), (.int (q + (16384 : Int32)))])) (fun t k => XT.iconstV X0.here hx rfl (1 : Int32) (hb hby d4_5) (by decide) k) ?_
  refine own_to (s₁.setTop (mkF m 7 #[.val (.ref a), .val (.int q), .unset] [(.int ((q + (16384 : Int32)) - (1 : Int32)))])) (fun t k => XS.isub X0.here hx rfl (hb hby d4_6) rfl k) ?_
  refine own_to (s₁.setTop (mkF m 9 #[.val (.ref a), .val (.int q), .unset] [(.int (14 : Int32)), (.int ((q + (16384 : Int32)) - (1 : Int32)))])) (fun t k => XT.bipushV X0.here hx rfl (14 : Int32) (hb hby d4_7) (by decide) k) ?_
  refine own_to (s₁.setTop (mkF m 10 #[.val (.ref a), .val (.int q), .unset] [(.int (1 : Int32))])) (fun t k => XT.iushr X0.here hx rfl (hb hby d4_9) rfl (by rw [hq]; exact k)) ?_
  refine own_to (s₁.setTop (mkF m 11 #[.val (.ref a), .val (.int q), .val (.int (1 : Int32))] [])) (fun t k => XS.istoreN X0.here hx rfl (hb hby d4_10) rfl (l' := #[.val (.ref a), .val (.int q), .val (.int (1 : Int32))]) rfl k) ?_
  refine own_to (s₁.setTop (mkF m 12 #[.val (.ref a), .val (.int q), .val (.int (1 : Int32))] [(.int (1 : Int32))])) (fun t k => XS.iloadN X0.here hx rfl (hb hby d4_11) rfl k) ?_
  refine own_to (s₁.setTop (mkF m 13 #[.val (.ref a), .val (.int q), .val (.int (1 : Int32))] [(.ref a), (.int (1 : Int32))])) (fun t k => XS.aloadN X0.here hx rfl (hb hby d4_12) rfl rfl k) ?_
  obtain ⟨T11, X11, e11, st11⟩ := getF X0 hx hZ hown (host := "") (Or.inl (hw _ (List.mem_of_getElem? (i := 11) rfl))) Via.refl e0 Fp (g := (mkF m 13 #[.val (.ref a), .val (.int q), .val (.int (1 : Int32))] [(.ref a), (.int (1 : Int32))])) rfl rfl (hb hby d4_13)
  refine own_to (T11.setTop (mkF m 16 #[.val (.ref a), .val (.int q), .val (.int (1 : Int32))] [(.ref pg), (.int (1 : Int32))])) (fun t k => st11 t k) ?_
  obtain ⟨c12, r12, q12, z12, p12, j12, f12⟩ := id Vp
  refine own_to (T11.setTop (mkF m 17 #[.val (.ref a), .val (.int q), .val (.int (1 : Int32))] [(.int (16 : Int32)), (.int (1 : Int32))])) (fun t k => X11.arraylength hx (by rw [e11]; exact r12.1) (State.isArrayOf_alike hZ.alike r12.2.1) (g := (mkF m 16 #[.val (.ref a), .val (.int q), .val (.int (1 : Int32))] [(.ref pg), (.int (1 : Int32))])) rfl rfl (hb hby d4_16) t (by rw [len_of z12 p12]; exact k)) ?_
  refine own_to (T11.setTop (mkF m 20 #[.val (.ref a), .val (.int q), .val (.int (1 : Int32))] [])) (fun t k => XS.icmpNo X11.here hx rfl (hb hby d4_17) rfl (tlt (by decide)).2.1 k) ?_
  refine own_to (T11.setTop (mkF m 21 #[.val (.ref a), .val (.int q), .val (.int (1 : Int32))] [(.ref a)])) (fun t k => XS.aloadN X11.here hx rfl (hb hby d4_20) rfl rfl k) ?_
  obtain ⟨T13, X13, e13, st13⟩ := getF X11 hx hZ hown (host := "") (Or.inl (hw _ (List.mem_of_getElem? (i := 11) rfl))) Via.refl e11 Fp (g := (mkF m 21 #[.val (.ref a), .val (.int q), .val (.int (1 : Int32))] [(.ref a)])) rfl rfl (hb hby d4_21)
  refine own_to (T13.setTop (mkF m 24 #[.val (.ref a), .val (.int q), .val (.int (1 : Int32))] [(.ref pg)])) (fun t k => st13 t k) ?_
  refine own_to (T13.setTop (mkF m 25 #[.val (.ref a), .val (.int q), .val (.int (1 : Int32))] [(.int (1 : Int32)), (.ref pg)])) (fun t k => XS.iloadN X13.here hx rfl (hb hby d4_24) rfl k) ?_
  refine own_to (T13.setTop (mkF m 26 #[.val (.ref a), .val (.int q), .val (.int (1 : Int32))] [.null, (.int (1 : Int32)), (.ref pg)])) (fun t k => XS.aconstNull X13.here hx rfl (hb hby d4_25) k) ?_
  obtain ⟨c14, r14, q14, z14, p14, j14, f14⟩ := id Vp
  have u14 := inb_of z14 (j := (1 : Int32)) ⟨by decide, by decide⟩
  obtain ⟨T14, h14, X14, e14, W14, st14⟩ := stR X13 hx hZ e13 r14 u14 rfl (Or.inl rfl) (g := (mkF m 26 #[.val (.ref a), .val (.int q), .val (.int (1 : Int32))] [.null, (.int (1 : Int32)), (.ref pg)])) rfl rfl (hb hby d4_26)
  have N14 := Fr.snoc X14 N0 gp
  have F15 := E.wr W14
  have F16 := Fp.other W14 (Or.inl nap)
  have F17 := Fs.other W14 (Or.inl nap)
  have F18 := Vb.other W14 (Ne.symm npb)
  have V19 : Arv Z h14 pg kp (.array .int) (16 : Int32) [(.ref bk), .null, .null, .null, .null, .null, .null, .null, .null, .null, .null, .null, .null, .null, .null, .null] .null := Arv.set r14 q14 z14 p14 j14 f14 rfl W14 1 rfl (Nat.le_of_ble_eq_true rfl)
  have Z20 : n0 ≤ h14.size := by rw [W14.size]; exact Z0
  refine own_to (T14.setTop (mkF m 27 #[.val (.ref a), .val (.int q), .val (.int (1 : Int32))] [])) (fun t k => st14 t k) ?_
  refine own_to (T14.setTop (mkF m 30 #[.val (.ref a), .val (.int q), .val (.int (2 : Int32))] [])) (fun t k => XT.iincV X14.here hx rfl (1 : Int32) (hb hby d4_27) (by decide) rfl (l' := #[.val (.ref a), .val (.int q), .val (.int (2 : Int32))]) (by rw [show (1 : Int32) + (1 : Int32) = (2 : Int32) from by decide]; rfl) k) ?_
  refine own_to (T14.setTop (mkF m 11 #[.val (.ref a), .val (.int q), .val (.int (2 : Int32))] [])) (fun t k => XS.goto X14.here hx rfl (pc0 := 30) (pc' := 11) rfl (hb hby d4_30) (by decide) (by decide) k) ?_
  refine own_to (T14.setTop (mkF m 12 #[.val (.ref a), .val (.int q), .val (.int (2 : Int32))] [(.int (2 : Int32))])) (fun t k => XS.iloadN X14.here hx rfl (hb hby d4_11) rfl k) ?_
  refine own_to (T14.setTop (mkF m 13 #[.val (.ref a), .val (.int q), .val (.int (2 : Int32))] [(.ref a), (.int (2 : Int32))])) (fun t k => XS.aloadN X14.here hx rfl (hb hby d4_12) rfl rfl k) ?_
  obtain ⟨T21, X21, e21, st21⟩ := getF X14 hx hZ hown (host := "") (Or.inl (hw _ (List.mem_of_getElem? (i := 11) rfl))) Via.refl e14 F16 (g := (mkF m 13 #[.val (.ref a), .val (.int q), .val (.int (2 : Int32))] [(.ref a), (.int (2 : Int32))])) rfl rfl (hb hby d4_13)
  refine own_to (T21.setTop (mkF m 16 #[.val (.ref a), .val (.int q), .val (.int (2 : Int32))] [(.ref pg), (.int (2 : Int32))])) (fun t k => st21 t k) ?_
  obtain ⟨c22, r22, q22, z22, p22, j22, f22⟩ := id V19
  refine own_to (T21.setTop (mkF m 17 #[.val (.ref a), .val (.int q), .val (.int (2 : Int32))] [(.int (16 : Int32)), (.int (2 : Int32))])) (fun t k => X21.arraylength hx (by rw [e21]; exact r22.1) (State.isArrayOf_alike hZ.alike r22.2.1) (g := (mkF m 16 #[.val (.ref a), .val (.int q), .val (.int (2 : Int32))] [(.ref pg), (.int (2 : Int32))])) rfl rfl (hb hby d4_16) t (by rw [len_of z22 p22]; exact k)) ?_
  refine own_to (T21.setTop (mkF m 20 #[.val (.ref a), .val (.int q), .val (.int (2 : Int32))] [])) (fun t k => XS.icmpNo X21.here hx rfl (hb hby d4_17) rfl (tlt (by decide)).2.1 k) ?_
  refine own_to (T21.setTop (mkF m 21 #[.val (.ref a), .val (.int q), .val (.int (2 : Int32))] [(.ref a)])) (fun t k => XS.aloadN X21.here hx rfl (hb hby d4_20) rfl rfl k) ?_
  obtain ⟨T23, X23, e23, st23⟩ := getF X21 hx hZ hown (host := "") (Or.inl (hw _ (List.mem_of_getElem? (i := 11) rfl))) Via.refl e21 F16 (g := (mkF m 21 #[.val (.ref a), .val (.int q), .val (.int (2 : Int32))] [(.ref a)])) rfl rfl (hb hby d4_21)
  refine own_to (T23.setTop (mkF m 24 #[.val (.ref a), .val (.int q), .val (.int (2 : Int32))] [(.ref pg)])) (fun t k => st23 t k) ?_
  refine own_to (T23.setTop (mkF m 25 #[.val (.ref a), .val (.int q), .val (.int (2 : Int32))] [(.int (2 : Int32)), (.ref pg)])) (fun t k => XS.iloadN X23.here hx rfl (hb hby d4_24) rfl k) ?_
  refine own_to (T23.setTop (mkF m 26 #[.val (.ref a), .val (.int q), .val (.int (2 : Int32))] [.null, (.int (2 : Int32)), (.ref pg)])) (fun t k => XS.aconstNull X23.here hx rfl (hb hby d4_25) k) ?_
  obtain ⟨c24, r24, q24, z24, p24, j24, f24⟩ := id V19
  have u24 := inb_of z24 (j := (2 : Int32)) ⟨by decide, by decide⟩
  obtain ⟨T24, h24, X24, e24, W24, st24⟩ := stR X23 hx hZ e23 r24 u24 rfl (Or.inl rfl) (g := (mkF m 26 #[.val (.ref a), .val (.int q), .val (.int (2 : Int32))] [.null, (.int (2 : Int32)), (.ref pg)])) rfl rfl (hb hby d4_26)
  have N24 := Fr.snoc X24 N14 gp
  have F25 := F15.wr W24
  have F26 := F16.other W24 (Or.inl nap)
  have F27 := F17.other W24 (Or.inl nap)
  have F28 := F18.other W24 (Ne.symm npb)
  have V29 : Arv Z h24 pg kp (.array .int) (16 : Int32) [(.ref bk), .null, .null, .null, .null, .null, .null, .null, .null, .null, .null, .null, .null, .null, .null, .null] .null := Arv.set r24 q24 z24 p24 j24 f24 rfl W24 2 rfl (Nat.le_of_ble_eq_true rfl)
  have Z30 : n0 ≤ h24.size := by rw [W24.size]; exact Z20
  refine own_to (T24.setTop (mkF m 27 #[.val (.ref a), .val (.int q), .val (.int (2 : Int32))] [])) (fun t k => st24 t k) ?_
  refine own_to (T24.setTop (mkF m 30 #[.val (.ref a), .val (.int q), .val (.int (3 : Int32))] [])) (fun t k => XT.iincV X24.here hx rfl (1 : Int32) (hb hby d4_27) (by decide) rfl (l' := #[.val (.ref a), .val (.int q), .val (.int (3 : Int32))]) (by rw [show (2 : Int32) + (1 : Int32) = (3 : Int32) from by decide]; rfl) k) ?_
  refine own_to (T24.setTop (mkF m 11 #[.val (.ref a), .val (.int q), .val (.int (3 : Int32))] [])) (fun t k => XS.goto X24.here hx rfl (pc0 := 30) (pc' := 11) rfl (hb hby d4_30) (by decide) (by decide) k) ?_
  refine own_to (T24.setTop (mkF m 12 #[.val (.ref a), .val (.int q), .val (.int (3 : Int32))] [(.int (3 : Int32))])) (fun t k => XS.iloadN X24.here hx rfl (hb hby d4_11) rfl k) ?_
  refine own_to (T24.setTop (mkF m 13 #[.val (.ref a), .val (.int q), .val (.int (3 : Int32))] [(.ref a), (.int (3 : Int32))])) (fun t k => XS.aloadN X24.here hx rfl (hb hby d4_12) rfl rfl k) ?_
  obtain ⟨T31, X31, e31, st31⟩ := getF X24 hx hZ hown (host := "") (Or.inl (hw _ (List.mem_of_getElem? (i := 11) rfl))) Via.refl e24 F26 (g := (mkF m 13 #[.val (.ref a), .val (.int q), .val (.int (3 : Int32))] [(.ref a), (.int (3 : Int32))])) rfl rfl (hb hby d4_13)
  refine own_to (T31.setTop (mkF m 16 #[.val (.ref a), .val (.int q), .val (.int (3 : Int32))] [(.ref pg), (.int (3 : Int32))])) (fun t k => st31 t k) ?_
  obtain ⟨c32, r32, q32, z32, p32, j32, f32⟩ := id V29
  refine own_to (T31.setTop (mkF m 17 #[.val (.ref a), .val (.int q), .val (.int (3 : Int32))] [(.int (16 : Int32)), (.int (3 : Int32))])) (fun t k => X31.arraylength hx (by rw [e31]; exact r32.1) (State.isArrayOf_alike hZ.alike r32.2.1) (g := (mkF m 16 #[.val (.ref a), .val (.int q), .val (.int (3 : Int32))] [(.ref pg), (.int (3 : Int32))])) rfl rfl (hb hby d4_16) t (by rw [len_of z32 p32]; exact k)) ?_
  refine own_to (T31.setTop (mkF m 20 #[.val (.ref a), .val (.int q), .val (.int (3 : Int32))] [])) (fun t k => XS.icmpNo X31.here hx rfl (hb hby d4_17) rfl (tlt (by decide)).2.1 k) ?_
  refine own_to (T31.setTop (mkF m 21 #[.val (.ref a), .val (.int q), .val (.int (3 : Int32))] [(.ref a)])) (fun t k => XS.aloadN X31.here hx rfl (hb hby d4_20) rfl rfl k) ?_
  obtain ⟨T33, X33, e33, st33⟩ := getF X31 hx hZ hown (host := "") (Or.inl (hw _ (List.mem_of_getElem? (i := 11) rfl))) Via.refl e31 F26 (g := (mkF m 21 #[.val (.ref a), .val (.int q), .val (.int (3 : Int32))] [(.ref a)])) rfl rfl (hb hby d4_21)
  refine own_to (T33.setTop (mkF m 24 #[.val (.ref a), .val (.int q), .val (.int (3 : Int32))] [(.ref pg)])) (fun t k => st33 t k) ?_
  refine own_to (T33.setTop (mkF m 25 #[.val (.ref a), .val (.int q), .val (.int (3 : Int32))] [(.int (3 : Int32)), (.ref pg)])) (fun t k => XS.iloadN X33.here hx rfl (hb hby d4_24) rfl k) ?_
  refine own_to (T33.setTop (mkF m 26 #[.val (.ref a), .val (.int q), .val (.int (3 : Int32))] [.null, (.int (3 : Int32)), (.ref pg)])) (fun t k => XS.aconstNull X33.here hx rfl (hb hby d4_25) k) ?_
  obtain ⟨c34, r34, q34, z34, p34, j34, f34⟩ := id V29
  have u34 := inb_of z34 (j := (3 : Int32)) ⟨by decide, by decide⟩
  obtain ⟨T34, h34, X34, e34, W34, st34⟩ := stR X33 hx hZ e33 r34 u34 rfl (Or.inl rfl) (g := (mkF m 26 #[.val (.ref a), .val (.int q), .val (.int (3 : Int32))] [.null, (.int (3 : Int32)), (.ref pg)])) rfl rfl (hb hby d4_26)
  have N34 := Fr.snoc X34 N24 gp
  have F35 := F25.wr W34
  have F36 := F26.other W34 (Or.inl nap)
  have F37 := F27.other W34 (Or.inl nap)
  have F38 := F28.other W34 (Ne.symm npb)
  have V39 : Arv Z h34 pg kp (.array .int) (16 : Int32) [(.ref bk), .null, .null, .null, .null, .null, .null, .null, .null, .null, .null, .null, .null, .null, .null, .null] .null := Arv.set r34 q34 z34 p34 j34 f34 rfl W34 3 rfl (Nat.le_of_ble_eq_true rfl)
  have Z40 : n0 ≤ h34.size := by rw [W34.size]; exact Z30
  refine own_to (T34.setTop (mkF m 27 #[.val (.ref a), .val (.int q), .val (.int (3 : Int32))] [])) (fun t k => st34 t k) ?_
  refine own_to (T34.setTop (mkF m 30 #[.val (.ref a), .val (.int q), .val (.int (4 : Int32))] [])) (fun t k => XT.iincV X34.here hx rfl (1 : Int32) (hb hby d4_27) (by decide) rfl (l' := #[.val (.ref a), .val (.int q), .val (.int (4 : Int32))]) (by rw [show (3 : Int32) + (1 : Int32) = (4 : Int32) from by decide]; rfl) k) ?_
  refine own_to (T34.setTop (mkF m 11 #[.val (.ref a), .val (.int q), .val (.int (4 : Int32))] [])) (fun t k => XS.goto X34.here hx rfl (pc0 := 30) (pc' := 11) rfl (hb hby d4_30) (by decide) (by decide) k) ?_
  refine own_to (T34.setTop (mkF m 12 #[.val (.ref a), .val (.int q), .val (.int (4 : Int32))] [(.int (4 : Int32))])) (fun t k => XS.iloadN X34.here hx rfl (hb hby d4_11) rfl k) ?_
  refine own_to (T34.setTop (mkF m 13 #[.val (.ref a), .val (.int q), .val (.int (4 : Int32))] [(.ref a), (.int (4 : Int32))])) (fun t k => XS.aloadN X34.here hx rfl (hb hby d4_12) rfl rfl k) ?_
  obtain ⟨T41, X41, e41, st41⟩ := getF X34 hx hZ hown (host := "") (Or.inl (hw _ (List.mem_of_getElem? (i := 11) rfl))) Via.refl e34 F36 (g := (mkF m 13 #[.val (.ref a), .val (.int q), .val (.int (4 : Int32))] [(.ref a), (.int (4 : Int32))])) rfl rfl (hb hby d4_13)
  refine own_to (T41.setTop (mkF m 16 #[.val (.ref a), .val (.int q), .val (.int (4 : Int32))] [(.ref pg), (.int (4 : Int32))])) (fun t k => st41 t k) ?_
  obtain ⟨c42, r42, q42, z42, p42, j42, f42⟩ := id V39
  refine own_to (T41.setTop (mkF m 17 #[.val (.ref a), .val (.int q), .val (.int (4 : Int32))] [(.int (16 : Int32)), (.int (4 : Int32))])) (fun t k => X41.arraylength hx (by rw [e41]; exact r42.1) (State.isArrayOf_alike hZ.alike r42.2.1) (g := (mkF m 16 #[.val (.ref a), .val (.int q), .val (.int (4 : Int32))] [(.ref pg), (.int (4 : Int32))])) rfl rfl (hb hby d4_16) t (by rw [len_of z42 p42]; exact k)) ?_
  refine own_to (T41.setTop (mkF m 20 #[.val (.ref a), .val (.int q), .val (.int (4 : Int32))] [])) (fun t k => XS.icmpNo X41.here hx rfl (hb hby d4_17) rfl (tlt (by decide)).2.1 k) ?_
  refine own_to (T41.setTop (mkF m 21 #[.val (.ref a), .val (.int q), .val (.int (4 : Int32))] [(.ref a)])) (fun t k => XS.aloadN X41.here hx rfl (hb hby d4_20) rfl rfl k) ?_
  obtain ⟨T43, X43, e43, st43⟩ := getF X41 hx hZ hown (host := "") (Or.inl (hw _ (List.mem_of_getElem? (i := 11) rfl))) Via.refl e41 F36 (g := (mkF m 21 #[.val (.ref a), .val (.int q), .val (.int (4 : Int32))] [(.ref a)])) rfl rfl (hb hby d4_21)
  refine own_to (T43.setTop (mkF m 24 #[.val (.ref a), .val (.int q), .val (.int (4 : Int32))] [(.ref pg)])) (fun t k => st43 t k) ?_
  refine own_to (T43.setTop (mkF m 25 #[.val (.ref a), .val (.int q), .val (.int (4 : Int32))] [(.int (4 : Int32)), (.ref pg)])) (fun t k => XS.iloadN X43.here hx rfl (hb hby d4_24) rfl k) ?_
  refine own_to (T43.setTop (mkF m 26 #[.val (.ref a), .val (.int q), .val (.int (4 : Int32))] [.null, (.int (4 : Int32)), (.ref pg)])) (fun t k => XS.aconstNull X43.here hx rfl (hb hby d4_25) k) ?_
  obtain ⟨c44, r44, q44, z44, p44, j44, f44⟩ := id V39
  have u44 := inb_of z44 (j := (4 : Int32)) ⟨by decide, by decide⟩
  obtain ⟨T44, h44, X44, e44, W44, st44⟩ := stR X43 hx hZ e43 r44 u44 rfl (Or.inl rfl) (g := (mkF m 26 #[.val (.ref a), .val (.int q), .val (.int (4 : Int32))] [.null, (.int (4 : Int32)), (.ref pg)])) rfl rfl (hb hby d4_26)
  have N44 := Fr.snoc X44 N34 gp
  have F45 := F35.wr W44
  have F46 := F36.other W44 (Or.inl nap)
  have F47 := F37.other W44 (Or.inl nap)
  have F48 := F38.other W44 (Ne.symm npb)
  have V49 : Arv Z h44 pg kp (.array .int) (16 : Int32) [(.ref bk), .null, .null, .null, .null, .null, .null, .null, .null, .null, .null, .null, .null, .null, .null, .null] .null := Arv.set r44 q44 z44 p44 j44 f44 rfl W44 4 rfl (Nat.le_of_ble_eq_true rfl)
  have Z50 : n0 ≤ h44.size := by rw [W44.size]; exact Z40
  refine own_to (T44.setTop (mkF m 27 #[.val (.ref a), .val (.int q), .val (.int (4 : Int32))] [])) (fun t k => st44 t k) ?_
  refine own_to (T44.setTop (mkF m 30 #[.val (.ref a), .val (.int q), .val (.int (5 : Int32))] [])) (fun t k => XT.iincV X44.here hx rfl (1 : Int32) (hb hby d4_27) (by decide) rfl (l' := #[.val (.ref a), .val (.int q), .val (.int (5 : Int32))]) (by rw [show (4 : Int32) + (1 : Int32) = (5 : Int32) from by decide]; rfl) k) ?_
  refine own_to (T44.setTop (mkF m 11 #[.val (.ref a), .val (.int q), .val (.int (5 : Int32))] [])) (fun t k => XS.goto X44.here hx rfl (pc0 := 30) (pc' := 11) rfl (hb hby d4_30) (by decide) (by decide) k) ?_
  refine own_to (T44.setTop (mkF m 12 #[.val (.ref a), .val (.int q), .val (.int (5 : Int32))] [(.int (5 : Int32))])) (fun t k => XS.iloadN X44.here hx rfl (hb hby d4_11) rfl k) ?_
  refine own_to (T44.setTop (mkF m 13 #[.val (.ref a), .val (.int q), .val (.int (5 : Int32))] [(.ref a), (.int (5 : Int32))])) (fun t k => XS.aloadN X44.here hx rfl (hb hby d4_12) rfl rfl k) ?_
  obtain ⟨T51, X51, e51, st51⟩ := getF X44 hx hZ hown (host := "") (Or.inl (hw _ (List.mem_of_getElem? (i := 11) rfl))) Via.refl e44 F46 (g := (mkF m 13 #[.val (.ref a), .val (.int q), .val (.int (5 : Int32))] [(.ref a), (.int (5 : Int32))])) rfl rfl (hb hby d4_13)
  refine own_to (T51.setTop (mkF m 16 #[.val (.ref a), .val (.int q), .val (.int (5 : Int32))] [(.ref pg), (.int (5 : Int32))])) (fun t k => st51 t k) ?_
  obtain ⟨c52, r52, q52, z52, p52, j52, f52⟩ := id V49
  refine own_to (T51.setTop (mkF m 17 #[.val (.ref a), .val (.int q), .val (.int (5 : Int32))] [(.int (16 : Int32)), (.int (5 : Int32))])) (fun t k => X51.arraylength hx (by rw [e51]; exact r52.1) (State.isArrayOf_alike hZ.alike r52.2.1) (g := (mkF m 16 #[.val (.ref a), .val (.int q), .val (.int (5 : Int32))] [(.ref pg), (.int (5 : Int32))])) rfl rfl (hb hby d4_16) t (by rw [len_of z52 p52]; exact k)) ?_
  refine own_to (T51.setTop (mkF m 20 #[.val (.ref a), .val (.int q), .val (.int (5 : Int32))] [])) (fun t k => XS.icmpNo X51.here hx rfl (hb hby d4_17) rfl (tlt (by decide)).2.1 k) ?_
  refine own_to (T51.setTop (mkF m 21 #[.val (.ref a), .val (.int q), .val (.int (5 : Int32))] [(.ref a)])) (fun t k => XS.aloadN X51.here hx rfl (hb hby d4_20) rfl rfl k) ?_
  obtain ⟨T53, X53, e53, st53⟩ := getF X51 hx hZ hown (host := "") (Or.inl (hw _ (List.mem_of_getElem? (i := 11) rfl))) Via.refl e51 F46 (g := (mkF m 21 #[.val (.ref a), .val (.int q), .val (.int (5 : Int32))] [(.ref a)])) rfl rfl (hb hby d4_21)
  refine own_to (T53.setTop (mkF m 24 #[.val (.ref a), .val (.int q), .val (.int (5 : Int32))] [(.ref pg)])) (fun t k => st53 t k) ?_
  refine own_to (T53.setTop (mkF m 25 #[.val (.ref a), .val (.int q), .val (.int (5 : Int32))] [(.int (5 : Int32)), (.ref pg)])) (fun t k => XS.iloadN X53.here hx rfl (hb hby d4_24) rfl k) ?_
  refine own_to (T53.setTop (mkF m 26 #[.val (.ref a), .val (.int q), .val (.int (5 : Int32))] [.null, (.int (5 : Int32)), (.ref pg)])) (fun t k => XS.aconstNull X53.here hx rfl (hb hby d4_25) k) ?_
  obtain ⟨c54, r54, q54, z54, p54, j54, f54⟩ := id V49
  have u54 := inb_of z54 (j := (5 : Int32)) ⟨by decide, by decide⟩
  obtain ⟨T54, h54, X54, e54, W54, st54⟩ := stR X53 hx hZ e53 r54 u54 rfl (Or.inl rfl) (g := (mkF m 26 #[.val (.ref a), .val (.int q), .val (.int (5 : Int32))] [.null, (.int (5 : Int32)), (.ref pg)])) rfl rfl (hb hby d4_26)
  have N54 := Fr.snoc X54 N44 gp
  have F55 := F45.wr W54
  have F56 := F46.other W54 (Or.inl nap)
  have F57 := F47.other W54 (Or.inl nap)
  have F58 := F48.other W54 (Ne.symm npb)
  have V59 : Arv Z h54 pg kp (.array .int) (16 : Int32) [(.ref bk), .null, .null, .null, .null, .null, .null, .null, .null, .null, .null, .null, .null, .null, .null, .null] .null := Arv.set r54 q54 z54 p54 j54 f54 rfl W54 5 rfl (Nat.le_of_ble_eq_true rfl)
  have Z60 : n0 ≤ h54.size := by rw [W54.size]; exact Z50
  refine own_to (T54.setTop (mkF m 27 #[.val (.ref a), .val (.int q), .val (.int (5 : Int32))] [])) (fun t k => st54 t k) ?_
  refine own_to (T54.setTop (mkF m 30 #[.val (.ref a), .val (.int q), .val (.int (6 : Int32))] [])) (fun t k => XT.iincV X54.here hx rfl (1 : Int32) (hb hby d4_27) (by decide) rfl (l' := #[.val (.ref a), .val (.int q), .val (.int (6 : Int32))]) (by rw [show (5 : Int32) + (1 : Int32) = (6 : Int32) from by decide]; rfl) k) ?_
  refine own_to (T54.setTop (mkF m 11 #[.val (.ref a), .val (.int q), .val (.int (6 : Int32))] [])) (fun t k => XS.goto X54.here hx rfl (pc0 := 30) (pc' := 11) rfl (hb hby d4_30) (by decide) (by decide) k) ?_
  refine own_to (T54.setTop (mkF m 12 #[.val (.ref a), .val (.int q), .val (.int (6 : Int32))] [(.int (6 : Int32))])) (fun t k => XS.iloadN X54.here hx rfl (hb hby d4_11) rfl k) ?_
  refine own_to (T54.setTop (mkF m 13 #[.val (.ref a), .val (.int q), .val (.int (6 : Int32))] [(.ref a), (.int (6 : Int32))])) (fun t k => XS.aloadN X54.here hx rfl (hb hby d4_12) rfl rfl k) ?_
  obtain ⟨T61, X61, e61, st61⟩ := getF X54 hx hZ hown (host := "") (Or.inl (hw _ (List.mem_of_getElem? (i := 11) rfl))) Via.refl e54 F56 (g := (mkF m 13 #[.val (.ref a), .val (.int q), .val (.int (6 : Int32))] [(.ref a), (.int (6 : Int32))])) rfl rfl (hb hby d4_13)
  refine own_to (T61.setTop (mkF m 16 #[.val (.ref a), .val (.int q), .val (.int (6 : Int32))] [(.ref pg), (.int (6 : Int32))])) (fun t k => st61 t k) ?_
  obtain ⟨c62, r62, q62, z62, p62, j62, f62⟩ := id V59
  refine own_to (T61.setTop (mkF m 17 #[.val (.ref a), .val (.int q), .val (.int (6 : Int32))] [(.int (16 : Int32)), (.int (6 : Int32))])) (fun t k => X61.arraylength hx (by rw [e61]; exact r62.1) (State.isArrayOf_alike hZ.alike r62.2.1) (g := (mkF m 16 #[.val (.ref a), .val (.int q), .val (.int (6 : Int32))] [(.ref pg), (.int (6 : Int32))])) rfl rfl (hb hby d4_16) t (by rw [len_of z62 p62]; exact k)) ?_
  refine own_to (T61.setTop (mkF m 20 #[.val (.ref a), .val (.int q), .val (.int (6 : Int32))] [])) (fun t k => XS.icmpNo X61.here hx rfl (hb hby d4_17) rfl (tlt (by decide)).2.1 k) ?_
  refine own_to (T61.setTop (mkF m 21 #[.val (.ref a), .val (.int q), .val (.int (6 : Int32))] [(.ref a)])) (fun t k => XS.aloadN X61.here hx rfl (hb hby d4_20) rfl rfl k) ?_
  obtain ⟨T63, X63, e63, st63⟩ := getF X61 hx hZ hown (host := "") (Or.inl (hw _ (List.mem_of_getElem? (i := 11) rfl))) Via.refl e61 F56 (g := (mkF m 21 #[.val (.ref a), .val (.int q), .val (.int (6 : Int32))] [(.ref a)])) rfl rfl (hb hby d4_21)
  refine own_to (T63.setTop (mkF m 24 #[.val (.ref a), .val (.int q), .val (.int (6 : Int32))] [(.ref pg)])) (fun t k => st63 t k) ?_
  refine own_to (T63.setTop (mkF m 25 #[.val (.ref a), .val (.int q), .val (.int (6 : Int32))] [(.int (6 : Int32)), (.ref pg)])) (fun t k => XS.iloadN X63.here hx rfl (hb hby d4_24) rfl k) ?_
  refine own_to (T63.setTop (mkF m 26 #[.val (.ref a), .val (.int q), .val (.int (6 : Int32))] [.null, (.int (6 : Int32)), (.ref pg)])) (fun t k => XS.aconstNull X63.here hx rfl (hb hby d4_25) k) ?_
  obtain ⟨c64, r64, q64, z64, p64, j64, f64⟩ := id V59
  have u64 := inb_of z64 (j := (6 : Int32)) ⟨by decide, by decide⟩
  obtain ⟨T64, h64, X64, e64, W64, st64⟩ := stR X63 hx hZ e63 r64 u64 rfl (Or.inl rfl) (g := (mkF m 26 #[.val (.ref a), .val (.int q), .val (.int (6 : Int32))] [.null, (.int (6 : Int32)), (.ref pg)])) rfl rfl (hb hby d4_26)
  have N64 := Fr.snoc X64 N54 gp
  have F65 := F55.wr W64
  have F66 := F56.other W64 (Or.inl nap)
  have F67 := F57.other W64 (Or.inl nap)
  have F68 := F58.other W64 (Ne.symm npb)
  have V69 : Arv Z h64 pg kp (.array .int) (16 : Int32) [(.ref bk), .null, .null, .null, .null, .null, .null, .null, .null, .null, .null, .null, .null, .null, .null, .null] .null := Arv.set r64 q64 z64 p64 j64 f64 rfl W64 6 rfl (Nat.le_of_ble_eq_true rfl)
  have Z70 : n0 ≤ h64.size := by rw [W64.size]; exact Z60
  refine own_to (T64.setTop (mkF m 27 #[.val (.ref a), .val (.int q), .val (.int (6 : Int32))] [])) (fun t k => st64 t k) ?_
  refine own_to (T64.setTop (mkF m 30 #[.val (.ref a), .val (.int q), .val (.int (7 : Int32))] [])) (fun t k => XT.iincV X64.here hx rfl (1 : Int32) (hb hby d4_27) (by decide) rfl (l' := #[.val (.ref a), .val (.int q), .val (.int (7 : Int32))]) (by rw [show (6 : Int32) + (1 : Int32) = (7 : Int32) from by decide]; rfl) k) ?_
  refine own_to (T64.setTop (mkF m 11 #[.val (.ref a), .val (.int q), .val (.int (7 : Int32))] [])) (fun t k => XS.goto X64.here hx rfl (pc0 := 30) (pc' := 11) rfl (hb hby d4_30) (by decide) (by decide) k) ?_
  refine own_to (T64.setTop (mkF m 12 #[.val (.ref a), .val (.int q), .val (.int (7 : Int32))] [(.int (7 : Int32))])) (fun t k => XS.iloadN X64.here hx rfl (hb hby d4_11) rfl k) ?_
  refine own_to (T64.setTop (mkF m 13 #[.val (.ref a), .val (.int q), .val (.int (7 : Int32))] [(.ref a), (.int (7 : Int32))])) (fun t k => XS.aloadN X64.here hx rfl (hb hby d4_12) rfl rfl k) ?_
  obtain ⟨T71, X71, e71, st71⟩ := getF X64 hx hZ hown (host := "") (Or.inl (hw _ (List.mem_of_getElem? (i := 11) rfl))) Via.refl e64 F66 (g := (mkF m 13 #[.val (.ref a), .val (.int q), .val (.int (7 : Int32))] [(.ref a), (.int (7 : Int32))])) rfl rfl (hb hby d4_13)
  refine own_to (T71.setTop (mkF m 16 #[.val (.ref a), .val (.int q), .val (.int (7 : Int32))] [(.ref pg), (.int (7 : Int32))])) (fun t k => st71 t k) ?_
  obtain ⟨c72, r72, q72, z72, p72, j72, f72⟩ := id V69
  refine own_to (T71.setTop (mkF m 17 #[.val (.ref a), .val (.int q), .val (.int (7 : Int32))] [(.int (16 : Int32)), (.int (7 : Int32))])) (fun t k => X71.arraylength hx (by rw [e71]; exact r72.1) (State.isArrayOf_alike hZ.alike r72.2.1) (g := (mkF m 16 #[.val (.ref a), .val (.int q), .val (.int (7 : Int32))] [(.ref pg), (.int (7 : Int32))])) rfl rfl (hb hby d4_16) t (by rw [len_of z72 p72]; exact k)) ?_
  refine own_to (T71.setTop (mkF m 20 #[.val (.ref a), .val (.int q), .val (.int (7 : Int32))] [])) (fun t k => XS.icmpNo X71.here hx rfl (hb hby d4_17) rfl (tlt (by decide)).2.1 k) ?_
  refine own_to (T71.setTop (mkF m 21 #[.val (.ref a), .val (.int q), .val (.int (7 : Int32))] [(.ref a)])) (fun t k => XS.aloadN X71.here hx rfl (hb hby d4_20) rfl rfl k) ?_
  obtain ⟨T73, X73, e73, st73⟩ := getF X71 hx hZ hown (host := "") (Or.inl (hw _ (List.mem_of_getElem? (i := 11) rfl))) Via.refl e71 F66 (g := (mkF m 21 #[.val (.ref a), .val (.int q), .val (.int (7 : Int32))] [(.ref a)])) rfl rfl (hb hby d4_21)
  refine own_to (T73.setTop (mkF m 24 #[.val (.ref a), .val (.int q), .val (.int (7 : Int32))] [(.ref pg)])) (fun t k => st73 t k) ?_
  refine own_to (T73.setTop (mkF m 25 #[.val (.ref a), .val (.int q), .val (.int (7 : Int32))] [(.int (7 : Int32)), (.ref pg)])) (fun t k => XS.iloadN X73.here hx rfl (hb hby d4_24) rfl k) ?_
  refine own_to (T73.setTop (mkF m 26 #[.val (.ref a), .val (.int q), .val (.int (7 : Int32))] [.null, (.int (7 : Int32)), (.ref pg)])) (fun t k => XS.aconstNull X73.here hx rfl (hb hby d4_25) k) ?_
  obtain ⟨c74, r74, q74, z74, p74, j74, f74⟩ := id V69
  have u74 := inb_of z74 (j := (7 : Int32)) ⟨by decide, by decide⟩
  obtain ⟨T74, h74, X74, e74, W74, st74⟩ := stR X73 hx hZ e73 r74 u74 rfl (Or.inl rfl) (g := (mkF m 26 #[.val (.ref a), .val (.int q), .val (.int (7 : Int32))] [.null, (.int (7 : Int32)), (.ref pg)])) rfl rfl (hb hby d4_26)
  have N74 := Fr.snoc X74 N64 gp
  have F75 := F65.wr W74
  have F76 := F66.other W74 (Or.inl nap)
  have F77 := F67.other W74 (Or.inl nap)
  have F78 := F68.other W74 (Ne.symm npb)
  have V79 : Arv Z h74 pg kp (.array .int) (16 : Int32) [(.ref bk), .null, .null, .null, .null, .null, .null, .null, .null, .null, .null, .null, .null, .null, .null, .null] .null := Arv.set r74 q74 z74 p74 j74 f74 rfl W74 7 rfl (Nat.le_of_ble_eq_true rfl)
  have Z80 : n0 ≤ h74.size := by rw [W74.size]; exact Z70
  refine own_to (T74.setTop (mkF m 27 #[.val (.ref a), .val (.int q), .val (.int (7 : Int32))] [])) (fun t k => st74 t k) ?_
  refine own_to (T74.setTop (mkF m 30 #[.val (.ref a), .val (.int q), .val (.int (8 : Int32))] [])) (fun t k => XT.iincV X74.here hx rfl (1 : Int32) (hb hby d4_27) (by decide) rfl (l' := #[.val (.ref a), .val (.int q), .val (.int (8 : Int32))]) (by rw [show (7 : Int32) + (1 : Int32) = (8 : Int32) from by decide]; rfl) k) ?_
  refine own_to (T74.setTop (mkF m 11 #[.val (.ref a), .val (.int q), .val (.int (8 : Int32))] [])) (fun t k => XS.goto X74.here hx rfl (pc0 := 30) (pc' := 11) rfl (hb hby d4_30) (by decide) (by decide) k) ?_
  refine own_to (T74.setTop (mkF m 12 #[.val (.ref a), .val (.int q), .val (.int (8 : Int32))] [(.int (8 : Int32))])) (fun t k => XS.iloadN X74.here hx rfl (hb hby d4_11) rfl k) ?_
  refine own_to (T74.setTop (mkF m 13 #[.val (.ref a), .val (.int q), .val (.int (8 : Int32))] [(.ref a), (.int (8 : Int32))])) (fun t k => XS.aloadN X74.here hx rfl (hb hby d4_12) rfl rfl k) ?_
  obtain ⟨T81, X81, e81, st81⟩ := getF X74 hx hZ hown (host := "") (Or.inl (hw _ (List.mem_of_getElem? (i := 11) rfl))) Via.refl e74 F76 (g := (mkF m 13 #[.val (.ref a), .val (.int q), .val (.int (8 : Int32))] [(.ref a), (.int (8 : Int32))])) rfl rfl (hb hby d4_13)
  refine own_to (T81.setTop (mkF m 16 #[.val (.ref a), .val (.int q), .val (.int (8 : Int32))] [(.ref pg), (.int (8 : Int32))])) (fun t k => st81 t k) ?_
  obtain ⟨c82, r82, q82, z82, p82, j82, f82⟩ := id V79
  refine own_to (T81.setTop (mkF m 17 #[.val (.ref a), .val (.int q), .val (.int (8 : Int32))] [(.int (16 : Int32)), (.int (8 : Int32))])) (fun t k => X81.arraylength hx (by rw [e81]; exact r82.1) (State.isArrayOf_alike hZ.alike r82.2.1) (g := (mkF m 16 #[.val (.ref a), .val (.int q), .val (.int (8 : Int32))] [(.ref pg), (.int (8 : Int32))])) rfl rfl (hb hby d4_16) t (by rw [len_of z82 p82]; exact k)) ?_
  refine own_to (T81.setTop (mkF m 20 #[.val (.ref a), .val (.int q), .val (.int (8 : Int32))] [])) (fun t k => XS.icmpNo X81.here hx rfl (hb hby d4_17) rfl (tlt (by decide)).2.1 k) ?_
  refine own_to (T81.setTop (mkF m 21 #[.val (.ref a), .val (.int q), .val (.int (8 : Int32))] [(.ref a)])) (fun t k => XS.aloadN X81.here hx rfl (hb hby d4_20) rfl rfl k) ?_
  obtain ⟨T83, X83, e83, st83⟩ := getF X81 hx hZ hown (host := "") (Or.inl (hw _ (List.mem_of_getElem? (i := 11) rfl))) Via.refl e81 F76 (g := (mkF m 21 #[.val (.ref a), .val (.int q), .val (.int (8 : Int32))] [(.ref a)])) rfl rfl (hb hby d4_21)
  refine own_to (T83.setTop (mkF m 24 #[.val (.ref a), .val (.int q), .val (.int (8 : Int32))] [(.ref pg)])) (fun t k => st83 t k) ?_
  refine own_to (T83.setTop (mkF m 25 #[.val (.ref a), .val (.int q), .val (.int (8 : Int32))] [(.int (8 : Int32)), (.ref pg)])) (fun t k => XS.iloadN X83.here hx rfl (hb hby d4_24) rfl k) ?_
  refine own_to (T83.setTop (mkF m 26 #[.val (.ref a), .val (.int q), .val (.int (8 : Int32))] [.null, (.int (8 : Int32)), (.ref pg)])) (fun t k => XS.aconstNull X83.here hx rfl (hb hby d4_25) k) ?_
  obtain ⟨c84, r84, q84, z84, p84, j84, f84⟩ := id V79
  have u84 := inb_of z84 (j := (8 : Int32)) ⟨by decide, by decide⟩
  obtain ⟨T84, h84, X84, e84, W84, st84⟩ := stR X83 hx hZ e83 r84 u84 rfl (Or.inl rfl) (g := (mkF m 26 #[.val (.ref a), .val (.int q), .val (.int (8 : Int32))] [.null, (.int (8 : Int32)), (.ref pg)])) rfl rfl (hb hby d4_26)
  have N84 := Fr.snoc X84 N74 gp
  have F85 := F75.wr W84
  have F86 := F76.other W84 (Or.inl nap)
  have F87 := F77.other W84 (Or.inl nap)
  have F88 := F78.other W84 (Ne.symm npb)
  have V89 : Arv Z h84 pg kp (.array .int) (16 : Int32) [(.ref bk), .null, .null, .null, .null, .null, .null, .null, .null, .null, .null, .null, .null, .null, .null, .null] .null := Arv.set r84 q84 z84 p84 j84 f84 rfl W84 8 rfl (Nat.le_of_ble_eq_true rfl)
  have Z90 : n0 ≤ h84.size := by rw [W84.size]; exact Z80
  refine own_to (T84.setTop (mkF m 27 #[.val (.ref a), .val (.int q), .val (.int (8 : Int32))] [])) (fun t k => st84 t k) ?_
  refine own_to (T84.setTop (mkF m 30 #[.val (.ref a), .val (.int q), .val (.int (9 : Int32))] [])) (fun t k => XT.iincV X84.here hx rfl (1 : Int32) (hb hby d4_27) (by decide) rfl (l' := #[.val (.ref a), .val (.int q), .val (.int (9 : Int32))]) (by rw [show (8 : Int32) + (1 : Int32) = (9 : Int32) from by decide]; rfl) k) ?_
  refine own_to (T84.setTop (mkF m 11 #[.val (.ref a), .val (.int q), .val (.int (9 : Int32))] [])) (fun t k => XS.goto X84.here hx rfl (pc0 := 30) (pc' := 11) rfl (hb hby d4_30) (by decide) (by decide) k) ?_
  refine own_to (T84.setTop (mkF m 12 #[.val (.ref a), .val (.int q), .val (.int (9 : Int32))] [(.int (9 : Int32))])) (fun t k => XS.iloadN X84.here hx rfl (hb hby d4_11) rfl k) ?_
  refine own_to (T84.setTop (mkF m 13 #[.val (.ref a), .val (.int q), .val (.int (9 : Int32))] [(.ref a), (.int (9 : Int32))])) (fun t k => XS.aloadN X84.here hx rfl (hb hby d4_12) rfl rfl k) ?_
  obtain ⟨T91, X91, e91, st91⟩ := getF X84 hx hZ hown (host := "") (Or.inl (hw _ (List.mem_of_getElem? (i := 11) rfl))) Via.refl e84 F86 (g := (mkF m 13 #[.val (.ref a), .val (.int q), .val (.int (9 : Int32))] [(.ref a), (.int (9 : Int32))])) rfl rfl (hb hby d4_13)
  refine own_to (T91.setTop (mkF m 16 #[.val (.ref a), .val (.int q), .val (.int (9 : Int32))] [(.ref pg), (.int (9 : Int32))])) (fun t k => st91 t k) ?_
  obtain ⟨c92, r92, q92, z92, p92, j92, f92⟩ := id V89
  refine own_to (T91.setTop (mkF m 17 #[.val (.ref a), .val (.int q), .val (.int (9 : Int32))] [(.int (16 : Int32)), (.int (9 : Int32))])) (fun t k => X91.arraylength hx (by rw [e91]; exact r92.1) (State.isArrayOf_alike hZ.alike r92.2.1) (g := (mkF m 16 #[.val (.ref a), .val (.int q), .val (.int (9 : Int32))] [(.ref pg), (.int (9 : Int32))])) rfl rfl (hb hby d4_16) t (by rw [len_of z92 p92]; exact k)) ?_
  refine own_to (T91.setTop (mkF m 20 #[.val (.ref a), .val (.int q), .val (.int (9 : Int32))] [])) (fun t k => XS.icmpNo X91.here hx rfl (hb hby d4_17) rfl (tlt (by decide)).2.1 k) ?_
  refine own_to (T91.setTop (mkF m 21 #[.val (.ref a), .val (.int q), .val (.int (9 : Int32))] [(.ref a)])) (fun t k => XS.aloadN X91.here hx rfl (hb hby d4_20) rfl rfl k) ?_
  obtain ⟨T93, X93, e93, st93⟩ := getF X91 hx hZ hown (host := "") (Or.inl (hw _ (List.mem_of_getElem? (i := 11) rfl))) Via.refl e91 F86 (g := (mkF m 21 #[.val (.ref a), .val (.int q), .val (.int (9 : Int32))] [(.ref a)])) rfl rfl (hb hby d4_21)
  refine own_to (T93.setTop (mkF m 24 #[.val (.ref a), .val (.int q), .val (.int (9 : Int32))] [(.ref pg)])) (fun t k => st93 t k) ?_
  refine own_to (T93.setTop (mkF m 25 #[.val (.ref a), .val (.int q), .val (.int (9 : Int32))] [(.int (9 : Int32)), (.ref pg)])) (fun t k => XS.iloadN X93.here hx rfl (hb hby d4_24) rfl k) ?_
  refine own_to (T93.setTop (mkF m 26 #[.val (.ref a), .val (.int q), .val (.int (9 : Int32))] [.null, (.int (9 : Int32)), (.ref pg)])) (fun t k => XS.aconstNull X93.here hx rfl (hb hby d4_25) k) ?_
  obtain ⟨c94, r94, q94, z94, p94, j94, f94⟩ := id V89
  have u94 := inb_of z94 (j := (9 : Int32)) ⟨by decide, by decide⟩
  obtain ⟨T94, h94, X94, e94, W94, st94⟩ := stR X93 hx hZ e93 r94 u94 rfl (Or.inl rfl) (g := (mkF m 26 #[.val (.ref a), .val (.int q), .val (.int (9 : Int32))] [.null, (.int (9 : Int32)), (.ref pg)])) rfl rfl (hb hby d4_26)
  have N94 := Fr.snoc X94 N84 gp
  have F95 := F85.wr W94
  have F96 := F86.other W94 (Or.inl nap)
  have F97 := F87.other W94 (Or.inl nap)
  have F98 := F88.other W94 (Ne.symm npb)
  have V99 : Arv Z h94 pg kp (.array .int) (16 : Int32) [(.ref bk), .null, .null, .null, .null, .null, .null, .null, .null, .null, .null, .null, .null, .null, .null, .null] .null := Arv.set r94 q94 z94 p94 j94 f94 rfl W94 9 rfl (Nat.le_of_ble_eq_true rfl)
  have Z100 : n0 ≤ h94.size := by rw [W94.size]; exact Z90
  refine own_to (T94.setTop (mkF m 27 #[.val (.ref a), .val (.int q), .val (.int (9 : Int32))] [])) (fun t k => st94 t k) ?_
  refine own_to (T94.setTop (mkF m 30 #[.val (.ref a), .val (.int q), .val (.int (10 : Int32))] [])) (fun t k => XT.iincV X94.here hx rfl (1 : Int32) (hb hby d4_27) (by decide) rfl (l' := #[.val (.ref a), .val (.int q), .val (.int (10 : Int32))]) (by rw [show (9 : Int32) + (1 : Int32) = (10 : Int32) from by decide]; rfl) k) ?_
  refine own_to (T94.setTop (mkF m 11 #[.val (.ref a), .val (.int q), .val (.int (10 : Int32))] [])) (fun t k => XS.goto X94.here hx rfl (pc0 := 30) (pc' := 11) rfl (hb hby d4_30) (by decide) (by decide) k) ?_
  refine own_to (T94.setTop (mkF m 12 #[.val (.ref a), .val (.int q), .val (.int (10 : Int32))] [(.int (10 : Int32))])) (fun t k => XS.iloadN X94.here hx rfl (hb hby d4_11) rfl k) ?_
  refine own_to (T94.setTop (mkF m 13 #[.val (.ref a), .val (.int q), .val (.int (10 : Int32))] [(.ref a), (.int (10 : Int32))])) (fun t k => XS.aloadN X94.here hx rfl (hb hby d4_12) rfl rfl k) ?_
  obtain ⟨T101, X101, e101, st101⟩ := getF X94 hx hZ hown (host := "") (Or.inl (hw _ (List.mem_of_getElem? (i := 11) rfl))) Via.refl e94 F96 (g := (mkF m 13 #[.val (.ref a), .val (.int q), .val (.int (10 : Int32))] [(.ref a), (.int (10 : Int32))])) rfl rfl (hb hby d4_13)
  refine own_to (T101.setTop (mkF m 16 #[.val (.ref a), .val (.int q), .val (.int (10 : Int32))] [(.ref pg), (.int (10 : Int32))])) (fun t k => st101 t k) ?_
  obtain ⟨c102, r102, q102, z102, p102, j102, f102⟩ := id V99
  refine own_to (T101.setTop (mkF m 17 #[.val (.ref a), .val (.int q), .val (.int (10 : Int32))] [(.int (16 : Int32)), (.int (10 : Int32))])) (fun t k => X101.arraylength hx (by rw [e101]; exact r102.1) (State.isArrayOf_alike hZ.alike r102.2.1) (g := (mkF m 16 #[.val (.ref a), .val (.int q), .val (.int (10 : Int32))] [(.ref pg), (.int (10 : Int32))])) rfl rfl (hb hby d4_16) t (by rw [len_of z102 p102]; exact k)) ?_
  refine own_to (T101.setTop (mkF m 20 #[.val (.ref a), .val (.int q), .val (.int (10 : Int32))] [])) (fun t k => XS.icmpNo X101.here hx rfl (hb hby d4_17) rfl (tlt (by decide)).2.1 k) ?_
  refine own_to (T101.setTop (mkF m 21 #[.val (.ref a), .val (.int q), .val (.int (10 : Int32))] [(.ref a)])) (fun t k => XS.aloadN X101.here hx rfl (hb hby d4_20) rfl rfl k) ?_
  obtain ⟨T103, X103, e103, st103⟩ := getF X101 hx hZ hown (host := "") (Or.inl (hw _ (List.mem_of_getElem? (i := 11) rfl))) Via.refl e101 F96 (g := (mkF m 21 #[.val (.ref a), .val (.int q), .val (.int (10 : Int32))] [(.ref a)])) rfl rfl (hb hby d4_21)
  refine own_to (T103.setTop (mkF m 24 #[.val (.ref a), .val (.int q), .val (.int (10 : Int32))] [(.ref pg)])) (fun t k => st103 t k) ?_
  refine own_to (T103.setTop (mkF m 25 #[.val (.ref a), .val (.int q), .val (.int (10 : Int32))] [(.int (10 : Int32)), (.ref pg)])) (fun t k => XS.iloadN X103.here hx rfl (hb hby d4_24) rfl k) ?_
  refine own_to (T103.setTop (mkF m 26 #[.val (.ref a), .val (.int q), .val (.int (10 : Int32))] [.null, (.int (10 : Int32)), (.ref pg)])) (fun t k => XS.aconstNull X103.here hx rfl (hb hby d4_25) k) ?_
  obtain ⟨c104, r104, q104, z104, p104, j104, f104⟩ := id V99
  have u104 := inb_of z104 (j := (10 : Int32)) ⟨by decide, by decide⟩
  obtain ⟨T104, h104, X104, e104, W104, st104⟩ := stR X103 hx hZ e103 r104 u104 rfl (Or.inl rfl) (g := (mkF m 26 #[.val (.ref a), .val (.int q), .val (.int (10 : Int32))] [.null, (.int (10 : Int32)), (.ref pg)])) rfl rfl (hb hby d4_26)
  have N104 := Fr.snoc X104 N94 gp
  have F105 := F95.wr W104
  have F106 := F96.other W104 (Or.inl nap)
  have F107 := F97.other W104 (Or.inl nap)
  have F108 := F98.other W104 (Ne.symm npb)
  have V109 : Arv Z h104 pg kp (.array .int) (16 : Int32) [(.ref bk), .null, .null, .null, .null, .null, .null, .null, .null, .null, .null, .null, .null, .null, .null, .null] .null := Arv.set r104 q104 z104 p104 j104 f104 rfl W104 10 rfl (Nat.le_of_ble_eq_true rfl)
  have Z110 : n0 ≤ h104.size := by rw [W104.size]; exact Z100
  refine own_to (T104.setTop (mkF m 27 #[.val (.ref a), .val (.int q), .val (.int (10 : Int32))] [])) (fun t k => st104 t k) ?_
  refine own_to (T104.setTop (mkF m 30 #[.val (.ref a), .val (.int q), .val (.int (11 : Int32))] [])) (fun t k => XT.iincV X104.here hx rfl (1 : Int32) (hb hby d4_27) (by decide) rfl (l' := #[.val (.ref a), .val (.int q), .val (.int (11 : Int32))]) (by rw [show (10 : Int32) + (1 : Int32) = (11 : Int32) from by decide]; rfl) k) ?_
  refine own_to (T104.setTop (mkF m 11 #[.val (.ref a), .val (.int q), .val (.int (11 : Int32))] [])) (fun t k => XS.goto X104.here hx rfl (pc0 := 30) (pc' := 11) rfl (hb hby d4_30) (by decide) (by decide) k) ?_
  refine own_to (T104.setTop (mkF m 12 #[.val (.ref a), .val (.int q), .val (.int (11 : Int32))] [(.int (11 : Int32))])) (fun t k => XS.iloadN X104.here hx rfl (hb hby d4_11) rfl k) ?_
  refine own_to (T104.setTop (mkF m 13 #[.val (.ref a), .val (.int q), .val (.int (11 : Int32))] [(.ref a), (.int (11 : Int32))])) (fun t k => XS.aloadN X104.here hx rfl (hb hby d4_12) rfl rfl k) ?_
  obtain ⟨T111, X111, e111, st111⟩ := getF X104 hx hZ hown (host := "") (Or.inl (hw _ (List.mem_of_getElem? (i := 11) rfl))) Via.refl e104 F106 (g := (mkF m 13 #[.val (.ref a), .val (.int q), .val (.int (11 : Int32))] [(.ref a), (.int (11 : Int32))])) rfl rfl (hb hby d4_13)
  refine own_to (T111.setTop (mkF m 16 #[.val (.ref a), .val (.int q), .val (.int (11 : Int32))] [(.ref pg), (.int (11 : Int32))])) (fun t k => st111 t k) ?_
  obtain ⟨c112, r112, q112, z112, p112, j112, f112⟩ := id V109
  refine own_to (T111.setTop (mkF m 17 #[.val (.ref a), .val (.int q), .val (.int (11 : Int32))] [(.int (16 : Int32)), (.int (11 : Int32))])) (fun t k => X111.arraylength hx (by rw [e111]; exact r112.1) (State.isArrayOf_alike hZ.alike r112.2.1) (g := (mkF m 16 #[.val (.ref a), .val (.int q), .val (.int (11 : Int32))] [(.ref pg), (.int (11 : Int32))])) rfl rfl (hb hby d4_16) t (by rw [len_of z112 p112]; exact k)) ?_
  refine own_to (T111.setTop (mkF m 20 #[.val (.ref a), .val (.int q), .val (.int (11 : Int32))] [])) (fun t k => XS.icmpNo X111.here hx rfl (hb hby d4_17) rfl (tlt (by decide)).2.1 k) ?_
  refine own_to (T111.setTop (mkF m 21 #[.val (.ref a), .val (.int q), .val (.int (11 : Int32))] [(.ref a)])) (fun t k => XS.aloadN X111.here hx rfl (hb hby d4_20) rfl rfl k) ?_
  obtain ⟨T113, X113, e113, st113⟩ := getF X111 hx hZ hown (host := "") (Or.inl (hw _ (List.mem_of_getElem? (i := 11) rfl))) Via.refl e111 F106 (g := (mkF m 21 #[.val (.ref a), .val (.int q), .val (.int (11 : Int32))] [(.ref a)])) rfl rfl (hb hby d4_21)
  refine own_to (T113.setTop (mkF m 24 #[.val (.ref a), .val (.int q), .val (.int (11 : Int32))] [(.ref pg)])) (fun t k => st113 t k) ?_
  refine own_to (T113.setTop (mkF m 25 #[.val (.ref a), .val (.int q), .val (.int (11 : Int32))] [(.int (11 : Int32)), (.ref pg)])) (fun t k => XS.iloadN X113.here hx rfl (hb hby d4_24) rfl k) ?_
  refine own_to (T113.setTop (mkF m 26 #[.val (.ref a), .val (.int q), .val (.int (11 : Int32))] [.null, (.int (11 : Int32)), (.ref pg)])) (fun t k => XS.aconstNull X113.here hx rfl (hb hby d4_25) k) ?_
  obtain ⟨c114, r114, q114, z114, p114, j114, f114⟩ := id V109
  have u114 := inb_of z114 (j := (11 : Int32)) ⟨by decide, by decide⟩
  obtain ⟨T114, h114, X114, e114, W114, st114⟩ := stR X113 hx hZ e113 r114 u114 rfl (Or.inl rfl) (g := (mkF m 26 #[.val (.ref a), .val (.int q), .val (.int (11 : Int32))] [.null, (.int (11 : Int32)), (.ref pg)])) rfl rfl (hb hby d4_26)
  have N114 := Fr.snoc X114 N104 gp
  have F115 := F105.wr W114
  have F116 := F106.other W114 (Or.inl nap)
  have F117 := F107.other W114 (Or.inl nap)
  have F118 := F108.other W114 (Ne.symm npb)
  have V119 : Arv Z h114 pg kp (.array .int) (16 : Int32) [(.ref bk), .null, .null, .null, .null, .null, .null, .null, .null, .null, .null, .null, .null, .null, .null, .null] .null := Arv.set r114 q114 z114 p114 j114 f114 rfl W114 11 rfl (Nat.le_of_ble_eq_true rfl)
  have Z120 : n0 ≤ h114.size := by rw [W114.size]; exact Z110
  refine own_to (T114.setTop (mkF m 27 #[.val (.ref a), .val (.int q), .val (.int (11 : Int32))] [])) (fun t k => st114 t k) ?_
  refine own_to (T114.setTop (mkF m 30 #[.val (.ref a), .val (.int q), .val (.int (12 : Int32))] [])) (fun t k => XT.iincV X114.here hx rfl (1 : Int32) (hb hby d4_27) (by decide) rfl (l' := #[.val (.ref a), .val (.int q), .val (.int (12 : Int32))]) (by rw [show (11 : Int32) + (1 : Int32) = (12 : Int32) from by decide]; rfl) k) ?_
  refine own_to (T114.setTop (mkF m 11 #[.val (.ref a), .val (.int q), .val (.int (12 : Int32))] [])) (fun t k => XS.goto X114.here hx rfl (pc0 := 30) (pc' := 11) rfl (hb hby d4_30) (by decide) (by decide) k) ?_
  refine own_to (T114.setTop (mkF m 12 #[.val (.ref a), .val (.int q), .val (.int (12 : Int32))] [(.int (12 : Int32))])) (fun t k => XS.iloadN X114.here hx rfl (hb hby d4_11) rfl k) ?_
  refine own_to (T114.setTop (mkF m 13 #[.val (.ref a), .val (.int q), .val (.int (12 : Int32))] [(.ref a), (.int (12 : Int32))])) (fun t k => XS.aloadN X114.here hx rfl (hb hby d4_12) rfl rfl k) ?_
  obtain ⟨T121, X121, e121, st121⟩ := getF X114 hx hZ hown (host := "") (Or.inl (hw _ (List.mem_of_getElem? (i := 11) rfl))) Via.refl e114 F116 (g := (mkF m 13 #[.val (.ref a), .val (.int q), .val (.int (12 : Int32))] [(.ref a), (.int (12 : Int32))])) rfl rfl (hb hby d4_13)
  refine own_to (T121.setTop (mkF m 16 #[.val (.ref a), .val (.int q), .val (.int (12 : Int32))] [(.ref pg), (.int (12 : Int32))])) (fun t k => st121 t k) ?_
  obtain ⟨c122, r122, q122, z122, p122, j122, f122⟩ := id V119
  refine own_to (T121.setTop (mkF m 17 #[.val (.ref a), .val (.int q), .val (.int (12 : Int32))] [(.int (16 : Int32)), (.int (12 : Int32))])) (fun t k => X121.arraylength hx (by rw [e121]; exact r122.1) (State.isArrayOf_alike hZ.alike r122.2.1) (g := (mkF m 16 #[.val (.ref a), .val (.int q), .val (.int (12 : Int32))] [(.ref pg), (.int (12 : Int32))])) rfl rfl (hb hby d4_16) t (by rw [len_of z122 p122]; exact k)) ?_
  refine own_to (T121.setTop (mkF m 20 #[.val (.ref a), .val (.int q), .val (.int (12 : Int32))] [])) (fun t k => XS.icmpNo X121.here hx rfl (hb hby d4_17) rfl (tlt (by decide)).2.1 k) ?_
  refine own_to (T121.setTop (mkF m 21 #[.val (.ref a), .val (.int q), .val (.int (12 : Int32))] [(.ref a)])) (fun t k => XS.aloadN X121.here hx rfl (hb hby d4_20) rfl rfl k) ?_
  obtain ⟨T123, X123, e123, st123⟩ := getF X121 hx hZ hown (host := "") (Or.inl (hw _ (List.mem_of_getElem? (i := 11) rfl))) Via.refl e121 F116 (g := (mkF m 21 #[.val (.ref a), .val (.int q), .val (.int (12 : Int32))] [(.ref a)])) rfl rfl (hb hby d4_21)
  refine own_to (T123.setTop (mkF m 24 #[.val (.ref a), .val (.int q), .val (.int (12 : Int32))] [(.ref pg)])) (fun t k => st123 t k) ?_
  refine own_to (T123.setTop (mkF m 25 #[.val (.ref a), .val (.int q), .val (.int (12 : Int32))] [(.int (12 : Int32)), (.ref pg)])) (fun t k => XS.iloadN X123.here hx rfl (hb hby d4_24) rfl k) ?_
  refine own_to (T123.setTop (mkF m 26 #[.val (.ref a), .val (.int q), .val (.int (12 : Int32))] [.null, (.int (12 : Int32)), (.ref pg)])) (fun t k => XS.aconstNull X123.here hx rfl (hb hby d4_25) k) ?_
  obtain ⟨c124, r124, q124, z124, p124, j124, f124⟩ := id V119
  have u124 := inb_of z124 (j := (12 : Int32)) ⟨by decide, by decide⟩
  obtain ⟨T124, h124, X124, e124, W124, st124⟩ := stR X123 hx hZ e123 r124 u124 rfl (Or.inl rfl) (g := (mkF m 26 #[.val (.ref a), .val (.int q), .val (.int (12 : Int32))] [.null, (.int (12 : Int32)), (.ref pg)])) rfl rfl (hb hby d4_26)
  have N124 := Fr.snoc X124 N114 gp
  have F125 := F115.wr W124
  have F126 := F116.other W124 (Or.inl nap)
  have F127 := F117.other W124 (Or.inl nap)
  have F128 := F118.other W124 (Ne.symm npb)
  have V129 : Arv Z h124 pg kp (.array .int) (16 : Int32) [(.ref bk), .null, .null, .null, .null, .null, .null, .null, .null, .null, .null, .null, .null, .null, .null, .null] .null := Arv.set r124 q124 z124 p124 j124 f124 rfl W124 12 rfl (Nat.le_of_ble_eq_true rfl)
  have Z130 : n0 ≤ h124.size := by rw [W124.size]; exact Z120
  refine own_to (T124.setTop (mkF m 27 #[.val (.ref a), .val (.int q), .val (.int (12 : Int32))] [])) (fun t k => st124 t k) ?_
  refine own_to (T124.setTop (mkF m 30 #[.val (.ref a), .val (.int q), .val (.int (13 : Int32))] [])) (fun t k => XT.iincV X124.here hx rfl (1 : Int32) (hb hby d4_27) (by decide) rfl (l' := #[.val (.ref a), .val (.int q), .val (.int (13 : Int32))]) (by rw [show (12 : Int32) + (1 : Int32) = (13 : Int32) from by decide]; rfl) k) ?_
  refine own_to (T124.setTop (mkF m 11 #[.val (.ref a), .val (.int q), .val (.int (13 : Int32))] [])) (fun t k => XS.goto X124.here hx rfl (pc0 := 30) (pc' := 11) rfl (hb hby d4_30) (by decide) (by decide) k) ?_
  refine own_to (T124.setTop (mkF m 12 #[.val (.ref a), .val (.int q), .val (.int (13 : Int32))] [(.int (13 : Int32))])) (fun t k => XS.iloadN X124.here hx rfl (hb hby d4_11) rfl k) ?_
  refine own_to (T124.setTop (mkF m 13 #[.val (.ref a), .val (.int q), .val (.int (13 : Int32))] [(.ref a), (.int (13 : Int32))])) (fun t k => XS.aloadN X124.here hx rfl (hb hby d4_12) rfl rfl k) ?_
  obtain ⟨T131, X131, e131, st131⟩ := getF X124 hx hZ hown (host := "") (Or.inl (hw _ (List.mem_of_getElem? (i := 11) rfl))) Via.refl e124 F126 (g := (mkF m 13 #[.val (.ref a), .val (.int q), .val (.int (13 : Int32))] [(.ref a), (.int (13 : Int32))])) rfl rfl (hb hby d4_13)
  refine own_to (T131.setTop (mkF m 16 #[.val (.ref a), .val (.int q), .val (.int (13 : Int32))] [(.ref pg), (.int (13 : Int32))])) (fun t k => st131 t k) ?_
  obtain ⟨c132, r132, q132, z132, p132, j132, f132⟩ := id V129
  refine own_to (T131.setTop (mkF m 17 #[.val (.ref a), .val (.int q), .val (.int (13 : Int32))] [(.int (16 : Int32)), (.int (13 : Int32))])) (fun t k => X131.arraylength hx (by rw [e131]; exact r132.1) (State.isArrayOf_alike hZ.alike r132.2.1) (g := (mkF m 16 #[.val (.ref a), .val (.int q), .val (.int (13 : Int32))] [(.ref pg), (.int (13 : Int32))])) rfl rfl (hb hby d4_16) t (by rw [len_of z132 p132]; exact k)) ?_
  refine own_to (T131.setTop (mkF m 20 #[.val (.ref a), .val (.int q), .val (.int (13 : Int32))] [])) (fun t k => XS.icmpNo X131.here hx rfl (hb hby d4_17) rfl (tlt (by decide)).2.1 k) ?_
  refine own_to (T131.setTop (mkF m 21 #[.val (.ref a), .val (.int q), .val (.int (13 : Int32))] [(.ref a)])) (fun t k => XS.aloadN X131.here hx rfl (hb hby d4_20) rfl rfl k) ?_
  obtain ⟨T133, X133, e133, st133⟩ := getF X131 hx hZ hown (host := "") (Or.inl (hw _ (List.mem_of_getElem? (i := 11) rfl))) Via.refl e131 F126 (g := (mkF m 21 #[.val (.ref a), .val (.int q), .val (.int (13 : Int32))] [(.ref a)])) rfl rfl (hb hby d4_21)
  refine own_to (T133.setTop (mkF m 24 #[.val (.ref a), .val (.int q), .val (.int (13 : Int32))] [(.ref pg)])) (fun t k => st133 t k) ?_
  refine own_to (T133.setTop (mkF m 25 #[.val (.ref a), .val (.int q), .val (.int (13 : Int32))] [(.int (13 : Int32)), (.ref pg)])) (fun t k => XS.iloadN X133.here hx rfl (hb hby d4_24) rfl k) ?_
  refine own_to (T133.setTop (mkF m 26 #[.val (.ref a), .val (.int q), .val (.int (13 : Int32))] [.null, (.int (13 : Int32)), (.ref pg)])) (fun t k => XS.aconstNull X133.here hx rfl (hb hby d4_25) k) ?_
  obtain ⟨c134, r134, q134, z134, p134, j134, f134⟩ := id V129
  have u134 := inb_of z134 (j := (13 : Int32)) ⟨by decide, by decide⟩
  obtain ⟨T134, h134, X134, e134, W134, st134⟩ := stR X133 hx hZ e133 r134 u134 rfl (Or.inl rfl) (g := (mkF m 26 #[.val (.ref a), .val (.int q), .val (.int (13 : Int32))] [.null, (.int (13 : Int32)), (.ref pg)])) rfl rfl (hb hby d4_26)
  have N134 := Fr.snoc X134 N124 gp
  have F135 := F125.wr W134
  have F136 := F126.other W134 (Or.inl nap)
  have F137 := F127.other W134 (Or.inl nap)
  have F138 := F128.other W134 (Ne.symm npb)
  have V139 : Arv Z h134 pg kp (.array .int) (16 : Int32) [(.ref bk), .null, .null, .null, .null, .null, .null, .null, .null, .null, .null, .null, .null, .null, .null, .null] .null := Arv.set r134 q134 z134 p134 j134 f134 rfl W134 13 rfl (Nat.le_of_ble_eq_true rfl)
  have Z140 : n0 ≤ h134.size := by rw [W134.size]; exact Z130
  refine own_to (T134.setTop (mkF m 27 #[.val (.ref a), .val (.int q), .val (.int (13 : Int32))] [])) (fun t k => st134 t k) ?_
  refine own_to (T134.setTop (mkF m 30 #[.val (.ref a), .val (.int q), .val (.int (14 : Int32))] [])) (fun t k => XT.iincV X134.here hx rfl (1 : Int32) (hb hby d4_27) (by decide) rfl (l' := #[.val (.ref a), .val (.int q), .val (.int (14 : Int32))]) (by rw [show (13 : Int32) + (1 : Int32) = (14 : Int32) from by decide]; rfl) k) ?_
  refine own_to (T134.setTop (mkF m 11 #[.val (.ref a), .val (.int q), .val (.int (14 : Int32))] [])) (fun t k => XS.goto X134.here hx rfl (pc0 := 30) (pc' := 11) rfl (hb hby d4_30) (by decide) (by decide) k) ?_
  refine own_to (T134.setTop (mkF m 12 #[.val (.ref a), .val (.int q), .val (.int (14 : Int32))] [(.int (14 : Int32))])) (fun t k => XS.iloadN X134.here hx rfl (hb hby d4_11) rfl k) ?_
  refine own_to (T134.setTop (mkF m 13 #[.val (.ref a), .val (.int q), .val (.int (14 : Int32))] [(.ref a), (.int (14 : Int32))])) (fun t k => XS.aloadN X134.here hx rfl (hb hby d4_12) rfl rfl k) ?_
  obtain ⟨T141, X141, e141, st141⟩ := getF X134 hx hZ hown (host := "") (Or.inl (hw _ (List.mem_of_getElem? (i := 11) rfl))) Via.refl e134 F136 (g := (mkF m 13 #[.val (.ref a), .val (.int q), .val (.int (14 : Int32))] [(.ref a), (.int (14 : Int32))])) rfl rfl (hb hby d4_13)
  refine own_to (T141.setTop (mkF m 16 #[.val (.ref a), .val (.int q), .val (.int (14 : Int32))] [(.ref pg), (.int (14 : Int32))])) (fun t k => st141 t k) ?_
  obtain ⟨c142, r142, q142, z142, p142, j142, f142⟩ := id V139
  refine own_to (T141.setTop (mkF m 17 #[.val (.ref a), .val (.int q), .val (.int (14 : Int32))] [(.int (16 : Int32)), (.int (14 : Int32))])) (fun t k => X141.arraylength hx (by rw [e141]; exact r142.1) (State.isArrayOf_alike hZ.alike r142.2.1) (g := (mkF m 16 #[.val (.ref a), .val (.int q), .val (.int (14 : Int32))] [(.ref pg), (.int (14 : Int32))])) rfl rfl (hb hby d4_16) t (by rw [len_of z142 p142]; exact k)) ?_
  refine own_to (T141.setTop (mkF m 20 #[.val (.ref a), .val (.int q), .val (.int (14 : Int32))] [])) (fun t k => XS.icmpNo X141.here hx rfl (hb hby d4_17) rfl (tlt (by decide)).2.1 k) ?_
  refine own_to (T141.setTop (mkF m 21 #[.val (.ref a), .val (.int q), .val (.int (14 : Int32))] [(.ref a)])) (fun t k => XS.aloadN X141.here hx rfl (hb hby d4_20) rfl rfl k) ?_
  obtain ⟨T143, X143, e143, st143⟩ := getF X141 hx hZ hown (host := "") (Or.inl (hw _ (List.mem_of_getElem? (i := 11) rfl))) Via.refl e141 F136 (g := (mkF m 21 #[.val (.ref a), .val (.int q), .val (.int (14 : Int32))] [(.ref a)])) rfl rfl (hb hby d4_21)
  refine own_to (T143.setTop (mkF m 24 #[.val (.ref a), .val (.int q), .val (.int (14 : Int32))] [(.ref pg)])) (fun t k => st143 t k) ?_
  refine own_to (T143.setTop (mkF m 25 #[.val (.ref a), .val (.int q), .val (.int (14 : Int32))] [(.int (14 : Int32)), (.ref pg)])) (fun t k => XS.iloadN X143.here hx rfl (hb hby d4_24) rfl k) ?_
  refine own_to (T143.setTop (mkF m 26 #[.val (.ref a), .val (.int q), .val (.int (14 : Int32))] [.null, (.int (14 : Int32)), (.ref pg)])) (fun t k => XS.aconstNull X143.here hx rfl (hb hby d4_25) k) ?_
  obtain ⟨c144, r144, q144, z144, p144, j144, f144⟩ := id V139
  have u144 := inb_of z144 (j := (14 : Int32)) ⟨by decide, by decide⟩
  obtain ⟨T144, h144, X144, e144, W144, st144⟩ := stR X143 hx hZ e143 r144 u144 rfl (Or.inl rfl) (g := (mkF m 26 #[.val (.ref a), .val (.int q), .val (.int (14 : Int32))] [.null, (.int (14 : Int32)), (.ref pg)])) rfl rfl (hb hby d4_26)
  have N144 := Fr.snoc X144 N134 gp
  have F145 := F135.wr W144
  have F146 := F136.other W144 (Or.inl nap)
  have F147 := F137.other W144 (Or.inl nap)
  have F148 := F138.other W144 (Ne.symm npb)
  have V149 : Arv Z h144 pg kp (.array .int) (16 : Int32) [(.ref bk), .null, .null, .null, .null, .null, .null, .null, .null, .null, .null, .null, .null, .null, .null, .null] .null := Arv.set r144 q144 z144 p144 j144 f144 rfl W144 14 rfl (Nat.le_of_ble_eq_true rfl)
  have Z150 : n0 ≤ h144.size := by rw [W144.size]; exact Z140
  refine own_to (T144.setTop (mkF m 27 #[.val (.ref a), .val (.int q), .val (.int (14 : Int32))] [])) (fun t k => st144 t k) ?_
  refine own_to (T144.setTop (mkF m 30 #[.val (.ref a), .val (.int q), .val (.int (15 : Int32))] [])) (fun t k => XT.iincV X144.here hx rfl (1 : Int32) (hb hby d4_27) (by decide) rfl (l' := #[.val (.ref a), .val (.int q), .val (.int (15 : Int32))]) (by rw [show (14 : Int32) + (1 : Int32) = (15 : Int32) from by decide]; rfl) k) ?_
  refine own_to (T144.setTop (mkF m 11 #[.val (.ref a), .val (.int q), .val (.int (15 : Int32))] [])) (fun t k => XS.goto X144.here hx rfl (pc0 := 30) (pc' := 11) rfl (hb hby d4_30) (by decide) (by decide) k) ?_
  refine own_to (T144.setTop (mkF m 12 #[.val (.ref a), .val (.int q), .val (.int (15 : Int32))] [(.int (15 : Int32))])) (fun t k => XS.iloadN X144.here hx rfl (hb hby d4_11) rfl k) ?_
  refine own_to (T144.setTop (mkF m 13 #[.val (.ref a), .val (.int q), .val (.int (15 : Int32))] [(.ref a), (.int (15 : Int32))])) (fun t k => XS.aloadN X144.here hx rfl (hb hby d4_12) rfl rfl k) ?_
  obtain ⟨T151, X151, e151, st151⟩ := getF X144 hx hZ hown (host := "") (Or.inl (hw _ (List.mem_of_getElem? (i := 11) rfl))) Via.refl e144 F146 (g := (mkF m 13 #[.val (.ref a), .val (.int q), .val (.int (15 : Int32))] [(.ref a), (.int (15 : Int32))])) rfl rfl (hb hby d4_13)
  refine own_to (T151.setTop (mkF m 16 #[.val (.ref a), .val (.int q), .val (.int (15 : Int32))] [(.ref pg), (.int (15 : Int32))])) (fun t k => st151 t k) ?_
  obtain ⟨c152, r152, q152, z152, p152, j152, f152⟩ := id V149
  refine own_to (T151.setTop (mkF m 17 #[.val (.ref a), .val (.int q), .val (.int (15 : Int32))] [(.int (16 : Int32)), (.int (15 : Int32))])) (fun t k => X151.arraylength hx (by rw [e151]; exact r152.1) (State.isArrayOf_alike hZ.alike r152.2.1) (g := (mkF m 16 #[.val (.ref a), .val (.int q), .val (.int (15 : Int32))] [(.ref pg), (.int (15 : Int32))])) rfl rfl (hb hby d4_16) t (by rw [len_of z152 p152]; exact k)) ?_
  refine own_to (T151.setTop (mkF m 20 #[.val (.ref a), .val (.int q), .val (.int (15 : Int32))] [])) (fun t k => XS.icmpNo X151.here hx rfl (hb hby d4_17) rfl (tlt (by decide)).2.1 k) ?_
  refine own_to (T151.setTop (mkF m 21 #[.val (.ref a), .val (.int q), .val (.int (15 : Int32))] [(.ref a)])) (fun t k => XS.aloadN X151.here hx rfl (hb hby d4_20) rfl rfl k) ?_
  obtain ⟨T153, X153, e153, st153⟩ := getF X151 hx hZ hown (host := "") (Or.inl (hw _ (List.mem_of_getElem? (i := 11) rfl))) Via.refl e151 F146 (g := (mkF m 21 #[.val (.ref a), .val (.int q), .val (.int (15 : Int32))] [(.ref a)])) rfl rfl (hb hby d4_21)
  refine own_to (T153.setTop (mkF m 24 #[.val (.ref a), .val (.int q), .val (.int (15 : Int32))] [(.ref pg)])) (fun t k => st153 t k) ?_
  refine own_to (T153.setTop (mkF m 25 #[.val (.ref a), .val (.int q), .val (.int (15 : Int32))] [(.int (15 : Int32)), (.ref pg)])) (fun t k => XS.iloadN X153.here hx rfl (hb hby d4_24) rfl k) ?_
  refine own_to (T153.setTop (mkF m 26 #[.val (.ref a), .val (.int q), .val (.int (15 : Int32))] [.null, (.int (15 : Int32)), (.ref pg)])) (fun t k => XS.aconstNull X153.here hx rfl (hb hby d4_25) k) ?_
  obtain ⟨c154, r154, q154, z154, p154, j154, f154⟩ := id V149
  have u154 := inb_of z154 (j := (15 : Int32)) ⟨by decide, by decide⟩
  obtain ⟨T154, h154, X154, e154, W154, st154⟩ := stR X153 hx hZ e153 r154 u154 rfl (Or.inl rfl) (g := (mkF m 26 #[.val (.ref a), .val (.int q), .val (.int (15 : Int32))] [.null, (.int (15 : Int32)), (.ref pg)])) rfl rfl (hb hby d4_26)
  have N154 := Fr.snoc X154 N144 gp
  have F155 := F145.wr W154
  have F156 := F146.other W154 (Or.inl nap)
  have F157 := F147.other W154 (Or.inl nap)
  have F158 := F148.other W154 (Ne.symm npb)
  have V159 : Arv Z h154 pg kp (.array .int) (16 : Int32) [(.ref bk), .null, .null, .null, .null, .null, .null, .null, .null, .null, .null, .null, .null, .null, .null, .null] .null := Arv.set r154 q154 z154 p154 j154 f154 rfl W154 15 rfl (Nat.le_of_ble_eq_true rfl)
  have Z160 : n0 ≤ h154.size := by rw [W154.size]; exact Z150
  refine own_to (T154.setTop (mkF m 27 #[.val (.ref a), .val (.int q), .val (.int (15 : Int32))] [])) (fun t k => st154 t k) ?_
  refine own_to (T154.setTop (mkF m 30 #[.val (.ref a), .val (.int q), .val (.int (16 : Int32))] [])) (fun t k => XT.iincV X154.here hx rfl (1 : Int32) (hb hby d4_27) (by decide) rfl (l' := #[.val (.ref a), .val (.int q), .val (.int (16 : Int32))]) (by rw [show (15 : Int32) + (1 : Int32) = (16 : Int32) from by decide]; rfl) k) ?_
  refine own_to (T154.setTop (mkF m 11 #[.val (.ref a), .val (.int q), .val (.int (16 : Int32))] [])) (fun t k => XS.goto X154.here hx rfl (pc0 := 30) (pc' := 11) rfl (hb hby d4_30) (by decide) (by decide) k) ?_
  refine own_to (T154.setTop (mkF m 12 #[.val (.ref a), .val (.int q), .val (.int (16 : Int32))] [(.int (16 : Int32))])) (fun t k => XS.iloadN X154.here hx rfl (hb hby d4_11) rfl k) ?_
  refine own_to (T154.setTop (mkF m 13 #[.val (.ref a), .val (.int q), .val (.int (16 : Int32))] [(.ref a), (.int (16 : Int32))])) (fun t k => XS.aloadN X154.here hx rfl (hb hby d4_12) rfl rfl k) ?_
  obtain ⟨T161, X161, e161, st161⟩ := getF X154 hx hZ hown (host := "") (Or.inl (hw _ (List.mem_of_getElem? (i := 11) rfl))) Via.refl e154 F156 (g := (mkF m 13 #[.val (.ref a), .val (.int q), .val (.int (16 : Int32))] [(.ref a), (.int (16 : Int32))])) rfl rfl (hb hby d4_13)
  refine own_to (T161.setTop (mkF m 16 #[.val (.ref a), .val (.int q), .val (.int (16 : Int32))] [(.ref pg), (.int (16 : Int32))])) (fun t k => st161 t k) ?_
  obtain ⟨c162, r162, q162, z162, p162, j162, f162⟩ := id V159
  refine own_to (T161.setTop (mkF m 17 #[.val (.ref a), .val (.int q), .val (.int (16 : Int32))] [(.int (16 : Int32)), (.int (16 : Int32))])) (fun t k => X161.arraylength hx (by rw [e161]; exact r162.1) (State.isArrayOf_alike hZ.alike r162.2.1) (g := (mkF m 16 #[.val (.ref a), .val (.int q), .val (.int (16 : Int32))] [(.ref pg), (.int (16 : Int32))])) rfl rfl (hb hby d4_16) t (by rw [len_of z162 p162]; exact k)) ?_
  refine own_to (T161.setTop (mkF m 33 #[.val (.ref a), .val (.int q), .val (.int (16 : Int32))] [])) (fun t k => XS.icmpYes X161.here hx rfl (pc0 := 17) (pc' := 33) rfl (hb hby d4_17) rfl (flt (by decide)).2.1 (by decide) (by decide) k) ?_
  refine own_to (T161.setTop (mkF m 34 #[.val (.ref a), .val (.int q), .val (.int (16 : Int32))] [(.ref a)])) (fun t k => XS.aloadN X161.here hx rfl (hb hby d4_33) rfl rfl k) ?_
  refine own_to (T161.setTop (mkF m 35 #[.val (.ref a), .val (.int q), .val (.int (16 : Int32))] [(.int q), (.ref a)])) (fun t k => XS.iloadN X161.here hx rfl (hb hby d4_34) rfl k) ?_
  obtain ⟨T163, h163, X163, e163, W163, st163⟩ := putF X161 hx hZ hown (host := "") (Or.inl (hw _ (List.mem_of_getElem? (i := 18) rfl))) Via.refl e161 F157 F155 (Or.inl (hw _ (List.mem_of_getElem? (i := 19) rfl))) (hw _ (List.mem_of_getElem? (i := 1) rfl)) (ty := .int) (by decide) rfl rfl (g := (mkF m 35 #[.val (.ref a), .val (.int q), .val (.int (16 : Int32))] [(.int q), (.ref a)])) rfl rfl (hb hby d4_35)
  have N163 := Fr.snoc X163 N154 ga
  have F164 := F155.wr W163
  have F165 := F156.other W163 (Or.inr (slot_ne (Or.inl (hw _ (List.mem_of_getElem? (i := 12) rfl))) (Or.inl (hw _ (List.mem_of_getElem? (i := 19) rfl))) (by decide) (by rfl) (by rfl)))
  have F166 := F157.same W163
  have F167 := F158.other W163 (Ne.symm nab)
  have F168 := V159.other W163 (Ne.symm nap)
  have Z169 : n0 ≤ h163.size := by rw [W163.size]; exact Z160
  refine own_to (T163.setTop (mkF m 38 #[.val (.ref a), .val (.int q), .val (.int (16 : Int32))] [])) (fun t k => st163 t k) ?_
  exact own_retV X163 hx hret hk (hb hby d4_38) (by decide) (by decide) ⟨rfl, N163, ⟨(by rw [e163]; exact F164), (by rw [e163]; exact F165), (by rw [e163]; exact F166), (by rw [e163]; exact F168), Op, (by rw [e163]; exact F167)⟩, by rw [e163]; exact Nat.le_trans ga (Nat.le_of_lt F164.lt)⟩
def QS (Z : State) (a : Addr) (n : Int32) (h0 : Heap) (n0 : Nat) (v : Option Value) (h : Heap) (L : List Loc) : Prop := v = some (.int n) ∧ Fr n0 L ∧ h = h0
set_option maxRecDepth 65536 in
set_option maxHeartbeats 40000000 in
theorem rmS (l : Launch) (Z : State) (a0 : Array Value) (hw : ∀ d ∈ tables_1, d.before a0 Z = true) (a : Addr) (n : Int32) (h0 : Heap) (n0 : Nat) (Z0 : n0 ≤ h0.size) (F : Fld Z h0 a "com/example/clearance/clearance/IntColumn" "size" "I" (.int n)) :
    own_Ct l Z (⟨"com/example/clearance/clearance/IntColumn", "size", "()I"⟩ : MethodName) prog_22_method_2_code 1 (some .int) ({ frames := 0, cells := 0, slots := 0, locals := 0 } : Room) #[(.ref a)] h0 (QS Z a n h0 n0) := by
  refine own_body pn_5 ?_
  intro p e s m below meth cd s₁ hx hZ hby hml hown hnm hret hk X0 e0
  have N0 := Fr.nil n0
  refine own_to (s₁.setTop (mkF m 0 #[.val (.ref a)] [])) (fun t k => castTop (by first | (simp [entryFrame, mkF, argsToLocals, Value.category]; done) | rfl) k) ?_
  refine own_to (s₁.setTop (mkF m 1 #[.val (.ref a)] [(.ref a)])) (fun t k => XS.aloadN X0.here hx rfl (hb hby d5_0) rfl rfl k) ?_
  obtain ⟨T11, X11, e11, st11⟩ := getF X0 hx hZ hown (host := "") (Or.inl (hw _ (List.mem_of_getElem? (i := 18) rfl))) Via.refl e0 F (g := (mkF m 1 #[.val (.ref a)] [(.ref a)])) rfl rfl (hb hby d5_1)
  refine own_to (T11.setTop (mkF m 4 #[.val (.ref a)] [(.int n)])) (fun t k => st11 t k) ?_
  exact own_retI X11 hx hret hk (hb hby d5_4) (by decide) (by decide) ⟨rfl, N0, e11⟩
def own_min (x y : Int32) : Int32 := if y < x then y else x
def QM (Z : State) (x y : Int32) (h0 : Heap) (n0 : Nat) (v : Option Value) (h : Heap) (L : List Loc) : Prop := v = some (.int (own_min x y)) ∧ Fr n0 L ∧ h = h0
set_option maxRecDepth 65536 in
set_option maxHeartbeats 40000000 in
theorem rmM (l : Launch) (Z : State) (a0 : Array Value) (hw : ∀ d ∈ tables_1, d.before a0 Z = true) (x y : Int32) (h0 : Heap) (n0 : Nat) (Z0 : n0 ≤ h0.size)  :
    own_Ct l Z (⟨"java/lang/Math", "min", "(II)I"⟩ : MethodName) jdk_29_method_69_code 2 (some .int) ({ frames := 0, cells := 0, slots := 0, locals := 0 } : Room) #[(.int x), (.int y)] h0 (QM Z x y h0 n0) := by
  refine own_body pn_7 ?_
  intro p e s m below meth cd s₁ hx hZ hby hml hown hnm hret hk X0 e0
  have N0 := Fr.nil n0
  refine own_to (s₁.setTop (mkF m 0 #[.val (.int x), .val (.int y)] [])) (fun t k => castTop (by first | (simp [entryFrame, mkF, argsToLocals, Value.category]; done) | rfl) k) ?_
  refine own_to (s₁.setTop (mkF m 1 #[.val (.int x), .val (.int y)] [(.int x)])) (fun t k => XS.iloadN X0.here hx rfl (hb hby d7_0) rfl k) ?_
  refine own_to (s₁.setTop (mkF m 2 #[.val (.int x), .val (.int y)] [(.int y), (.int x)])) (fun t k => XS.iloadN X0.here hx rfl (hb hby d7_1) rfl k) ?_
  by_cases c11 : y < x
  · -- c11 yes
    refine own_to (s₁.setTop (mkF m 9 #[.val (.int x), .val (.int y)] [])) (fun t k => XS.icmpYes X0.here hx rfl (pc0 := 2) (pc' := 9) rfl (hb hby d7_2) rfl (tlt c11).2.2.1 (by decide) (by decide) k) ?_
    refine own_to (s₁.setTop (mkF m 10 #[.val (.int x), .val (.int y)] [(.int y)])) (fun t k => XS.iloadN X0.here hx rfl (hb hby d7_9) rfl k) ?_
    exact own_retI X0 hx hret hk (hb hby d7_10) (by decide) (by decide) ⟨by rw [own_min, if_pos c11], N0, e0⟩
  · -- c11 no
    refine own_to (s₁.setTop (mkF m 5 #[.val (.int x), .val (.int y)] [])) (fun t k => XS.icmpNo X0.here hx rfl (hb hby d7_2) rfl (flt c11).2.2.1 k) ?_
    refine own_to (s₁.setTop (mkF m 6 #[.val (.int x), .val (.int y)] [(.int x)])) (fun t k => XS.iloadN X0.here hx rfl (hb hby d7_5) rfl k) ?_
    refine own_to (s₁.setTop (mkF m 10 #[.val (.int x), .val (.int y)] [(.int x)])) (fun t k => XS.goto X0.here hx rfl (pc0 := 6) (pc' := 10) rfl (hb hby d7_6) (by decide) (by decide) k) ?_
    exact own_retI X0 hx hret hk (hb hby d7_10) (by decide) (by decide) ⟨by rw [own_min, if_neg c11], N0, e0⟩
def QY1 (Z : State) (a pg bk : Addr) (kp kb : ClassId) (u0 u1 u2 u3 u4 : Int32) (h0 : Heap) (n0 : Nat) (v : Option Value) (h : Heap) (L : List Loc) : Prop := ∃ (ar : Addr) (ka : ClassId), v = some (.ref ar) ∧ Fr n0 L ∧ Arv Z h ar ka .int (1 : Int32) [.int u0] (.int (0 : Int32)) ∧ n0 ≤ h.size
set_option maxRecDepth 65536 in
set_option maxHeartbeats 40000000 in
theorem rmY1 (l : Launch) (Z : State) (a0 : Array Value) (hw : ∀ d ∈ tables_1, d.before a0 Z = true) (a pg bk : Addr) (kp kb : ClassId) (u0 u1 u2 u3 u4 : Int32) (h0 : Heap) (n0 : Nat) (Z0 : n0 ≤ h0.size) (St : own_S1 Z h0 a pg bk kp kb 1 u0 u1 u2 u3 u4) (Na : own_N0 n0 a pg) (Nb : own_N1 n0 a pg bk) :
    own_Ct l Z (⟨"com/example/clearance/clearance/IntColumn", "toArray", "()[I"⟩ : MethodName) prog_22_method_7_code 3 (some (.array .int)) ({ frames := 1, cells := 1, slots := 5, locals := 18 } : Room) #[(.ref a)] h0 (QY1 Z a pg bk kp kb u0 u1 u2 u3 u4 h0 n0) := by
  refine own_body pn_6 ?_
  intro p e s m below meth cd s₁ hx hZ hby hml hown hnm hret hk X0 e0
  have N0 := Fr.nil n0
  refine own_to (s₁.setTop (mkF m 0 #[.val (.ref a), .unset, .unset] [])) (fun t k => castTop (by first | (simp [entryFrame, mkF, argsToLocals, Value.category]; done) | rfl) k) ?_
  obtain ⟨E, Fp, Fs, Vp, Op, Vb⟩ := St
  obtain ⟨gb, nab, npb⟩ := Nb
  obtain ⟨ga, gp, nap⟩ := Na
  refine own_to (s₁.setTop (mkF m 1 #[.val (.ref a), .unset, .unset] [(.ref a)])) (fun t k => XS.aloadN X0.here hx rfl (hb hby d6_0) rfl rfl k) ?_
  obtain ⟨T11, X11, e11, st11⟩ := getF X0 hx hZ hown (host := "") (Or.inl (hw _ (List.mem_of_getElem? (i := 18) rfl))) Via.refl e0 Fs (g := (mkF m 1 #[.val (.ref a), .unset, .unset] [(.ref a)])) rfl rfl (hb hby d6_1)
  refine own_to (T11.setTop (mkF m 4 #[.val (.ref a), .unset, .unset] [(.int (1 : Int32))])) (fun t k => st11 t k) ?_
  obtain ⟨T12, h12, k12, X12, e12, E12, A12, B12, st12⟩ := newPE X11 hx hZ (hw _ (List.mem_of_getElem? (i := 20) rfl)) e11 (g := (mkF m 4 #[.val (.ref a), .unset, .unset] [(.int (1 : Int32))])) rfl (hb hby d6_4) rfl (by decide) (cap := 5) (by decide) (by decide) (by decide) (by decide) (ad := "[I") (by decide)
  obtain ⟨a12, g12⟩ : ∃ z, z = h0.size := ⟨_, rfl⟩
  rw [← g12] at A12 B12 st12
  have ne_a_a12 : a ≠ a12 := Nat.ne_of_lt (g12 ▸ E.lt)
  have ne_pg_a12 : pg ≠ a12 := Nat.ne_of_lt (g12 ▸ Vp.lt)
  have ne_bk_a12 : bk ≠ a12 := Nat.ne_of_lt (g12 ▸ Vb.lt)
  have Z12 : n0 ≤ h12.size := Nat.le_trans Z0 E12.1
  have ge12 : n0 ≤ a12 := Nat.le_trans Z0 (Nat.le_of_eq g12.symm)
  have F13 := E.ext E12
  have F14 := Fp.ext E12
  have F15 := Fs.ext E12
  have F16 := Vp.ext E12
  have F17 := Vb.ext E12
  have V18 : Arv Z h12 a12 k12 .int (1 : Int32) [(.int (0 : Int32))] (.int (0 : Int32)) := (Arv.new A12 (by decide)).pad (pad_rep [] _ 1)
  refine own_to (T12.setTop (mkF m 6 #[.val (.ref a), .unset, .unset] [(.ref a12)])) (fun t k => st12 t k) ?_
  refine own_to (T12.setTop (mkF m 7 #[.val (.ref a), .val (.ref a12), .unset] [])) (fun t k => XS.astoreN X12.here hx rfl (hb hby d6_6) rfl rfl (l' := #[.val (.ref a), .val (.ref a12), .unset]) rfl k) ?_
  refine own_to (T12.setTop (mkF m 8 #[.val (.ref a), .val (.ref a12), .unset] [(.int (0 : Int32))])) (fun t k => XT.iconstV X12.here hx rfl (0 : Int32) (hb hby d6_7) (by decide) k) ?_
  refine own_to (T12.setTop (mkF m 9 #[.val (.ref a), .val (.ref a12), .val (.int (0 : Int32))] [])) (fun t k => XS.istoreN X12.here hx rfl (hb hby d6_8) rfl (l' := #[.val (.ref a), .val (.ref a12), .val (.int (0 : Int32))]) rfl k) ?_
  refine own_to (T12.setTop (mkF m 10 #[.val (.ref a), .val (.ref a12), .val (.int (0 : Int32))] [(.int (0 : Int32))])) (fun t k => XS.iloadN X12.here hx rfl (hb hby d6_9) rfl k) ?_
  refine own_to (T12.setTop (mkF m 11 #[.val (.ref a), .val (.ref a12), .val (.int (0 : Int32))] [(.ref a), (.int (0 : Int32))])) (fun t k => XS.aloadN X12.here hx rfl (hb hby d6_10) rfl rfl k) ?_
  obtain ⟨T19, X19, e19, st19⟩ := getF X12 hx hZ hown (host := "") (Or.inl (hw _ (List.mem_of_getElem? (i := 18) rfl))) Via.refl e12 F15 (g := (mkF m 11 #[.val (.ref a), .val (.ref a12), .val (.int (0 : Int32))] [(.ref a), (.int (0 : Int32))])) rfl rfl (hb hby d6_11)
  refine own_to (T19.setTop (mkF m 14 #[.val (.ref a), .val (.ref a12), .val (.int (0 : Int32))] [(.int (1 : Int32)), (.int (0 : Int32))])) (fun t k => st19 t k) ?_
  refine own_to (T19.setTop (mkF m 17 #[.val (.ref a), .val (.ref a12), .val (.int (0 : Int32))] [])) (fun t k => XS.icmpNo X19.here hx rfl (hb hby d6_14) rfl (tlt (by decide)).2.1 k) ?_
  refine own_to (T19.setTop (mkF m 18 #[.val (.ref a), .val (.ref a12), .val (.int (0 : Int32))] [(.ref a)])) (fun t k => XS.aloadN X19.here hx rfl (hb hby d6_17) rfl rfl k) ?_
  obtain ⟨T20, X20, e20, st20⟩ := getF X19 hx hZ hown (host := "") (Or.inl (hw _ (List.mem_of_getElem? (i := 11) rfl))) Via.refl e19 F14 (g := (mkF m 18 #[.val (.ref a), .val (.ref a12), .val (.int (0 : Int32))] [(.ref a)])) rfl rfl (hb hby d6_18)
  refine own_to (T20.setTop (mkF m 21 #[.val (.ref a), .val (.ref a12), .val (.int (0 : Int32))] [(.ref pg)])) (fun t k => st20 t k) ?_
  refine own_to (T20.setTop (mkF m 22 #[.val (.ref a), .val (.ref a12), .val (.int (0 : Int32))] [(.int (0 : Int32)), (.ref pg)])) (fun t k => XS.iloadN X20.here hx rfl (hb hby d6_21) rfl k) ?_
  refine own_to (T20.setTop (mkF m 24 #[.val (.ref a), .val (.ref a12), .val (.int (0 : Int32))] [(.int (14 : Int32)), (.int (0 : Int32)), (.ref pg)])) (fun t k => XT.bipushV X20.here hx rfl (14 : Int32) (hb hby d6_22) (by decide) k) ?_
  refine own_to (T20.setTop (mkF m 25 #[.val (.ref a), .val (.ref a12), .val (.int (0 : Int32))] [(.int (0 : Int32)), (.ref pg)])) (fun t k => XT.iushr X20.here hx rfl (hb hby d6_24) rfl (by rw [show (XT.ushr (0 : Int32) (14 : Int32)) = (0 : Int32) from by decide]; exact k)) ?_
  obtain ⟨c21, r21, q21, z21, p21, j21, f21⟩ := id F16
  have u21 := inb_of z21 (j := (0 : Int32)) ⟨by decide, by decide⟩
  refine own_to (T20.setTop (mkF m 26 #[.val (.ref a), .val (.ref a12), .val (.int (0 : Int32))] [(.ref bk)])) (fun t k => X20.aaload hx (j := (0 : Int32)) (v := (.ref bk)) (by rw [e20]; exact r21.1) (State.isArrayOf_alike hZ.alike r21.2.1) rfl r21.2.2 u21 (j21.at u21 rfl) (g := (mkF m 25 #[.val (.ref a), .val (.ref a12), .val (.int (0 : Int32))] [(.int (0 : Int32)), (.ref pg)])) rfl rfl (hb hby d6_25) t k) ?_
  refine own_to (T20.setTop (mkF m 27 #[.val (.ref a), .val (.ref a12), .val (.int (0 : Int32))] [(.int (0 : Int32)), (.ref bk)])) (fun t k => XT.iconstV X20.here hx rfl (0 : Int32) (hb hby d6_26) (by decide) k) ?_
  refine own_to (T20.setTop (mkF m 28 #[.val (.ref a), .val (.ref a12), .val (.int (0 : Int32))] [(.ref a12), (.int (0 : Int32)), (.ref bk)])) (fun t k => XS.aloadN X20.here hx rfl (hb hby d6_27) rfl rfl k) ?_
  refine own_to (T20.setTop (mkF m 29 #[.val (.ref a), .val (.ref a12), .val (.int (0 : Int32))] [(.int (0 : Int32)), (.ref a12), (.int (0 : Int32)), (.ref bk)])) (fun t k => XS.iloadN X20.here hx rfl (hb hby d6_28) rfl k) ?_
  refine own_to (T20.setTop (mkF m 32 #[.val (.ref a), .val (.ref a12), .val (.int (0 : Int32))] [(.int (16384 : Int32)), (.int (0 : Int32)), (.ref a12), (.int (0 : Int32)), (.ref bk)])) (fun t k => XT.sipushV X20.here hx rfl (16384 : Int32) (hb hby d6_29) (by decide) k) ?_
  refine own_to (T20.setTop (mkF m 33 #[.val (.ref a), .val (.ref a12), .val (.int (0 : Int32))] [(.ref a), (.int (16384 : Int32)), (.int (0 : Int32)), (.ref a12), (.int (0 : Int32)), (.ref bk)])) (fun t k => XS.aloadN X20.here hx rfl (hb hby d6_32) rfl rfl k) ?_
  obtain ⟨T22, X22, e22, st22⟩ := getF X20 hx hZ hown (host := "") (Or.inl (hw _ (List.mem_of_getElem? (i := 18) rfl))) Via.refl e20 F15 (g := (mkF m 33 #[.val (.ref a), .val (.ref a12), .val (.int (0 : Int32))] [(.ref a), (.int (16384 : Int32)), (.int (0 : Int32)), (.ref a12), (.int (0 : Int32)), (.ref bk)])) rfl rfl (hb hby d6_33)
  refine own_to (T22.setTop (mkF m 36 #[.val (.ref a), .val (.ref a12), .val (.int (0 : Int32))] [(.int (1 : Int32)), (.int (16384 : Int32)), (.int (0 : Int32)), (.ref a12), (.int (0 : Int32)), (.ref bk)])) (fun t k => st22 t k) ?_
  refine own_to (T22.setTop (mkF m 37 #[.val (.ref a), .val (.ref a12), .val (.int (0 : Int32))] [(.int (0 : Int32)), (.int (1 : Int32)), (.int (16384 : Int32)), (.int (0 : Int32)), (.ref a12), (.int (0 : Int32)), (.ref bk)])) (fun t k => XS.iloadN X22.here hx rfl (hb hby d6_36) rfl k) ?_
  refine own_to (T22.setTop (mkF m 38 #[.val (.ref a), .val (.ref a12), .val (.int (0 : Int32))] [(.int (1 : Int32)), (.int (16384 : Int32)), (.int (0 : Int32)), (.ref a12), (.int (0 : Int32)), (.ref bk)])) (fun t k => XS.isub X22.here hx rfl (hb hby d6_37) rfl (by rw [show ((1 : Int32) - (0 : Int32)) = (1 : Int32) from by decide]; exact k)) ?_
  obtain ⟨v23, T23, L23, X23, hQ23, st23⟩ := own_callS X22 hx hZ hown (hw _ (List.mem_of_getElem? (i := 38) rfl)) (hw _ (List.mem_of_getElem? (i := 39) rfl)) (hw _ (List.mem_of_getElem? (i := 41) rfl)) (hw _ (List.mem_of_getElem? (i := 40) rfl)) (by decide) e22 (argsL := [(.int (16384 : Int32)), (.int (1 : Int32))]) (rest := [(.int (0 : Int32)), (.ref a12), (.int (0 : Int32)), (.ref bk)]) (rmM l Z a0 hw (16384 : Int32) (1 : Int32) h12 n0 Z12) (by decide) (W := 4) (by decide) (by decide) (by decide) pd_7 rfl (pc := 38) (Ls := #[.val (.ref a), .val (.ref a12), .val (.int (0 : Int32))]) (by rw [hml]; rfl) (Nat.le_of_eq rfl) (hb hby d6_38)
  obtain ⟨rfl, M23, e23⟩ := hQ23
  have N23 := Fr.app N0 M23
  refine own_to (T23.setTop (mkF m 41 #[.val (.ref a), .val (.ref a12), .val (.int (0 : Int32))] [(.int (own_min (16384 : Int32) (1 : Int32))), (.int (0 : Int32)), (.ref a12), (.int (0 : Int32)), (.ref bk)])) (fun t k => st23 t k) ?_
  have mn24 : (own_min (16384 : Int32) (1 : Int32)) = (1 : Int32) := by decide
  refine own_to (T23.setTop (mkF m 41 #[.val (.ref a), .val (.ref a12), .val (.int (0 : Int32))] [(.int (1 : Int32)), (.int (0 : Int32)), (.ref a12), (.int (0 : Int32)), (.ref bk)])) (fun t k => (by rw [mn24]; exact k)) ?_
  obtain ⟨T24, h24, L24, X24, e24, N24, K24, V24, st24⟩ := cpA X23 hx hZ hown (hw _ (List.mem_of_getElem? (i := 42) rfl)) (hw _ (List.mem_of_getElem? (i := 45) rfl)) (hw _ (List.mem_of_getElem? (i := 43) rfl)) (hw _ (List.mem_of_getElem? (i := 44) rfl)) e23 (us := [(.int u0)]) F17 V18 (Or.inl ⟨rfl, rfl⟩) (by decide) (by decide) (by decide) (by decide) (by decide) rfl (by decide) N23 ge12 (g := (mkF m 41 #[.val (.ref a), .val (.ref a12), .val (.int (0 : Int32))] [(.int (1 : Int32)), (.int (0 : Int32)), (.ref a12), (.int (0 : Int32)), (.ref bk)])) rfl (by rw [hml]; rfl) rfl (hb hby d6_41) (by decide) (W := 0) (by show 2 * 0 + _ ≤ _; exact Nat.le_of_eq rfl) (by decide)
  have F25 := F13.keep K24
  have F26 := F14.keep K24 (ninS ne_a_a12 nin0)
  have F27 := F15.keep K24 (ninS ne_a_a12 nin0)
  have F28 := F16.keep K24 (ninS ne_pg_a12 nin0)
  have F29 := F17.keep K24 (ninS ne_bk_a12 nin0)
  have F30 := B12.keep K24
  have V31 : Arv Z h24 a12 k12 .int (1 : Int32) [(.int u0)] (.int (0 : Int32)) := V24
  refine own_to (T24.setTop (mkF m 44 #[.val (.ref a), .val (.ref a12), .val (.int (0 : Int32))] [])) (fun t k => st24 t k) ?_
  refine own_to (T24.setTop (mkF m 50 #[.val (.ref a), .val (.ref a12), .val (.int (16384 : Int32))] [])) (fun t k => own_iincW X24.here hx rfl (16384 : Int32) (hb hby d6_44) (by decide) rfl (l' := #[.val (.ref a), .val (.ref a12), .val (.int (16384 : Int32))]) (by rw [show (0 : Int32) + (16384 : Int32) = (16384 : Int32) from by decide]; rfl) k) ?_
  refine own_to (T24.setTop (mkF m 9 #[.val (.ref a), .val (.ref a12), .val (.int (16384 : Int32))] [])) (fun t k => XS.goto X24.here hx rfl (pc0 := 50) (pc' := 9) rfl (hb hby d6_50) (by decide) (by decide) k) ?_
  refine own_to (T24.setTop (mkF m 10 #[.val (.ref a), .val (.ref a12), .val (.int (16384 : Int32))] [(.int (16384 : Int32))])) (fun t k => XS.iloadN X24.here hx rfl (hb hby d6_9) rfl k) ?_
  refine own_to (T24.setTop (mkF m 11 #[.val (.ref a), .val (.ref a12), .val (.int (16384 : Int32))] [(.ref a), (.int (16384 : Int32))])) (fun t k => XS.aloadN X24.here hx rfl (hb hby d6_10) rfl rfl k) ?_
  obtain ⟨T32, X32, e32, st32⟩ := getF X24 hx hZ hown (host := "") (Or.inl (hw _ (List.mem_of_getElem? (i := 18) rfl))) Via.refl e24 F27 (g := (mkF m 11 #[.val (.ref a), .val (.ref a12), .val (.int (16384 : Int32))] [(.ref a), (.int (16384 : Int32))])) rfl rfl (hb hby d6_11)
  refine own_to (T32.setTop (mkF m 14 #[.val (.ref a), .val (.ref a12), .val (.int (16384 : Int32))] [(.int (1 : Int32)), (.int (16384 : Int32))])) (fun t k => st32 t k) ?_
  refine own_to (T32.setTop (mkF m 53 #[.val (.ref a), .val (.ref a12), .val (.int (16384 : Int32))] [])) (fun t k => XS.icmpYes X32.here hx rfl (pc0 := 14) (pc' := 53) rfl (hb hby d6_14) rfl (flt (by decide)).2.1 (by decide) (by decide) k) ?_
  refine own_to (T32.setTop (mkF m 54 #[.val (.ref a), .val (.ref a12), .val (.int (16384 : Int32))] [(.ref a12)])) (fun t k => XS.aloadN X32.here hx rfl (hb hby d6_53) rfl rfl k) ?_
  exact own_retA X32 hx hret rfl hk rfl rfl (hb hby d6_54) (by decide) (by decide) ⟨_, _, rfl, N24, (by rw [e32]; exact V31), by rw [e32]; exact Nat.le_trans ga (Nat.le_of_lt F25.lt)⟩
def QY2 (Z : State) (a pg bk : Addr) (kp kb : ClassId) (u0 u1 u2 u3 u4 : Int32) (h0 : Heap) (n0 : Nat) (v : Option Value) (h : Heap) (L : List Loc) : Prop := ∃ (ar : Addr) (ka : ClassId), v = some (.ref ar) ∧ Fr n0 L ∧ Arv Z h ar ka .int (2 : Int32) [.int u0, .int u1] (.int (0 : Int32)) ∧ n0 ≤ h.size
set_option maxRecDepth 65536 in
set_option maxHeartbeats 40000000 in
theorem rmY2 (l : Launch) (Z : State) (a0 : Array Value) (hw : ∀ d ∈ tables_1, d.before a0 Z = true) (a pg bk : Addr) (kp kb : ClassId) (u0 u1 u2 u3 u4 : Int32) (h0 : Heap) (n0 : Nat) (Z0 : n0 ≤ h0.size) (St : own_S1 Z h0 a pg bk kp kb 2 u0 u1 u2 u3 u4) (Na : own_N0 n0 a pg) (Nb : own_N1 n0 a pg bk) :
    own_Ct l Z (⟨"com/example/clearance/clearance/IntColumn", "toArray", "()[I"⟩ : MethodName) prog_22_method_7_code 3 (some (.array .int)) ({ frames := 1, cells := 1, slots := 5, locals := 18 } : Room) #[(.ref a)] h0 (QY2 Z a pg bk kp kb u0 u1 u2 u3 u4 h0 n0) := by
  refine own_body pn_6 ?_
  intro p e s m below meth cd s₁ hx hZ hby hml hown hnm hret hk X0 e0
  have N0 := Fr.nil n0
  refine own_to (s₁.setTop (mkF m 0 #[.val (.ref a), .unset, .unset] [])) (fun t k => castTop (by first | (simp [entryFrame, mkF, argsToLocals, Value.category]; done) | rfl) k) ?_
  obtain ⟨E, Fp, Fs, Vp, Op, Vb⟩ := St
  obtain ⟨gb, nab, npb⟩ := Nb
  obtain ⟨ga, gp, nap⟩ := Na
  refine own_to (s₁.setTop (mkF m 1 #[.val (.ref a), .unset, .unset] [(.ref a)])) (fun t k => XS.aloadN X0.here hx rfl (hb hby d6_0) rfl rfl k) ?_
  obtain ⟨T11, X11, e11, st11⟩ := getF X0 hx hZ hown (host := "") (Or.inl (hw _ (List.mem_of_getElem? (i := 18) rfl))) Via.refl e0 Fs (g := (mkF m 1 #[.val (.ref a), .unset, .unset] [(.ref a)])) rfl rfl (hb hby d6_1)
  refine own_to (T11.setTop (mkF m 4 #[.val (.ref a), .unset, .unset] [(.int (2 : Int32))])) (fun t k => st11 t k) ?_
  obtain ⟨T12, h12, k12, X12, e12, E12, A12, B12, st12⟩ := newPE X11 hx hZ (hw _ (List.mem_of_getElem? (i := 20) rfl)) e11 (g := (mkF m 4 #[.val (.ref a), .unset, .unset] [(.int (2 : Int32))])) rfl (hb hby d6_4) rfl (by decide) (cap := 5) (by decide) (by decide) (by decide) (by decide) (ad := "[I") (by decide)
  obtain ⟨a12, g12⟩ : ∃ z, z = h0.size := ⟨_, rfl⟩
  rw [← g12] at A12 B12 st12
  have ne_a_a12 : a ≠ a12 := Nat.ne_of_lt (g12 ▸ E.lt)
  have ne_pg_a12 : pg ≠ a12 := Nat.ne_of_lt (g12 ▸ Vp.lt)
  have ne_bk_a12 : bk ≠ a12 := Nat.ne_of_lt (g12 ▸ Vb.lt)
  have Z12 : n0 ≤ h12.size := Nat.le_trans Z0 E12.1
  have ge12 : n0 ≤ a12 := Nat.le_trans Z0 (Nat.le_of_eq g12.symm)
  have F13 := E.ext E12
  have F14 := Fp.ext E12
  have F15 := Fs.ext E12
  have F16 := Vp.ext E12
  have F17 := Vb.ext E12
  have V18 : Arv Z h12 a12 k12 .int (2 : Int32) [(.int (0 : Int32)), (.int (0 : Int32))] (.int (0 : Int32)) := (Arv.new A12 (by decide)).pad (pad_rep [] _ 2)
  refine own_to (T12.setTop (mkF m 6 #[.val (.ref a), .unset, .unset] [(.ref a12)])) (fun t k => st12 t k) ?_
  refine own_to (T12.setTop (mkF m 7 #[.val (.ref a), .val (.ref a12), .unset] [])) (fun t k => XS.astoreN X12.here hx rfl (hb hby d6_6) rfl rfl (l' := #[.val (.ref a), .val (.ref a12), .unset]) rfl k) ?_
  refine own_to (T12.setTop (mkF m 8 #[.val (.ref a), .val (.ref a12), .unset] [(.int (0 : Int32))])) (fun t k => XT.iconstV X12.here hx rfl (0 : Int32) (hb hby d6_7) (by decide) k) ?_
  refine own_to (T12.setTop (mkF m 9 #[.val (.ref a), .val (.ref a12), .val (.int (0 : Int32))] [])) (fun t k => XS.istoreN X12.here hx rfl (hb hby d6_8) rfl (l' := #[.val (.ref a), .val (.ref a12), .val (.int (0 : Int32))]) rfl k) ?_
  refine own_to (T12.setTop (mkF m 10 #[.val (.ref a), .val (.ref a12), .val (.int (0 : Int32))] [(.int (0 : Int32))])) (fun t k => XS.iloadN X12.here hx rfl (hb hby d6_9) rfl k) ?_
  refine own_to (T12.setTop (mkF m 11 #[.val (.ref a), .val (.ref a12), .val (.int (0 : Int32))] [(.ref a), (.int (0 : Int32))])) (fun t k => XS.aloadN X12.here hx rfl (hb hby d6_10) rfl rfl k) ?_
  obtain ⟨T19, X19, e19, st19⟩ := getF X12 hx hZ hown (host := "") (Or.inl (hw _ (List.mem_of_getElem? (i := 18) rfl))) Via.refl e12 F15 (g := (mkF m 11 #[.val (.ref a), .val (.ref a12), .val (.int (0 : Int32))] [(.ref a), (.int (0 : Int32))])) rfl rfl (hb hby d6_11)
  refine own_to (T19.setTop (mkF m 14 #[.val (.ref a), .val (.ref a12), .val (.int (0 : Int32))] [(.int (2 : Int32)), (.int (0 : Int32))])) (fun t k => st19 t k) ?_
  refine own_to (T19.setTop (mkF m 17 #[.val (.ref a), .val (.ref a12), .val (.int (0 : Int32))] [])) (fun t k => XS.icmpNo X19.here hx rfl (hb hby d6_14) rfl (tlt (by decide)).2.1 k) ?_
  refine own_to (T19.setTop (mkF m 18 #[.val (.ref a), .val (.ref a12), .val (.int (0 : Int32))] [(.ref a)])) (fun t k => XS.aloadN X19.here hx rfl (hb hby d6_17) rfl rfl k) ?_
  obtain ⟨T20, X20, e20, st20⟩ := getF X19 hx hZ hown (host := "") (Or.inl (hw _ (List.mem_of_getElem? (i := 11) rfl))) Via.refl e19 F14 (g := (mkF m 18 #[.val (.ref a), .val (.ref a12), .val (.int (0 : Int32))] [(.ref a)])) rfl rfl (hb hby d6_18)
  refine own_to (T20.setTop (mkF m 21 #[.val (.ref a), .val (.ref a12), .val (.int (0 : Int32))] [(.ref pg)])) (fun t k => st20 t k) ?_
  refine own_to (T20.setTop (mkF m 22 #[.val (.ref a), .val (.ref a12), .val (.int (0 : Int32))] [(.int (0 : Int32)), (.ref pg)])) (fun t k => XS.iloadN X20.here hx rfl (hb hby d6_21) rfl k) ?_
  refine own_to (T20.setTop (mkF m 24 #[.val (.ref a), .val (.ref a12), .val (.int (0 : Int32))] [(.int (14 : Int32)), (.int (0 : Int32)), (.ref pg)])) (fun t k => XT.bipushV X20.here hx rfl (14 : Int32) (hb hby d6_22) (by decide) k) ?_
  refine own_to (T20.setTop (mkF m 25 #[.val (.ref a), .val (.ref a12), .val (.int (0 : Int32))] [(.int (0 : Int32)), (.ref pg)])) (fun t k => XT.iushr X20.here hx rfl (hb hby d6_24) rfl (by rw [show (XT.ushr (0 : Int32) (14 : Int32)) = (0 : Int32) from by decide]; exact k)) ?_
  obtain ⟨c21, r21, q21, z21, p21, j21, f21⟩ := id F16
  have u21 := inb_of z21 (j := (0 : Int32)) ⟨by decide, by decide⟩
  refine own_to (T20.setTop (mkF m 26 #[.val (.ref a), .val (.ref a12), .val (.int (0 : Int32))] [(.ref bk)])) (fun t k => X20.aaload hx (j := (0 : Int32)) (v := (.ref bk)) (by rw [e20]; exact r21.1) (State.isArrayOf_alike hZ.alike r21.2.1) rfl r21.2.2 u21 (j21.at u21 rfl) (g := (mkF m 25 #[.val (.ref a), .val (.ref a12), .val (.int (0 : Int32))] [(.int (0 : Int32)), (.ref pg)])) rfl rfl (hb hby d6_25) t k) ?_
  refine own_to (T20.setTop (mkF m 27 #[.val (.ref a), .val (.ref a12), .val (.int (0 : Int32))] [(.int (0 : Int32)), (.ref bk)])) (fun t k => XT.iconstV X20.here hx rfl (0 : Int32) (hb hby d6_26) (by decide) k) ?_
  refine own_to (T20.setTop (mkF m 28 #[.val (.ref a), .val (.ref a12), .val (.int (0 : Int32))] [(.ref a12), (.int (0 : Int32)), (.ref bk)])) (fun t k => XS.aloadN X20.here hx rfl (hb hby d6_27) rfl rfl k) ?_
  refine own_to (T20.setTop (mkF m 29 #[.val (.ref a), .val (.ref a12), .val (.int (0 : Int32))] [(.int (0 : Int32)), (.ref a12), (.int (0 : Int32)), (.ref bk)])) (fun t k => XS.iloadN X20.here hx rfl (hb hby d6_28) rfl k) ?_
  refine own_to (T20.setTop (mkF m 32 #[.val (.ref a), .val (.ref a12), .val (.int (0 : Int32))] [(.int (16384 : Int32)), (.int (0 : Int32)), (.ref a12), (.int (0 : Int32)), (.ref bk)])) (fun t k => XT.sipushV X20.here hx rfl (16384 : Int32) (hb hby d6_29) (by decide) k) ?_
  refine own_to (T20.setTop (mkF m 33 #[.val (.ref a), .val (.ref a12), .val (.int (0 : Int32))] [(.ref a), (.int (16384 : Int32)), (.int (0 : Int32)), (.ref a12), (.int (0 : Int32)), (.ref bk)])) (fun t k => XS.aloadN X20.here hx rfl (hb hby d6_32) rfl rfl k) ?_
  obtain ⟨T22, X22, e22, st22⟩ := getF X20 hx hZ hown (host := "") (Or.inl (hw _ (List.mem_of_getElem? (i := 18) rfl))) Via.refl e20 F15 (g := (mkF m 33 #[.val (.ref a), .val (.ref a12), .val (.int (0 : Int32))] [(.ref a), (.int (16384 : Int32)), (.int (0 : Int32)), (.ref a12), (.int (0 : Int32)), (.ref bk)])) rfl rfl (hb hby d6_33)
  refine own_to (T22.setTop (mkF m 36 #[.val (.ref a), .val (.ref a12), .val (.int (0 : Int32))] [(.int (2 : Int32)), (.int (16384 : Int32)), (.int (0 : Int32)), (.ref a12), (.int (0 : Int32)), (.ref bk)])) (fun t k => st22 t k) ?_
  refine own_to (T22.setTop (mkF m 37 #[.val (.ref a), .val (.ref a12), .val (.int (0 : Int32))] [(.int (0 : Int32)), (.int (2 : Int32)), (.int (16384 : Int32)), (.int (0 : Int32)), (.ref a12), (.int (0 : Int32)), (.ref bk)])) (fun t k => XS.iloadN X22.here hx rfl (hb hby d6_36) rfl k) ?_
  refine own_to (T22.setTop (mkF m 38 #[.val (.ref a), .val (.ref a12), .val (.int (0 : Int32))] [(.int (2 : Int32)), (.int (16384 : Int32)), (.int (0 : Int32)), (.ref a12), (.int (0 : Int32)), (.ref bk)])) (fun t k => XS.isub X22.here hx rfl (hb hby d6_37) rfl (by rw [show ((2 : Int32) - (0 : Int32)) = (2 : Int32) from by decide]; exact k)) ?_
  obtain ⟨v23, T23, L23, X23, hQ23, st23⟩ := own_callS X22 hx hZ hown (hw _ (List.mem_of_getElem? (i := 38) rfl)) (hw _ (List.mem_of_getElem? (i := 39) rfl)) (hw _ (List.mem_of_getElem? (i := 41) rfl)) (hw _ (List.mem_of_getElem? (i := 40) rfl)) (by decide) e22 (argsL := [(.int (16384 : Int32)), (.int (2 : Int32))]) (rest := [(.int (0 : Int32)), (.ref a12), (.int (0 : Int32)), (.ref bk)]) (rmM l Z a0 hw (16384 : Int32) (2 : Int32) h12 n0 Z12) (by decide) (W := 4) (by decide) (by decide) (by decide) pd_7 rfl (pc := 38) (Ls := #[.val (.ref a), .val (.ref a12), .val (.int (0 : Int32))]) (by rw [hml]; rfl) (Nat.le_of_eq rfl) (hb hby d6_38)
  obtain ⟨rfl, M23, e23⟩ := hQ23
  have N23 := Fr.app N0 M23
  refine own_to (T23.setTop (mkF m 41 #[.val (.ref a), .val (.ref a12), .val (.int (0 : Int32))] [(.int (own_min (16384 : Int32) (2 : Int32))), (.int (0 : Int32)), (.ref a12), (.int (0 : Int32)), (.ref bk)])) (fun t k => st23 t k) ?_
  have mn24 : (own_min (16384 : Int32) (2 : Int32)) = (2 : Int32) := by decide
  refine own_to (T23.setTop (mkF m 41 #[.val (.ref a), .val (.ref a12), .val (.int (0 : Int32))] [(.int (2 : Int32)), (.int (0 : Int32)), (.ref a12), (.int (0 : Int32)), (.ref bk)])) (fun t k => (by rw [mn24]; exact k)) ?_
  obtain ⟨T24, h24, L24, X24, e24, N24, K24, V24, st24⟩ := cpA X23 hx hZ hown (hw _ (List.mem_of_getElem? (i := 42) rfl)) (hw _ (List.mem_of_getElem? (i := 45) rfl)) (hw _ (List.mem_of_getElem? (i := 43) rfl)) (hw _ (List.mem_of_getElem? (i := 44) rfl)) e23 (us := [(.int u0), (.int u1)]) F17 V18 (Or.inl ⟨rfl, rfl⟩) (by decide) (by decide) (by decide) (by decide) (by decide) rfl (by decide) N23 ge12 (g := (mkF m 41 #[.val (.ref a), .val (.ref a12), .val (.int (0 : Int32))] [(.int (2 : Int32)), (.int (0 : Int32)), (.ref a12), (.int (0 : Int32)), (.ref bk)])) rfl (by rw [hml]; rfl) rfl (hb hby d6_41) (by decide) (W := 0) (by show 2 * 0 + _ ≤ _; exact Nat.le_of_eq rfl) (by decide)
  have F25 := F13.keep K24
  have F26 := F14.keep K24 (ninS ne_a_a12 nin0)
  have F27 := F15.keep K24 (ninS ne_a_a12 nin0)
  have F28 := F16.keep K24 (ninS ne_pg_a12 nin0)
  have F29 := F17.keep K24 (ninS ne_bk_a12 nin0)
  have F30 := B12.keep K24
  have V31 : Arv Z h24 a12 k12 .int (2 : Int32) [(.int u0), (.int u1)] (.int (0 : Int32)) := V24
  refine own_to (T24.setTop (mkF m 44 #[.val (.ref a), .val (.ref a12), .val (.int (0 : Int32))] [])) (fun t k => st24 t k) ?_
  refine own_to (T24.setTop (mkF m 50 #[.val (.ref a), .val (.ref a12), .val (.int (16384 : Int32))] [])) (fun t k => own_iincW X24.here hx rfl (16384 : Int32) (hb hby d6_44) (by decide) rfl (l' := #[.val (.ref a), .val (.ref a12), .val (.int (16384 : Int32))]) (by rw [show (0 : Int32) + (16384 : Int32) = (16384 : Int32) from by decide]; rfl) k) ?_
  refine own_to (T24.setTop (mkF m 9 #[.val (.ref a), .val (.ref a12), .val (.int (16384 : Int32))] [])) (fun t k => XS.goto X24.here hx rfl (pc0 := 50) (pc' := 9) rfl (hb hby d6_50) (by decide) (by decide) k) ?_
  refine own_to (T24.setTop (mkF m 10 #[.val (.ref a), .val (.ref a12), .val (.int (16384 : Int32))] [(.int (16384 : Int32))])) (fun t k => XS.iloadN X24.here hx rfl (hb hby d6_9) rfl k) ?_
  refine own_to (T24.setTop (mkF m 11 #[.val (.ref a), .val (.ref a12), .val (.int (16384 : Int32))] [(.ref a), (.int (16384 : Int32))])) (fun t k => XS.aloadN X24.here hx rfl (hb hby d6_10) rfl rfl k) ?_
  obtain ⟨T32, X32, e32, st32⟩ := getF X24 hx hZ hown (host := "") (Or.inl (hw _ (List.mem_of_getElem? (i := 18) rfl))) Via.refl e24 F27 (g := (mkF m 11 #[.val (.ref a), .val (.ref a12), .val (.int (16384 : Int32))] [(.ref a), (.int (16384 : Int32))])) rfl rfl (hb hby d6_11)
  refine own_to (T32.setTop (mkF m 14 #[.val (.ref a), .val (.ref a12), .val (.int (16384 : Int32))] [(.int (2 : Int32)), (.int (16384 : Int32))])) (fun t k => st32 t k) ?_
  refine own_to (T32.setTop (mkF m 53 #[.val (.ref a), .val (.ref a12), .val (.int (16384 : Int32))] [])) (fun t k => XS.icmpYes X32.here hx rfl (pc0 := 14) (pc' := 53) rfl (hb hby d6_14) rfl (flt (by decide)).2.1 (by decide) (by decide) k) ?_
  refine own_to (T32.setTop (mkF m 54 #[.val (.ref a), .val (.ref a12), .val (.int (16384 : Int32))] [(.ref a12)])) (fun t k => XS.aloadN X32.here hx rfl (hb hby d6_53) rfl rfl k) ?_
  exact own_retA X32 hx hret rfl hk rfl rfl (hb hby d6_54) (by decide) (by decide) ⟨_, _, rfl, N24, (by rw [e32]; exact V31), by rw [e32]; exact Nat.le_trans ga (Nat.le_of_lt F25.lt)⟩
def QY3 (Z : State) (a pg bk : Addr) (kp kb : ClassId) (u0 u1 u2 u3 u4 : Int32) (h0 : Heap) (n0 : Nat) (v : Option Value) (h : Heap) (L : List Loc) : Prop := ∃ (ar : Addr) (ka : ClassId), v = some (.ref ar) ∧ Fr n0 L ∧ Arv Z h ar ka .int (3 : Int32) [.int u0, .int u1, .int u2] (.int (0 : Int32)) ∧ n0 ≤ h.size
set_option maxRecDepth 65536 in
set_option maxHeartbeats 40000000 in
theorem rmY3 (l : Launch) (Z : State) (a0 : Array Value) (hw : ∀ d ∈ tables_1, d.before a0 Z = true) (a pg bk : Addr) (kp kb : ClassId) (u0 u1 u2 u3 u4 : Int32) (h0 : Heap) (n0 : Nat) (Z0 : n0 ≤ h0.size) (St : own_S1 Z h0 a pg bk kp kb 3 u0 u1 u2 u3 u4) (Na : own_N0 n0 a pg) (Nb : own_N1 n0 a pg bk) :
    own_Ct l Z (⟨"com/example/clearance/clearance/IntColumn", "toArray", "()[I"⟩ : MethodName) prog_22_method_7_code 3 (some (.array .int)) ({ frames := 1, cells := 1, slots := 5, locals := 18 } : Room) #[(.ref a)] h0 (QY3 Z a pg bk kp kb u0 u1 u2 u3 u4 h0 n0) := by
  refine own_body pn_6 ?_
  intro p e s m below meth cd s₁ hx hZ hby hml hown hnm hret hk X0 e0
  have N0 := Fr.nil n0
  refine own_to (s₁.setTop (mkF m 0 #[.val (.ref a), .unset, .unset] [])) (fun t k => castTop (by first | (simp [entryFrame, mkF, argsToLocals, Value.category]; done) | rfl) k) ?_
  obtain ⟨E, Fp, Fs, Vp, Op, Vb⟩ := St
  obtain ⟨gb, nab, npb⟩ := Nb
  obtain ⟨ga, gp, nap⟩ := Na
  refine own_to (s₁.setTop (mkF m 1 #[.val (.ref a), .unset, .unset] [(.ref a)])) (fun t k => XS.aloadN X0.here hx rfl (hb hby d6_0) rfl rfl k) ?_
  obtain ⟨T11, X11, e11, st11⟩ := getF X0 hx hZ hown (host := "") (Or.inl (hw _ (List.mem_of_getElem? (i := 18) rfl))) Via.refl e0 Fs (g := (mkF m 1 #[.val (.ref a), .unset, .unset] [(.ref a)])) rfl rfl (hb hby d6_1)
  refine own_to (T11.setTop (mkF m 4 #[.val (.ref a), .unset, .unset] [(.int (3 : Int32))])) (fun t k => st11 t k) ?_
  obtain ⟨T12, h12, k12, X12, e12, E12, A12, B12, st12⟩ := newPE X11 hx hZ (hw _ (List.mem_of_getElem? (i := 20) rfl)) e11 (g := (mkF m 4 #[.val (.ref a), .unset, .unset] [(.int (3 : Int32))])) rfl (hb hby d6_4) rfl (by decide) (cap := 5) (by decide) (by decide) (by decide) (by decide) (ad := "[I") (by decide)
  obtain ⟨a12, g12⟩ : ∃ z, z = h0.size := ⟨_, rfl⟩
  rw [← g12] at A12 B12 st12
  have ne_a_a12 : a ≠ a12 := Nat.ne_of_lt (g12 ▸ E.lt)
  have ne_pg_a12 : pg ≠ a12 := Nat.ne_of_lt (g12 ▸ Vp.lt)
  have ne_bk_a12 : bk ≠ a12 := Nat.ne_of_lt (g12 ▸ Vb.lt)
  have Z12 : n0 ≤ h12.size := Nat.le_trans Z0 E12.1
  have ge12 : n0 ≤ a12 := Nat.le_trans Z0 (Nat.le_of_eq g12.symm)
  have F13 := E.ext E12
  have F14 := Fp.ext E12
  have F15 := Fs.ext E12
  have F16 := Vp.ext E12
  have F17 := Vb.ext E12
  have V18 : Arv Z h12 a12 k12 .int (3 : Int32) [(.int (0 : Int32)), (.int (0 : Int32)), (.int (0 : Int32))] (.int (0 : Int32)) := (Arv.new A12 (by decide)).pad (pad_rep [] _ 3)
  refine own_to (T12.setTop (mkF m 6 #[.val (.ref a), .unset, .unset] [(.ref a12)])) (fun t k => st12 t k) ?_
  refine own_to (T12.setTop (mkF m 7 #[.val (.ref a), .val (.ref a12), .unset] [])) (fun t k => XS.astoreN X12.here hx rfl (hb hby d6_6) rfl rfl (l' := #[.val (.ref a), .val (.ref a12), .unset]) rfl k) ?_
  refine own_to (T12.setTop (mkF m 8 #[.val (.ref a), .val (.ref a12), .unset] [(.int (0 : Int32))])) (fun t k => XT.iconstV X12.here hx rfl (0 : Int32) (hb hby d6_7) (by decide) k) ?_
  refine own_to (T12.setTop (mkF m 9 #[.val (.ref a), .val (.ref a12), .val (.int (0 : Int32))] [])) (fun t k => XS.istoreN X12.here hx rfl (hb hby d6_8) rfl (l' := #[.val (.ref a), .val (.ref a12), .val (.int (0 : Int32))]) rfl k) ?_
  refine own_to (T12.setTop (mkF m 10 #[.val (.ref a), .val (.ref a12), .val (.int (0 : Int32))] [(.int (0 : Int32))])) (fun t k => XS.iloadN X12.here hx rfl (hb hby d6_9) rfl k) ?_
  refine own_to (T12.setTop (mkF m 11 #[.val (.ref a), .val (.ref a12), .val (.int (0 : Int32))] [(.ref a), (.int (0 : Int32))])) (fun t k => XS.aloadN X12.here hx rfl (hb hby d6_10) rfl rfl k) ?_
  obtain ⟨T19, X19, e19, st19⟩ := getF X12 hx hZ hown (host := "") (Or.inl (hw _ (List.mem_of_getElem? (i := 18) rfl))) Via.refl e12 F15 (g := (mkF m 11 #[.val (.ref a), .val (.ref a12), .val (.int (0 : Int32))] [(.ref a), (.int (0 : Int32))])) rfl rfl (hb hby d6_11)
  refine own_to (T19.setTop (mkF m 14 #[.val (.ref a), .val (.ref a12), .val (.int (0 : Int32))] [(.int (3 : Int32)), (.int (0 : Int32))])) (fun t k => st19 t k) ?_
  refine own_to (T19.setTop (mkF m 17 #[.val (.ref a), .val (.ref a12), .val (.int (0 : Int32))] [])) (fun t k => XS.icmpNo X19.here hx rfl (hb hby d6_14) rfl (tlt (by decide)).2.1 k) ?_
  refine own_to (T19.setTop (mkF m 18 #[.val (.ref a), .val (.ref a12), .val (.int (0 : Int32))] [(.ref a)])) (fun t k => XS.aloadN X19.here hx rfl (hb hby d6_17) rfl rfl k) ?_
  obtain ⟨T20, X20, e20, st20⟩ := getF X19 hx hZ hown (host := "") (Or.inl (hw _ (List.mem_of_getElem? (i := 11) rfl))) Via.refl e19 F14 (g := (mkF m 18 #[.val (.ref a), .val (.ref a12), .val (.int (0 : Int32))] [(.ref a)])) rfl rfl (hb hby d6_18)
  refine own_to (T20.setTop (mkF m 21 #[.val (.ref a), .val (.ref a12), .val (.int (0 : Int32))] [(.ref pg)])) (fun t k => st20 t k) ?_
  refine own_to (T20.setTop (mkF m 22 #[.val (.ref a), .val (.ref a12), .val (.int (0 : Int32))] [(.int (0 : Int32)), (.ref pg)])) (fun t k => XS.iloadN X20.here hx rfl (hb hby d6_21) rfl k) ?_
  refine own_to (T20.setTop (mkF m 24 #[.val (.ref a), .val (.ref a12), .val (.int (0 : Int32))] [(.int (14 : Int32)), (.int (0 : Int32)), (.ref pg)])) (fun t k => XT.bipushV X20.here hx rfl (14 : Int32) (hb hby d6_22) (by decide) k) ?_
  refine own_to (T20.setTop (mkF m 25 #[.val (.ref a), .val (.ref a12), .val (.int (0 : Int32))] [(.int (0 : Int32)), (.ref pg)])) (fun t k => XT.iushr X20.here hx rfl (hb hby d6_24) rfl (by rw [show (XT.ushr (0 : Int32) (14 : Int32)) = (0 : Int32) from by decide]; exact k)) ?_
  obtain ⟨c21, r21, q21, z21, p21, j21, f21⟩ := id F16
  have u21 := inb_of z21 (j := (0 : Int32)) ⟨by decide, by decide⟩
  refine own_to (T20.setTop (mkF m 26 #[.val (.ref a), .val (.ref a12), .val (.int (0 : Int32))] [(.ref bk)])) (fun t k => X20.aaload hx (j := (0 : Int32)) (v := (.ref bk)) (by rw [e20]; exact r21.1) (State.isArrayOf_alike hZ.alike r21.2.1) rfl r21.2.2 u21 (j21.at u21 rfl) (g := (mkF m 25 #[.val (.ref a), .val (.ref a12), .val (.int (0 : Int32))] [(.int (0 : Int32)), (.ref pg)])) rfl rfl (hb hby d6_25) t k) ?_
  refine own_to (T20.setTop (mkF m 27 #[.val (.ref a), .val (.ref a12), .val (.int (0 : Int32))] [(.int (0 : Int32)), (.ref bk)])) (fun t k => XT.iconstV X20.here hx rfl (0 : Int32) (hb hby d6_26) (by decide) k) ?_
  refine own_to (T20.setTop (mkF m 28 #[.val (.ref a), .val (.ref a12), .val (.int (0 : Int32))] [(.ref a12), (.int (0 : Int32)), (.ref bk)])) (fun t k => XS.aloadN X20.here hx rfl (hb hby d6_27) rfl rfl k) ?_
  refine own_to (T20.setTop (mkF m 29 #[.val (.ref a), .val (.ref a12), .val (.int (0 : Int32))] [(.int (0 : Int32)), (.ref a12), (.int (0 : Int32)), (.ref bk)])) (fun t k => XS.iloadN X20.here hx rfl (hb hby d6_28) rfl k) ?_
  refine own_to (T20.setTop (mkF m 32 #[.val (.ref a), .val (.ref a12), .val (.int (0 : Int32))] [(.int (16384 : Int32)), (.int (0 : Int32)), (.ref a12), (.int (0 : Int32)), (.ref bk)])) (fun t k => XT.sipushV X20.here hx rfl (16384 : Int32) (hb hby d6_29) (by decide) k) ?_
  refine own_to (T20.setTop (mkF m 33 #[.val (.ref a), .val (.ref a12), .val (.int (0 : Int32))] [(.ref a), (.int (16384 : Int32)), (.int (0 : Int32)), (.ref a12), (.int (0 : Int32)), (.ref bk)])) (fun t k => XS.aloadN X20.here hx rfl (hb hby d6_32) rfl rfl k) ?_
  obtain ⟨T22, X22, e22, st22⟩ := getF X20 hx hZ hown (host := "") (Or.inl (hw _ (List.mem_of_getElem? (i := 18) rfl))) Via.refl e20 F15 (g := (mkF m 33 #[.val (.ref a), .val (.ref a12), .val (.int (0 : Int32))] [(.ref a), (.int (16384 : Int32)), (.int (0 : Int32)), (.ref a12), (.int (0 : Int32)), (.ref bk)])) rfl rfl (hb hby d6_33)
  refine own_to (T22.setTop (mkF m 36 #[.val (.ref a), .val (.ref a12), .val (.int (0 : Int32))] [(.int (3 : Int32)), (.int (16384 : Int32)), (.int (0 : Int32)), (.ref a12), (.int (0 : Int32)), (.ref bk)])) (fun t k => st22 t k) ?_
  refine own_to (T22.setTop (mkF m 37 #[.val (.ref a), .val (.ref a12), .val (.int (0 : Int32))] [(.int (0 : Int32)), (.int (3 : Int32)), (.int (16384 : Int32)), (.int (0 : Int32)), (.ref a12), (.int (0 : Int32)), (.ref bk)])) (fun t k => XS.iloadN X22.here hx rfl (hb hby d6_36) rfl k) ?_
  refine own_to (T22.setTop (mkF m 38 #[.val (.ref a), .val (.ref a12), .val (.int (0 : Int32))] [(.int (3 : Int32)), (.int (16384 : Int32)), (.int (0 : Int32)), (.ref a12), (.int (0 : Int32)), (.ref bk)])) (fun t k => XS.isub X22.here hx rfl (hb hby d6_37) rfl (by rw [show ((3 : Int32) - (0 : Int32)) = (3 : Int32) from by decide]; exact k)) ?_
  obtain ⟨v23, T23, L23, X23, hQ23, st23⟩ := own_callS X22 hx hZ hown (hw _ (List.mem_of_getElem? (i := 38) rfl)) (hw _ (List.mem_of_getElem? (i := 39) rfl)) (hw _ (List.mem_of_getElem? (i := 41) rfl)) (hw _ (List.mem_of_getElem? (i := 40) rfl)) (by decide) e22 (argsL := [(.int (16384 : Int32)), (.int (3 : Int32))]) (rest := [(.int (0 : Int32)), (.ref a12), (.int (0 : Int32)), (.ref bk)]) (rmM l Z a0 hw (16384 : Int32) (3 : Int32) h12 n0 Z12) (by decide) (W := 4) (by decide) (by decide) (by decide) pd_7 rfl (pc := 38) (Ls := #[.val (.ref a), .val (.ref a12), .val (.int (0 : Int32))]) (by rw [hml]; rfl) (Nat.le_of_eq rfl) (hb hby d6_38)
  obtain ⟨rfl, M23, e23⟩ := hQ23
  have N23 := Fr.app N0 M23
  refine own_to (T23.setTop (mkF m 41 #[.val (.ref a), .val (.ref a12), .val (.int (0 : Int32))] [(.int (own_min (16384 : Int32) (3 : Int32))), (.int (0 : Int32)), (.ref a12), (.int (0 : Int32)), (.ref bk)])) (fun t k => st23 t k) ?_
  have mn24 : (own_min (16384 : Int32) (3 : Int32)) = (3 : Int32) := by decide
  refine own_to (T23.setTop (mkF m 41 #[.val (.ref a), .val (.ref a12), .val (.int (0 : Int32))] [(.int (3 : Int32)), (.int (0 : Int32)), (.ref a12), (.int (0 : Int32)), (.ref bk)])) (fun t k => (by rw [mn24]; exact k)) ?_
  obtain ⟨T24, h24, L24, X24, e24, N24, K24, V24, st24⟩ := cpA X23 hx hZ hown (hw _ (List.mem_of_getElem? (i := 42) rfl)) (hw _ (List.mem_of_getElem? (i := 45) rfl)) (hw _ (List.mem_of_getElem? (i := 43) rfl)) (hw _ (List.mem_of_getElem? (i := 44) rfl)) e23 (us := [(.int u0), (.int u1), (.int u2)]) F17 V18 (Or.inl ⟨rfl, rfl⟩) (by decide) (by decide) (by decide) (by decide) (by decide) rfl (by decide) N23 ge12 (g := (mkF m 41 #[.val (.ref a), .val (.ref a12), .val (.int (0 : Int32))] [(.int (3 : Int32)), (.int (0 : Int32)), (.ref a12), (.int (0 : Int32)), (.ref bk)])) rfl (by rw [hml]; rfl) rfl (hb hby d6_41) (by decide) (W := 0) (by show 2 * 0 + _ ≤ _; exact Nat.le_of_eq rfl) (by decide)
  have F25 := F13.keep K24
  have F26 := F14.keep K24 (ninS ne_a_a12 nin0)
  have F27 := F15.keep K24 (ninS ne_a_a12 nin0)
  have F28 := F16.keep K24 (ninS ne_pg_a12 nin0)
  have F29 := F17.keep K24 (ninS ne_bk_a12 nin0)
  have F30 := B12.keep K24
  have V31 : Arv Z h24 a12 k12 .int (3 : Int32) [(.int u0), (.int u1), (.int u2)] (.int (0 : Int32)) := V24
  refine own_to (T24.setTop (mkF m 44 #[.val (.ref a), .val (.ref a12), .val (.int (0 : Int32))] [])) (fun t k => st24 t k) ?_
  refine own_to (T24.setTop (mkF m 50 #[.val (.ref a), .val (.ref a12), .val (.int (16384 : Int32))] [])) (fun t k => own_iincW X24.here hx rfl (16384 : Int32) (hb hby d6_44) (by decide) rfl (l' := #[.val (.ref a), .val (.ref a12), .val (.int (16384 : Int32))]) (by rw [show (0 : Int32) + (16384 : Int32) = (16384 : Int32) from by decide]; rfl) k) ?_
  refine own_to (T24.setTop (mkF m 9 #[.val (.ref a), .val (.ref a12), .val (.int (16384 : Int32))] [])) (fun t k => XS.goto X24.here hx rfl (pc0 := 50) (pc' := 9) rfl (hb hby d6_50) (by decide) (by decide) k) ?_
  refine own_to (T24.setTop (mkF m 10 #[.val (.ref a), .val (.ref a12), .val (.int (16384 : Int32))] [(.int (16384 : Int32))])) (fun t k => XS.iloadN X24.here hx rfl (hb hby d6_9) rfl k) ?_
  refine own_to (T24.setTop (mkF m 11 #[.val (.ref a), .val (.ref a12), .val (.int (16384 : Int32))] [(.ref a), (.int (16384 : Int32))])) (fun t k => XS.aloadN X24.here hx rfl (hb hby d6_10) rfl rfl k) ?_
  obtain ⟨T32, X32, e32, st32⟩ := getF X24 hx hZ hown (host := "") (Or.inl (hw _ (List.mem_of_getElem? (i := 18) rfl))) Via.refl e24 F27 (g := (mkF m 11 #[.val (.ref a), .val (.ref a12), .val (.int (16384 : Int32))] [(.ref a), (.int (16384 : Int32))])) rfl rfl (hb hby d6_11)
  refine own_to (T32.setTop (mkF m 14 #[.val (.ref a), .val (.ref a12), .val (.int (16384 : Int32))] [(.int (3 : Int32)), (.int (16384 : Int32))])) (fun t k => st32 t k) ?_
  refine own_to (T32.setTop (mkF m 53 #[.val (.ref a), .val (.ref a12), .val (.int (16384 : Int32))] [])) (fun t k => XS.icmpYes X32.here hx rfl (pc0 := 14) (pc' := 53) rfl (hb hby d6_14) rfl (flt (by decide)).2.1 (by decide) (by decide) k) ?_
  refine own_to (T32.setTop (mkF m 54 #[.val (.ref a), .val (.ref a12), .val (.int (16384 : Int32))] [(.ref a12)])) (fun t k => XS.aloadN X32.here hx rfl (hb hby d6_53) rfl rfl k) ?_
  exact own_retA X32 hx hret rfl hk rfl rfl (hb hby d6_54) (by decide) (by decide) ⟨_, _, rfl, N24, (by rw [e32]; exact V31), by rw [e32]; exact Nat.le_trans ga (Nat.le_of_lt F25.lt)⟩
def QY4 (Z : State) (a pg bk : Addr) (kp kb : ClassId) (u0 u1 u2 u3 u4 : Int32) (h0 : Heap) (n0 : Nat) (v : Option Value) (h : Heap) (L : List Loc) : Prop := ∃ (ar : Addr) (ka : ClassId), v = some (.ref ar) ∧ Fr n0 L ∧ Arv Z h ar ka .int (4 : Int32) [.int u0, .int u1, .int u2, .int u3] (.int (0 : Int32)) ∧ n0 ≤ h.size
set_option maxRecDepth 65536 in
set_option maxHeartbeats 40000000 in
theorem rmY4 (l : Launch) (Z : State) (a0 : Array Value) (hw : ∀ d ∈ tables_1, d.before a0 Z = true) (a pg bk : Addr) (kp kb : ClassId) (u0 u1 u2 u3 u4 : Int32) (h0 : Heap) (n0 : Nat) (Z0 : n0 ≤ h0.size) (St : own_S1 Z h0 a pg bk kp kb 4 u0 u1 u2 u3 u4) (Na : own_N0 n0 a pg) (Nb : own_N1 n0 a pg bk) :
    own_Ct l Z (⟨"com/example/clearance/clearance/IntColumn", "toArray", "()[I"⟩ : MethodName) prog_22_method_7_code 3 (some (.array .int)) ({ frames := 1, cells := 1, slots := 5, locals := 18 } : Room) #[(.ref a)] h0 (QY4 Z a pg bk kp kb u0 u1 u2 u3 u4 h0 n0) := by
  refine own_body pn_6 ?_
  intro p e s m below meth cd s₁ hx hZ hby hml hown hnm hret hk X0 e0
  have N0 := Fr.nil n0
  refine own_to (s₁.setTop (mkF m 0 #[.val (.ref a), .unset, .unset] [])) (fun t k => castTop (by first | (simp [entryFrame, mkF, argsToLocals, Value.category]; done) | rfl) k) ?_
  obtain ⟨E, Fp, Fs, Vp, Op, Vb⟩ := St
  obtain ⟨gb, nab, npb⟩ := Nb
  obtain ⟨ga, gp, nap⟩ := Na
  refine own_to (s₁.setTop (mkF m 1 #[.val (.ref a), .unset, .unset] [(.ref a)])) (fun t k => XS.aloadN X0.here hx rfl (hb hby d6_0) rfl rfl k) ?_
  obtain ⟨T11, X11, e11, st11⟩ := getF X0 hx hZ hown (host := "") (Or.inl (hw _ (List.mem_of_getElem? (i := 18) rfl))) Via.refl e0 Fs (g := (mkF m 1 #[.val (.ref a), .unset, .unset] [(.ref a)])) rfl rfl (hb hby d6_1)
  refine own_to (T11.setTop (mkF m 4 #[.val (.ref a), .unset, .unset] [(.int (4 : Int32))])) (fun t k => st11 t k) ?_
  obtain ⟨T12, h12, k12, X12, e12, E12, A12, B12, st12⟩ := newPE X11 hx hZ (hw _ (List.mem_of_getElem? (i := 20) rfl)) e11 (g := (mkF m 4 #[.val (.ref a), .unset, .unset] [(.int (4 : Int32))])) rfl (hb hby d6_4) rfl (by decide) (cap := 5) (by decide) (by decide) (by decide) (by decide) (ad := "[I") (by decide)
  obtain ⟨a12, g12⟩ : ∃ z, z = h0.size := ⟨_, rfl⟩
  rw [← g12] at A12 B12 st12
  have ne_a_a12 : a ≠ a12 := Nat.ne_of_lt (g12 ▸ E.lt)
  have ne_pg_a12 : pg ≠ a12 := Nat.ne_of_lt (g12 ▸ Vp.lt)
  have ne_bk_a12 : bk ≠ a12 := Nat.ne_of_lt (g12 ▸ Vb.lt)
  have Z12 : n0 ≤ h12.size := Nat.le_trans Z0 E12.1
  have ge12 : n0 ≤ a12 := Nat.le_trans Z0 (Nat.le_of_eq g12.symm)
  have F13 := E.ext E12
  have F14 := Fp.ext E12
  have F15 := Fs.ext E12
  have F16 := Vp.ext E12
  have F17 := Vb.ext E12
  have V18 : Arv Z h12 a12 k12 .int (4 : Int32) [(.int (0 : Int32)), (.int (0 : Int32)), (.int (0 : Int32)), (.int (0 : Int32))] (.int (0 : Int32)) := (Arv.new A12 (by decide)).pad (pad_rep [] _ 4)
  refine own_to (T12.setTop (mkF m 6 #[.val (.ref a), .unset, .unset] [(.ref a12)])) (fun t k => st12 t k) ?_
  refine own_to (T12.setTop (mkF m 7 #[.val (.ref a), .val (.ref a12), .unset] [])) (fun t k => XS.astoreN X12.here hx rfl (hb hby d6_6) rfl rfl (l' := #[.val (.ref a), .val (.ref a12), .unset]) rfl k) ?_
  refine own_to (T12.setTop (mkF m 8 #[.val (.ref a), .val (.ref a12), .unset] [(.int (0 : Int32))])) (fun t k => XT.iconstV X12.here hx rfl (0 : Int32) (hb hby d6_7) (by decide) k) ?_
  refine own_to (T12.setTop (mkF m 9 #[.val (.ref a), .val (.ref a12), .val (.int (0 : Int32))] [])) (fun t k => XS.istoreN X12.here hx rfl (hb hby d6_8) rfl (l' := #[.val (.ref a), .val (.ref a12), .val (.int (0 : Int32))]) rfl k) ?_
  refine own_to (T12.setTop (mkF m 10 #[.val (.ref a), .val (.ref a12), .val (.int (0 : Int32))] [(.int (0 : Int32))])) (fun t k => XS.iloadN X12.here hx rfl (hb hby d6_9) rfl k) ?_
  refine own_to (T12.setTop (mkF m 11 #[.val (.ref a), .val (.ref a12), .val (.int (0 : Int32))] [(.ref a), (.int (0 : Int32))])) (fun t k => XS.aloadN X12.here hx rfl (hb hby d6_10) rfl rfl k) ?_
  obtain ⟨T19, X19, e19, st19⟩ := getF X12 hx hZ hown (host := "") (Or.inl (hw _ (List.mem_of_getElem? (i := 18) rfl))) Via.refl e12 F15 (g := (mkF m 11 #[.val (.ref a), .val (.ref a12), .val (.int (0 : Int32))] [(.ref a), (.int (0 : Int32))])) rfl rfl (hb hby d6_11)
  refine own_to (T19.setTop (mkF m 14 #[.val (.ref a), .val (.ref a12), .val (.int (0 : Int32))] [(.int (4 : Int32)), (.int (0 : Int32))])) (fun t k => st19 t k) ?_
  refine own_to (T19.setTop (mkF m 17 #[.val (.ref a), .val (.ref a12), .val (.int (0 : Int32))] [])) (fun t k => XS.icmpNo X19.here hx rfl (hb hby d6_14) rfl (tlt (by decide)).2.1 k) ?_
  refine own_to (T19.setTop (mkF m 18 #[.val (.ref a), .val (.ref a12), .val (.int (0 : Int32))] [(.ref a)])) (fun t k => XS.aloadN X19.here hx rfl (hb hby d6_17) rfl rfl k) ?_
  obtain ⟨T20, X20, e20, st20⟩ := getF X19 hx hZ hown (host := "") (Or.inl (hw _ (List.mem_of_getElem? (i := 11) rfl))) Via.refl e19 F14 (g := (mkF m 18 #[.val (.ref a), .val (.ref a12), .val (.int (0 : Int32))] [(.ref a)])) rfl rfl (hb hby d6_18)
  refine own_to (T20.setTop (mkF m 21 #[.val (.ref a), .val (.ref a12), .val (.int (0 : Int32))] [(.ref pg)])) (fun t k => st20 t k) ?_
  refine own_to (T20.setTop (mkF m 22 #[.val (.ref a), .val (.ref a12), .val (.int (0 : Int32))] [(.int (0 : Int32)), (.ref pg)])) (fun t k => XS.iloadN X20.here hx rfl (hb hby d6_21) rfl k) ?_
  refine own_to (T20.setTop (mkF m 24 #[.val (.ref a), .val (.ref a12), .val (.int (0 : Int32))] [(.int (14 : Int32)), (.int (0 : Int32)), (.ref pg)])) (fun t k => XT.bipushV X20.here hx rfl (14 : Int32) (hb hby d6_22) (by decide) k) ?_
  refine own_to (T20.setTop (mkF m 25 #[.val (.ref a), .val (.ref a12), .val (.int (0 : Int32))] [(.int (0 : Int32)), (.ref pg)])) (fun t k => XT.iushr X20.here hx rfl (hb hby d6_24) rfl (by rw [show (XT.ushr (0 : Int32) (14 : Int32)) = (0 : Int32) from by decide]; exact k)) ?_
  obtain ⟨c21, r21, q21, z21, p21, j21, f21⟩ := id F16
  have u21 := inb_of z21 (j := (0 : Int32)) ⟨by decide, by decide⟩
  refine own_to (T20.setTop (mkF m 26 #[.val (.ref a), .val (.ref a12), .val (.int (0 : Int32))] [(.ref bk)])) (fun t k => X20.aaload hx (j := (0 : Int32)) (v := (.ref bk)) (by rw [e20]; exact r21.1) (State.isArrayOf_alike hZ.alike r21.2.1) rfl r21.2.2 u21 (j21.at u21 rfl) (g := (mkF m 25 #[.val (.ref a), .val (.ref a12), .val (.int (0 : Int32))] [(.int (0 : Int32)), (.ref pg)])) rfl rfl (hb hby d6_25) t k) ?_
  refine own_to (T20.setTop (mkF m 27 #[.val (.ref a), .val (.ref a12), .val (.int (0 : Int32))] [(.int (0 : Int32)), (.ref bk)])) (fun t k => XT.iconstV X20.here hx rfl (0 : Int32) (hb hby d6_26) (by decide) k) ?_
  refine own_to (T20.setTop (mkF m 28 #[.val (.ref a), .val (.ref a12), .val (.int (0 : Int32))] [(.ref a12), (.int (0 : Int32)), (.ref bk)])) (fun t k => XS.aloadN X20.here hx rfl (hb hby d6_27) rfl rfl k) ?_
  refine own_to (T20.setTop (mkF m 29 #[.val (.ref a), .val (.ref a12), .val (.int (0 : Int32))] [(.int (0 : Int32)), (.ref a12), (.int (0 : Int32)), (.ref bk)])) (fun t k => XS.iloadN X20.here hx rfl (hb hby d6_28) rfl k) ?_
  refine own_to (T20.setTop (mkF m 32 #[.val (.ref a), .val (.ref a12), .val (.int (0 : Int32))] [(.int (16384 : Int32)), (.int (0 : Int32)), (.ref a12), (.int (0 : Int32)), (.ref bk)])) (fun t k => XT.sipushV X20.here hx rfl (16384 : Int32) (hb hby d6_29) (by decide) k) ?_
  refine own_to (T20.setTop (mkF m 33 #[.val (.ref a), .val (.ref a12), .val (.int (0 : Int32))] [(.ref a), (.int (16384 : Int32)), (.int (0 : Int32)), (.ref a12), (.int (0 : Int32)), (.ref bk)])) (fun t k => XS.aloadN X20.here hx rfl (hb hby d6_32) rfl rfl k) ?_
  obtain ⟨T22, X22, e22, st22⟩ := getF X20 hx hZ hown (host := "") (Or.inl (hw _ (List.mem_of_getElem? (i := 18) rfl))) Via.refl e20 F15 (g := (mkF m 33 #[.val (.ref a), .val (.ref a12), .val (.int (0 : Int32))] [(.ref a), (.int (16384 : Int32)), (.int (0 : Int32)), (.ref a12), (.int (0 : Int32)), (.ref bk)])) rfl rfl (hb hby d6_33)
  refine own_to (T22.setTop (mkF m 36 #[.val (.ref a), .val (.ref a12), .val (.int (0 : Int32))] [(.int (4 : Int32)), (.int (16384 : Int32)), (.int (0 : Int32)), (.ref a12), (.int (0 : Int32)), (.ref bk)])) (fun t k => st22 t k) ?_
  refine own_to (T22.setTop (mkF m 37 #[.val (.ref a), .val (.ref a12), .val (.int (0 : Int32))] [(.int (0 : Int32)), (.int (4 : Int32)), (.int (16384 : Int32)), (.int (0 : Int32)), (.ref a12), (.int (0 : Int32)), (.ref bk)])) (fun t k => XS.iloadN X22.here hx rfl (hb hby d6_36) rfl k) ?_
  refine own_to (T22.setTop (mkF m 38 #[.val (.ref a), .val (.ref a12), .val (.int (0 : Int32))] [(.int (4 : Int32)), (.int (16384 : Int32)), (.int (0 : Int32)), (.ref a12), (.int (0 : Int32)), (.ref bk)])) (fun t k => XS.isub X22.here hx rfl (hb hby d6_37) rfl (by rw [show ((4 : Int32) - (0 : Int32)) = (4 : Int32) from by decide]; exact k)) ?_
  obtain ⟨v23, T23, L23, X23, hQ23, st23⟩ := own_callS X22 hx hZ hown (hw _ (List.mem_of_getElem? (i := 38) rfl)) (hw _ (List.mem_of_getElem? (i := 39) rfl)) (hw _ (List.mem_of_getElem? (i := 41) rfl)) (hw _ (List.mem_of_getElem? (i := 40) rfl)) (by decide) e22 (argsL := [(.int (16384 : Int32)), (.int (4 : Int32))]) (rest := [(.int (0 : Int32)), (.ref a12), (.int (0 : Int32)), (.ref bk)]) (rmM l Z a0 hw (16384 : Int32) (4 : Int32) h12 n0 Z12) (by decide) (W := 4) (by decide) (by decide) (by decide) pd_7 rfl (pc := 38) (Ls := #[.val (.ref a), .val (.ref a12), .val (.int (0 : Int32))]) (by rw [hml]; rfl) (Nat.le_of_eq rfl) (hb hby d6_38)
  obtain ⟨rfl, M23, e23⟩ := hQ23
  have N23 := Fr.app N0 M23
  refine own_to (T23.setTop (mkF m 41 #[.val (.ref a), .val (.ref a12), .val (.int (0 : Int32))] [(.int (own_min (16384 : Int32) (4 : Int32))), (.int (0 : Int32)), (.ref a12), (.int (0 : Int32)), (.ref bk)])) (fun t k => st23 t k) ?_
  have mn24 : (own_min (16384 : Int32) (4 : Int32)) = (4 : Int32) := by decide
  refine own_to (T23.setTop (mkF m 41 #[.val (.ref a), .val (.ref a12), .val (.int (0 : Int32))] [(.int (4 : Int32)), (.int (0 : Int32)), (.ref a12), (.int (0 : Int32)), (.ref bk)])) (fun t k => (by rw [mn24]; exact k)) ?_
  obtain ⟨T24, h24, L24, X24, e24, N24, K24, V24, st24⟩ := cpA X23 hx hZ hown (hw _ (List.mem_of_getElem? (i := 42) rfl)) (hw _ (List.mem_of_getElem? (i := 45) rfl)) (hw _ (List.mem_of_getElem? (i := 43) rfl)) (hw _ (List.mem_of_getElem? (i := 44) rfl)) e23 (us := [(.int u0), (.int u1), (.int u2), (.int u3)]) F17 V18 (Or.inl ⟨rfl, rfl⟩) (by decide) (by decide) (by decide) (by decide) (by decide) rfl (by decide) N23 ge12 (g := (mkF m 41 #[.val (.ref a), .val (.ref a12), .val (.int (0 : Int32))] [(.int (4 : Int32)), (.int (0 : Int32)), (.ref a12), (.int (0 : Int32)), (.ref bk)])) rfl (by rw [hml]; rfl) rfl (hb hby d6_41) (by decide) (W := 0) (by show 2 * 0 + _ ≤ _; exact Nat.le_of_eq rfl) (by decide)
  have F25 := F13.keep K24
  have F26 := F14.keep K24 (ninS ne_a_a12 nin0)
  have F27 := F15.keep K24 (ninS ne_a_a12 nin0)
  have F28 := F16.keep K24 (ninS ne_pg_a12 nin0)
  have F29 := F17.keep K24 (ninS ne_bk_a12 nin0)
  have F30 := B12.keep K24
  have V31 : Arv Z h24 a12 k12 .int (4 : Int32) [(.int u0), (.int u1), (.int u2), (.int u3)] (.int (0 : Int32)) := V24
  refine own_to (T24.setTop (mkF m 44 #[.val (.ref a), .val (.ref a12), .val (.int (0 : Int32))] [])) (fun t k => st24 t k) ?_
  refine own_to (T24.setTop (mkF m 50 #[.val (.ref a), .val (.ref a12), .val (.int (16384 : Int32))] [])) (fun t k => own_iincW X24.here hx rfl (16384 : Int32) (hb hby d6_44) (by decide) rfl (l' := #[.val (.ref a), .val (.ref a12), .val (.int (16384 : Int32))]) (by rw [show (0 : Int32) + (16384 : Int32) = (16384 : Int32) from by decide]; rfl) k) ?_
  refine own_to (T24.setTop (mkF m 9 #[.val (.ref a), .val (.ref a12), .val (.int (16384 : Int32))] [])) (fun t k => XS.goto X24.here hx rfl (pc0 := 50) (pc' := 9) rfl (hb hby d6_50) (by decide) (by decide) k) ?_
  refine own_to (T24.setTop (mkF m 10 #[.val (.ref a), .val (.ref a12), .val (.int (16384 : Int32))] [(.int (16384 : Int32))])) (fun t k => XS.iloadN X24.here hx rfl (hb hby d6_9) rfl k) ?_
  refine own_to (T24.setTop (mkF m 11 #[.val (.ref a), .val (.ref a12), .val (.int (16384 : Int32))] [(.ref a), (.int (16384 : Int32))])) (fun t k => XS.aloadN X24.here hx rfl (hb hby d6_10) rfl rfl k) ?_
  obtain ⟨T32, X32, e32, st32⟩ := getF X24 hx hZ hown (host := "") (Or.inl (hw _ (List.mem_of_getElem? (i := 18) rfl))) Via.refl e24 F27 (g := (mkF m 11 #[.val (.ref a), .val (.ref a12), .val (.int (16384 : Int32))] [(.ref a), (.int (16384 : Int32))])) rfl rfl (hb hby d6_11)
  refine own_to (T32.setTop (mkF m 14 #[.val (.ref a), .val (.ref a12), .val (.int (16384 : Int32))] [(.int (4 : Int32)), (.int (16384 : Int32))])) (fun t k => st32 t k) ?_
  refine own_to (T32.setTop (mkF m 53 #[.val (.ref a), .val (.ref a12), .val (.int (16384 : Int32))] [])) (fun t k => XS.icmpYes X32.here hx rfl (pc0 := 14) (pc' := 53) rfl (hb hby d6_14) rfl (flt (by decide)).2.1 (by decide) (by decide) k) ?_
  refine own_to (T32.setTop (mkF m 54 #[.val (.ref a), .val (.ref a12), .val (.int (16384 : Int32))] [(.ref a12)])) (fun t k => XS.aloadN X32.here hx rfl (hb hby d6_53) rfl rfl k) ?_
  exact own_retA X32 hx hret rfl hk rfl rfl (hb hby d6_54) (by decide) (by decide) ⟨_, _, rfl, N24, (by rw [e32]; exact V31), by rw [e32]; exact Nat.le_trans ga (Nat.le_of_lt F25.lt)⟩
def QY5 (Z : State) (a pg bk : Addr) (kp kb : ClassId) (u0 u1 u2 u3 u4 : Int32) (h0 : Heap) (n0 : Nat) (v : Option Value) (h : Heap) (L : List Loc) : Prop := ∃ (ar : Addr) (ka : ClassId), v = some (.ref ar) ∧ Fr n0 L ∧ Arv Z h ar ka .int (5 : Int32) [.int u0, .int u1, .int u2, .int u3, .int u4] (.int (0 : Int32)) ∧ n0 ≤ h.size
set_option maxRecDepth 65536 in
set_option maxHeartbeats 40000000 in
theorem rmY5 (l : Launch) (Z : State) (a0 : Array Value) (hw : ∀ d ∈ tables_1, d.before a0 Z = true) (a pg bk : Addr) (kp kb : ClassId) (u0 u1 u2 u3 u4 : Int32) (h0 : Heap) (n0 : Nat) (Z0 : n0 ≤ h0.size) (St : own_S1 Z h0 a pg bk kp kb 5 u0 u1 u2 u3 u4) (Na : own_N0 n0 a pg) (Nb : own_N1 n0 a pg bk) :
    own_Ct l Z (⟨"com/example/clearance/clearance/IntColumn", "toArray", "()[I"⟩ : MethodName) prog_22_method_7_code 3 (some (.array .int)) ({ frames := 1, cells := 1, slots := 5, locals := 18 } : Room) #[(.ref a)] h0 (QY5 Z a pg bk kp kb u0 u1 u2 u3 u4 h0 n0) := by
  refine own_body pn_6 ?_
  intro p e s m below meth cd s₁ hx hZ hby hml hown hnm hret hk X0 e0
  have N0 := Fr.nil n0
  refine own_to (s₁.setTop (mkF m 0 #[.val (.ref a), .unset, .unset] [])) (fun t k => castTop (by first | (simp [entryFrame, mkF, argsToLocals, Value.category]; done) | rfl) k) ?_
  obtain ⟨E, Fp, Fs, Vp, Op, Vb⟩ := St
  obtain ⟨gb, nab, npb⟩ := Nb
  obtain ⟨ga, gp, nap⟩ := Na
  refine own_to (s₁.setTop (mkF m 1 #[.val (.ref a), .unset, .unset] [(.ref a)])) (fun t k => XS.aloadN X0.here hx rfl (hb hby d6_0) rfl rfl k) ?_
  obtain ⟨T11, X11, e11, st11⟩ := getF X0 hx hZ hown (host := "") (Or.inl (hw _ (List.mem_of_getElem? (i := 18) rfl))) Via.refl e0 Fs (g := (mkF m 1 #[.val (.ref a), .unset, .unset] [(.ref a)])) rfl rfl (hb hby d6_1)
  refine own_to (T11.setTop (mkF m 4 #[.val (.ref a), .unset, .unset] [(.int (5 : Int32))])) (fun t k => st11 t k) ?_
  obtain ⟨T12, h12, k12, X12, e12, E12, A12, B12, st12⟩ := newPE X11 hx hZ (hw _ (List.mem_of_getElem? (i := 20) rfl)) e11 (g := (mkF m 4 #[.val (.ref a), .unset, .unset] [(.int (5 : Int32))])) rfl (hb hby d6_4) rfl (by decide) (cap := 5) (by decide) (by decide) (by decide) (by decide) (ad := "[I") (by decide)
  obtain ⟨a12, g12⟩ : ∃ z, z = h0.size := ⟨_, rfl⟩
  rw [← g12] at A12 B12 st12
  have ne_a_a12 : a ≠ a12 := Nat.ne_of_lt (g12 ▸ E.lt)
  have ne_pg_a12 : pg ≠ a12 := Nat.ne_of_lt (g12 ▸ Vp.lt)
  have ne_bk_a12 : bk ≠ a12 := Nat.ne_of_lt (g12 ▸ Vb.lt)
  have Z12 : n0 ≤ h12.size := Nat.le_trans Z0 E12.1
  have ge12 : n0 ≤ a12 := Nat.le_trans Z0 (Nat.le_of_eq g12.symm)
  have F13 := E.ext E12
  have F14 := Fp.ext E12
  have F15 := Fs.ext E12
  have F16 := Vp.ext E12
  have F17 := Vb.ext E12
  have V18 : Arv Z h12 a12 k12 .int (5 : Int32) [(.int (0 : Int32)), (.int (0 : Int32)), (.int (0 : Int32)), (.int (0 : Int32)), (.int (0 : Int32))] (.int (0 : Int32)) := (Arv.new A12 (by decide)).pad (pad_rep [] _ 5)
  refine own_to (T12.setTop (mkF m 6 #[.val (.ref a), .unset, .unset] [(.ref a12)])) (fun t k => st12 t k) ?_
  refine own_to (T12.setTop (mkF m 7 #[.val (.ref a), .val (.ref a12), .unset] [])) (fun t k => XS.astoreN X12.here hx rfl (hb hby d6_6) rfl rfl (l' := #[.val (.ref a), .val (.ref a12), .unset]) rfl k) ?_
  refine own_to (T12.setTop (mkF m 8 #[.val (.ref a), .val (.ref a12), .unset] [(.int (0 : Int32))])) (fun t k => XT.iconstV X12.here hx rfl (0 : Int32) (hb hby d6_7) (by decide) k) ?_
  refine own_to (T12.setTop (mkF m 9 #[.val (.ref a), .val (.ref a12), .val (.int (0 : Int32))] [])) (fun t k => XS.istoreN X12.here hx rfl (hb hby d6_8) rfl (l' := #[.val (.ref a), .val (.ref a12), .val (.int (0 : Int32))]) rfl k) ?_
  refine own_to (T12.setTop (mkF m 10 #[.val (.ref a), .val (.ref a12), .val (.int (0 : Int32))] [(.int (0 : Int32))])) (fun t k => XS.iloadN X12.here hx rfl (hb hby d6_9) rfl k) ?_
  refine own_to (T12.setTop (mkF m 11 #[.val (.ref a), .val (.ref a12), .val (.int (0 : Int32))] [(.ref a), (.int (0 : Int32))])) (fun t k => XS.aloadN X12.here hx rfl (hb hby d6_10) rfl rfl k) ?_
  obtain ⟨T19, X19, e19, st19⟩ := getF X12 hx hZ hown (host := "") (Or.inl (hw _ (List.mem_of_getElem? (i := 18) rfl))) Via.refl e12 F15 (g := (mkF m 11 #[.val (.ref a), .val (.ref a12), .val (.int (0 : Int32))] [(.ref a), (.int (0 : Int32))])) rfl rfl (hb hby d6_11)
  refine own_to (T19.setTop (mkF m 14 #[.val (.ref a), .val (.ref a12), .val (.int (0 : Int32))] [(.int (5 : Int32)), (.int (0 : Int32))])) (fun t k => st19 t k) ?_
  refine own_to (T19.setTop (mkF m 17 #[.val (.ref a), .val (.ref a12), .val (.int (0 : Int32))] [])) (fun t k => XS.icmpNo X19.here hx rfl (hb hby d6_14) rfl (tlt (by decide)).2.1 k) ?_
  refine own_to (T19.setTop (mkF m 18 #[.val (.ref a), .val (.ref a12), .val (.int (0 : Int32))] [(.ref a)])) (fun t k => XS.aloadN X19.here hx rfl (hb hby d6_17) rfl rfl k) ?_
  obtain ⟨T20, X20, e20, st20⟩ := getF X19 hx hZ hown (host := "") (Or.inl (hw _ (List.mem_of_getElem? (i := 11) rfl))) Via.refl e19 F14 (g := (mkF m 18 #[.val (.ref a), .val (.ref a12), .val (.int (0 : Int32))] [(.ref a)])) rfl rfl (hb hby d6_18)
  refine own_to (T20.setTop (mkF m 21 #[.val (.ref a), .val (.ref a12), .val (.int (0 : Int32))] [(.ref pg)])) (fun t k => st20 t k) ?_
  refine own_to (T20.setTop (mkF m 22 #[.val (.ref a), .val (.ref a12), .val (.int (0 : Int32))] [(.int (0 : Int32)), (.ref pg)])) (fun t k => XS.iloadN X20.here hx rfl (hb hby d6_21) rfl k) ?_
  refine own_to (T20.setTop (mkF m 24 #[.val (.ref a), .val (.ref a12), .val (.int (0 : Int32))] [(.int (14 : Int32)), (.int (0 : Int32)), (.ref pg)])) (fun t k => XT.bipushV X20.here hx rfl (14 : Int32) (hb hby d6_22) (by decide) k) ?_
  refine own_to (T20.setTop (mkF m 25 #[.val (.ref a), .val (.ref a12), .val (.int (0 : Int32))] [(.int (0 : Int32)), (.ref pg)])) (fun t k => XT.iushr X20.here hx rfl (hb hby d6_24) rfl (by rw [show (XT.ushr (0 : Int32) (14 : Int32)) = (0 : Int32) from by decide]; exact k)) ?_
  obtain ⟨c21, r21, q21, z21, p21, j21, f21⟩ := id F16
  have u21 := inb_of z21 (j := (0 : Int32)) ⟨by decide, by decide⟩
  refine own_to (T20.setTop (mkF m 26 #[.val (.ref a), .val (.ref a12), .val (.int (0 : Int32))] [(.ref bk)])) (fun t k => X20.aaload hx (j := (0 : Int32)) (v := (.ref bk)) (by rw [e20]; exact r21.1) (State.isArrayOf_alike hZ.alike r21.2.1) rfl r21.2.2 u21 (j21.at u21 rfl) (g := (mkF m 25 #[.val (.ref a), .val (.ref a12), .val (.int (0 : Int32))] [(.int (0 : Int32)), (.ref pg)])) rfl rfl (hb hby d6_25) t k) ?_
  refine own_to (T20.setTop (mkF m 27 #[.val (.ref a), .val (.ref a12), .val (.int (0 : Int32))] [(.int (0 : Int32)), (.ref bk)])) (fun t k => XT.iconstV X20.here hx rfl (0 : Int32) (hb hby d6_26) (by decide) k) ?_
  refine own_to (T20.setTop (mkF m 28 #[.val (.ref a), .val (.ref a12), .val (.int (0 : Int32))] [(.ref a12), (.int (0 : Int32)), (.ref bk)])) (fun t k => XS.aloadN X20.here hx rfl (hb hby d6_27) rfl rfl k) ?_
  refine own_to (T20.setTop (mkF m 29 #[.val (.ref a), .val (.ref a12), .val (.int (0 : Int32))] [(.int (0 : Int32)), (.ref a12), (.int (0 : Int32)), (.ref bk)])) (fun t k => XS.iloadN X20.here hx rfl (hb hby d6_28) rfl k) ?_
  refine own_to (T20.setTop (mkF m 32 #[.val (.ref a), .val (.ref a12), .val (.int (0 : Int32))] [(.int (16384 : Int32)), (.int (0 : Int32)), (.ref a12), (.int (0 : Int32)), (.ref bk)])) (fun t k => XT.sipushV X20.here hx rfl (16384 : Int32) (hb hby d6_29) (by decide) k) ?_
  refine own_to (T20.setTop (mkF m 33 #[.val (.ref a), .val (.ref a12), .val (.int (0 : Int32))] [(.ref a), (.int (16384 : Int32)), (.int (0 : Int32)), (.ref a12), (.int (0 : Int32)), (.ref bk)])) (fun t k => XS.aloadN X20.here hx rfl (hb hby d6_32) rfl rfl k) ?_
  obtain ⟨T22, X22, e22, st22⟩ := getF X20 hx hZ hown (host := "") (Or.inl (hw _ (List.mem_of_getElem? (i := 18) rfl))) Via.refl e20 F15 (g := (mkF m 33 #[.val (.ref a), .val (.ref a12), .val (.int (0 : Int32))] [(.ref a), (.int (16384 : Int32)), (.int (0 : Int32)), (.ref a12), (.int (0 : Int32)), (.ref bk)])) rfl rfl (hb hby d6_33)
  refine own_to (T22.setTop (mkF m 36 #[.val (.ref a), .val (.ref a12), .val (.int (0 : Int32))] [(.int (5 : Int32)), (.int (16384 : Int32)), (.int (0 : Int32)), (.ref a12), (.int (0 : Int32)), (.ref bk)])) (fun t k => st22 t k) ?_
  refine own_to (T22.setTop (mkF m 37 #[.val (.ref a), .val (.ref a12), .val (.int (0 : Int32))] [(.int (0 : Int32)), (.int (5 : Int32)), (.int (16384 : Int32)), (.int (0 : Int32)), (.ref a12), (.int (0 : Int32)), (.ref bk)])) (fun t k => XS.iloadN X22.here hx rfl (hb hby d6_36) rfl k) ?_
  refine own_to (T22.setTop (mkF m 38 #[.val (.ref a), .val (.ref a12), .val (.int (0 : Int32))] [(.int (5 : Int32)), (.int (16384 : Int32)), (.int (0 : Int32)), (.ref a12), (.int (0 : Int32)), (.ref bk)])) (fun t k => XS.isub X22.here hx rfl (hb hby d6_37) rfl (by rw [show ((5 : Int32) - (0 : Int32)) = (5 : Int32) from by decide]; exact k)) ?_
  obtain ⟨v23, T23, L23, X23, hQ23, st23⟩ := own_callS X22 hx hZ hown (hw _ (List.mem_of_getElem? (i := 38) rfl)) (hw _ (List.mem_of_getElem? (i := 39) rfl)) (hw _ (List.mem_of_getElem? (i := 41) rfl)) (hw _ (List.mem_of_getElem? (i := 40) rfl)) (by decide) e22 (argsL := [(.int (16384 : Int32)), (.int (5 : Int32))]) (rest := [(.int (0 : Int32)), (.ref a12), (.int (0 : Int32)), (.ref bk)]) (rmM l Z a0 hw (16384 : Int32) (5 : Int32) h12 n0 Z12) (by decide) (W := 4) (by decide) (by decide) (by decide) pd_7 rfl (pc := 38) (Ls := #[.val (.ref a), .val (.ref a12), .val (.int (0 : Int32))]) (by rw [hml]; rfl) (Nat.le_of_eq rfl) (hb hby d6_38)
  obtain ⟨rfl, M23, e23⟩ := hQ23
  have N23 := Fr.app N0 M23
  refine own_to (T23.setTop (mkF m 41 #[.val (.ref a), .val (.ref a12), .val (.int (0 : Int32))] [(.int (own_min (16384 : Int32) (5 : Int32))), (.int (0 : Int32)), (.ref a12), (.int (0 : Int32)), (.ref bk)])) (fun t k => st23 t k) ?_
  have mn24 : (own_min (16384 : Int32) (5 : Int32)) = (5 : Int32) := by decide
  refine own_to (T23.setTop (mkF m 41 #[.val (.ref a), .val (.ref a12), .val (.int (0 : Int32))] [(.int (5 : Int32)), (.int (0 : Int32)), (.ref a12), (.int (0 : Int32)), (.ref bk)])) (fun t k => (by rw [mn24]; exact k)) ?_
  obtain ⟨T24, h24, L24, X24, e24, N24, K24, V24, st24⟩ := cpA X23 hx hZ hown (hw _ (List.mem_of_getElem? (i := 42) rfl)) (hw _ (List.mem_of_getElem? (i := 45) rfl)) (hw _ (List.mem_of_getElem? (i := 43) rfl)) (hw _ (List.mem_of_getElem? (i := 44) rfl)) e23 (us := [(.int u0), (.int u1), (.int u2), (.int u3), (.int u4)]) F17 V18 (Or.inl ⟨rfl, rfl⟩) (by decide) (by decide) (by decide) (by decide) (by decide) rfl (by decide) N23 ge12 (g := (mkF m 41 #[.val (.ref a), .val (.ref a12), .val (.int (0 : Int32))] [(.int (5 : Int32)), (.int (0 : Int32)), (.ref a12), (.int (0 : Int32)), (.ref bk)])) rfl (by rw [hml]; rfl) rfl (hb hby d6_41) (by decide) (W := 0) (by show 2 * 0 + _ ≤ _; exact Nat.le_of_eq rfl) (by decide)
  have F25 := F13.keep K24
  have F26 := F14.keep K24 (ninS ne_a_a12 nin0)
  have F27 := F15.keep K24 (ninS ne_a_a12 nin0)
  have F28 := F16.keep K24 (ninS ne_pg_a12 nin0)
  have F29 := F17.keep K24 (ninS ne_bk_a12 nin0)
  have F30 := B12.keep K24
  have V31 : Arv Z h24 a12 k12 .int (5 : Int32) [(.int u0), (.int u1), (.int u2), (.int u3), (.int u4)] (.int (0 : Int32)) := V24
  refine own_to (T24.setTop (mkF m 44 #[.val (.ref a), .val (.ref a12), .val (.int (0 : Int32))] [])) (fun t k => st24 t k) ?_
  refine own_to (T24.setTop (mkF m 50 #[.val (.ref a), .val (.ref a12), .val (.int (16384 : Int32))] [])) (fun t k => own_iincW X24.here hx rfl (16384 : Int32) (hb hby d6_44) (by decide) rfl (l' := #[.val (.ref a), .val (.ref a12), .val (.int (16384 : Int32))]) (by rw [show (0 : Int32) + (16384 : Int32) = (16384 : Int32) from by decide]; rfl) k) ?_
  refine own_to (T24.setTop (mkF m 9 #[.val (.ref a), .val (.ref a12), .val (.int (16384 : Int32))] [])) (fun t k => XS.goto X24.here hx rfl (pc0 := 50) (pc' := 9) rfl (hb hby d6_50) (by decide) (by decide) k) ?_
  refine own_to (T24.setTop (mkF m 10 #[.val (.ref a), .val (.ref a12), .val (.int (16384 : Int32))] [(.int (16384 : Int32))])) (fun t k => XS.iloadN X24.here hx rfl (hb hby d6_9) rfl k) ?_
  refine own_to (T24.setTop (mkF m 11 #[.val (.ref a), .val (.ref a12), .val (.int (16384 : Int32))] [(.ref a), (.int (16384 : Int32))])) (fun t k => XS.aloadN X24.here hx rfl (hb hby d6_10) rfl rfl k) ?_
  obtain ⟨T32, X32, e32, st32⟩ := getF X24 hx hZ hown (host := "") (Or.inl (hw _ (List.mem_of_getElem? (i := 18) rfl))) Via.refl e24 F27 (g := (mkF m 11 #[.val (.ref a), .val (.ref a12), .val (.int (16384 : Int32))] [(.ref a), (.int (16384 : Int32))])) rfl rfl (hb hby d6_11)
  refine own_to (T32.setTop (mkF m 14 #[.val (.ref a), .val (.ref a12), .val (.int (16384 : Int32))] [(.int (5 : Int32)), (.int (16384 : Int32))])) (fun t k => st32 t k) ?_
  refine own_to (T32.setTop (mkF m 53 #[.val (.ref a), .val (.ref a12), .val (.int (16384 : Int32))] [])) (fun t k => XS.icmpYes X32.here hx rfl (pc0 := 14) (pc' := 53) rfl (hb hby d6_14) rfl (flt (by decide)).2.1 (by decide) (by decide) k) ?_
  refine own_to (T32.setTop (mkF m 54 #[.val (.ref a), .val (.ref a12), .val (.int (16384 : Int32))] [(.ref a12)])) (fun t k => XS.aloadN X32.here hx rfl (hb hby d6_53) rfl rfl k) ?_
  exact own_retA X32 hx hret rfl hk rfl rfl (hb hby d6_54) (by decide) (by decide) ⟨_, _, rfl, N24, (by rw [e32]; exact V31), by rw [e32]; exact Nat.le_trans ga (Nat.le_of_lt F25.lt)⟩
def Qt1 (Z : State) (ar ex : Addr) (i q x : Int32) (h0 : Heap) (n0 : Nat) (v : Option Value) (h : Heap) (L : List Loc) : Prop := v = some (.int 1) ∧ Fr n0 L ∧ h = h0
set_option maxRecDepth 65536 in
set_option maxHeartbeats 40000000 in
theorem rmt1 (l : Launch) (Z : State) (a0 : Array Value) (hw : ∀ d ∈ tables_1, d.before a0 Z = true) (ar ex : Addr) (i q x : Int32) (h0 : Heap) (n0 : Nat) (Z0 : n0 ≤ h0.size) (h1 : q < i) :
    own_Ct l Z (⟨"com/example/clearance/clearance/IntColumnTruncatePinLaw", "at", "([III[II)Z"⟩ : MethodName) method_3_code 6 (some .boolean) ({ frames := 0, cells := 0, slots := 0, locals := 0 } : Room) #[(.ref ar), (.int i), (.int q), (.ref ex), (.int x)] h0 (Qt1 Z ar ex i q x h0 n0) := by
  refine own_body pn_8 ?_
  intro p e s m below meth cd s₁ hx hZ hby hml hown hnm hret hk X0 e0
  have N0 := Fr.nil n0
  refine own_to (s₁.setTop (mkF m 0 #[.val (.ref ar), .val (.int i), .val (.int q), .val (.ref ex), .val (.int x), .unset] [])) (fun t k => castTop (by first | (simp [entryFrame, mkF, argsToLocals, Value.category]; done) | rfl) k) ?_
  refine own_to (s₁.setTop (mkF m 1 #[.val (.ref ar), .val (.int i), .val (.int q), .val (.ref ex), .val (.int x), .unset] [(.int i)])) (fun t k => XS.iloadN X0.here hx rfl (hb hby d8_0) rfl k) ?_
  refine own_to (s₁.setTop (mkF m 2 #[.val (.ref ar), .val (.int i), .val (.int q), .val (.ref ex), .val (.int x), .unset] [(.int q), (.int i)])) (fun t k => XS.iloadN X0.here hx rfl (hb hby d8_1) rfl k) ?_
  refine own_to (s₁.setTop (mkF m 5 #[.val (.ref ar), .val (.int i), .val (.int q), .val (.ref ex), .val (.int x), .unset] [])) (fun t k => XS.icmpNo X0.here hx rfl (hb hby d8_2) rfl (tlt h1).2.2.2 k) ?_
  refine own_to (s₁.setTop (mkF m 6 #[.val (.ref ar), .val (.int i), .val (.int q), .val (.ref ex), .val (.int x), .unset] [(.int (1 : Int32))])) (fun t k => XT.iconstV X0.here hx rfl (1 : Int32) (hb hby d8_5) (by decide) k) ?_
  exact own_retZ X0 hx hret hk (i' := (1 : Int32)) (hb hby d8_6) (by decide) (by decide) (by decide) ⟨rfl, N0, e0⟩
def Qt2 (Z : State) (ar ex : Addr) (i q x : Int32) (ca : Cell) (h0 : Heap) (n0 : Nat) (v : Option Value) (h : Heap) (L : List Loc) : Prop := v = some (.int 1) ∧ Fr n0 L ∧ h = h0
set_option maxRecDepth 65536 in
set_option maxHeartbeats 40000000 in
theorem rmt2 (l : Launch) (Z : State) (a0 : Array Value) (hw : ∀ d ∈ tables_1, d.before a0 Z = true) (ar ex : Addr) (i q x : Int32) (ca : Cell) (h0 : Heap) (n0 : Nat) (Z0 : n0 ≤ h0.size) (h1 : ¬ q < i) (h2 : ¬ i < q) (Ar : Arr Z h0 ar ca .int) (hiAr : ¬ (i < 0 ∨ ca.slots.size ≤ i.toNatClampNeg)) (haAr : ca.slots[i.toNatClampNeg]? = some (.int x)) :
    own_Ct l Z (⟨"com/example/clearance/clearance/IntColumnTruncatePinLaw", "at", "([III[II)Z"⟩ : MethodName) method_3_code 6 (some .boolean) ({ frames := 0, cells := 0, slots := 0, locals := 0 } : Room) #[(.ref ar), (.int i), (.int q), (.ref ex), (.int x)] h0 (Qt2 Z ar ex i q x ca h0 n0) := by
  refine own_body pn_8 ?_
  intro p e s m below meth cd s₁ hx hZ hby hml hown hnm hret hk X0 e0
  have N0 := Fr.nil n0
  refine own_to (s₁.setTop (mkF m 0 #[.val (.ref ar), .val (.int i), .val (.int q), .val (.ref ex), .val (.int x), .unset] [])) (fun t k => castTop (by first | (simp [entryFrame, mkF, argsToLocals, Value.category]; done) | rfl) k) ?_
  refine own_to (s₁.setTop (mkF m 1 #[.val (.ref ar), .val (.int i), .val (.int q), .val (.ref ex), .val (.int x), .unset] [(.int i)])) (fun t k => XS.iloadN X0.here hx rfl (hb hby d8_0) rfl k) ?_
  refine own_to (s₁.setTop (mkF m 2 #[.val (.ref ar), .val (.int i), .val (.int q), .val (.ref ex), .val (.int x), .unset] [(.int q), (.int i)])) (fun t k => XS.iloadN X0.here hx rfl (hb hby d8_1) rfl k) ?_
  refine own_to (s₁.setTop (mkF m 7 #[.val (.ref ar), .val (.int i), .val (.int q), .val (.ref ex), .val (.int x), .unset] [])) (fun t k => XS.icmpYes X0.here hx rfl (pc0 := 2) (pc' := 7) rfl (hb hby d8_2) rfl (flt h1).2.2.2 (by decide) (by decide) k) ?_
  refine own_to (s₁.setTop (mkF m 8 #[.val (.ref ar), .val (.int i), .val (.int q), .val (.ref ex), .val (.int x), .unset] [(.int i)])) (fun t k => XS.iloadN X0.here hx rfl (hb hby d8_7) rfl k) ?_
  refine own_to (s₁.setTop (mkF m 9 #[.val (.ref ar), .val (.int i), .val (.int q), .val (.ref ex), .val (.int x), .unset] [(.int q), (.int i)])) (fun t k => XS.iloadN X0.here hx rfl (hb hby d8_8) rfl k) ?_
  refine own_to (s₁.setTop (mkF m 20 #[.val (.ref ar), .val (.int i), .val (.int q), .val (.ref ex), .val (.int x), .unset] [])) (fun t k => XS.icmpYes X0.here hx rfl (pc0 := 9) (pc' := 20) rfl (hb hby d8_9) rfl (flt h2).2.1 (by decide) (by decide) k) ?_
  refine own_to (s₁.setTop (mkF m 22 #[.val (.ref ar), .val (.int i), .val (.int q), .val (.ref ex), .val (.int x), .unset] [(.int x)])) (fun t k => XS.iload X0.here hx rfl (hb hby d8_20) rfl k) ?_
  refine own_to (s₁.setTop (mkF m 24 #[.val (.ref ar), .val (.int i), .val (.int q), .val (.ref ex), .val (.int x), .val (.int x)] [])) (fun t k => XS.istore X0.here hx rfl (hb hby d8_22) rfl (l' := #[.val (.ref ar), .val (.int i), .val (.int q), .val (.ref ex), .val (.int x), .val (.int x)]) rfl k) ?_
  refine own_to (s₁.setTop (mkF m 25 #[.val (.ref ar), .val (.int i), .val (.int q), .val (.ref ex), .val (.int x), .val (.int x)] [(.ref ar)])) (fun t k => XS.aloadN X0.here hx rfl (hb hby d8_24) rfl rfl k) ?_
  refine own_to (s₁.setTop (mkF m 26 #[.val (.ref ar), .val (.int i), .val (.int q), .val (.ref ex), .val (.int x), .val (.int x)] [(.int i), (.ref ar)])) (fun t k => XS.iloadN X0.here hx rfl (hb hby d8_25) rfl k) ?_
  refine own_to (s₁.setTop (mkF m 27 #[.val (.ref ar), .val (.int i), .val (.int q), .val (.ref ex), .val (.int x), .val (.int x)] [(.int x)])) (fun t k => X0.iaload hx (j := i) (v := (.int x)) (by rw [e0]; exact Ar.1) (State.isArrayOf_alike hZ.alike Ar.2.1) Ar.2.2 hiAr haAr (g := (mkF m 26 #[.val (.ref ar), .val (.int i), .val (.int q), .val (.ref ex), .val (.int x), .val (.int x)] [(.int i), (.ref ar)])) rfl rfl (hb hby d8_26) t k) ?_
  refine own_to (s₁.setTop (mkF m 29 #[.val (.ref ar), .val (.int i), .val (.int q), .val (.ref ex), .val (.int x), .val (.int x)] [(.int x), (.int x)])) (fun t k => XS.iload X0.here hx rfl (hb hby d8_27) rfl k) ?_
  refine own_to (s₁.setTop (mkF m 32 #[.val (.ref ar), .val (.int i), .val (.int q), .val (.ref ex), .val (.int x), .val (.int x)] [])) (fun t k => XS.icmpNo X0.here hx rfl (hb hby d8_29) rfl (teq rfl).2 k) ?_
  refine own_to (s₁.setTop (mkF m 33 #[.val (.ref ar), .val (.int i), .val (.int q), .val (.ref ex), .val (.int x), .val (.int x)] [(.int (1 : Int32))])) (fun t k => XT.iconstV X0.here hx rfl (1 : Int32) (hb hby d8_32) (by decide) k) ?_
  refine own_to (s₁.setTop (mkF m 37 #[.val (.ref ar), .val (.int i), .val (.int q), .val (.ref ex), .val (.int x), .val (.int x)] [(.int (1 : Int32))])) (fun t k => XS.goto X0.here hx rfl (pc0 := 33) (pc' := 37) rfl (hb hby d8_33) (by decide) (by decide) k) ?_
  exact own_retZ X0 hx hret hk (i' := (1 : Int32)) (hb hby d8_37) (by decide) (by decide) (by decide) ⟨rfl, N0, e0⟩
def Qt3 (Z : State) (ar ex : Addr) (i q x : Int32) (ca ce : Cell) (z : Int32) (h0 : Heap) (n0 : Nat) (v : Option Value) (h : Heap) (L : List Loc) : Prop := v = some (.int 1) ∧ Fr n0 L ∧ h = h0
set_option maxRecDepth 65536 in
set_option maxHeartbeats 40000000 in
theorem rmt3 (l : Launch) (Z : State) (a0 : Array Value) (hw : ∀ d ∈ tables_1, d.before a0 Z = true) (ar ex : Addr) (i q x : Int32) (ca ce : Cell) (z : Int32) (h0 : Heap) (n0 : Nat) (Z0 : n0 ≤ h0.size) (h1 : ¬ q < i) (h2 : i < q) (Ar : Arr Z h0 ar ca .int) (hiAr : ¬ (i < 0 ∨ ca.slots.size ≤ i.toNatClampNeg)) (haAr : ca.slots[i.toNatClampNeg]? = some (.int z)) (Ae : Arr Z h0 ex ce .int) (hiAe : ¬ (i < 0 ∨ ce.slots.size ≤ i.toNatClampNeg)) (haAe : ce.slots[i.toNatClampNeg]? = some (.int z)) :
    own_Ct l Z (⟨"com/example/clearance/clearance/IntColumnTruncatePinLaw", "at", "([III[II)Z"⟩ : MethodName) method_3_code 6 (some .boolean) ({ frames := 0, cells := 0, slots := 0, locals := 0 } : Room) #[(.ref ar), (.int i), (.int q), (.ref ex), (.int x)] h0 (Qt3 Z ar ex i q x ca ce z h0 n0) := by
  refine own_body pn_8 ?_
  intro p e s m below meth cd s₁ hx hZ hby hml hown hnm hret hk X0 e0
  have N0 := Fr.nil n0
  refine own_to (s₁.setTop (mkF m 0 #[.val (.ref ar), .val (.int i), .val (.int q), .val (.ref ex), .val (.int x), .unset] [])) (fun t k => castTop (by first | (simp [entryFrame, mkF, argsToLocals, Value.category]; done) | rfl) k) ?_
  refine own_to (s₁.setTop (mkF m 1 #[.val (.ref ar), .val (.int i), .val (.int q), .val (.ref ex), .val (.int x), .unset] [(.int i)])) (fun t k => XS.iloadN X0.here hx rfl (hb hby d8_0) rfl k) ?_
  refine own_to (s₁.setTop (mkF m 2 #[.val (.ref ar), .val (.int i), .val (.int q), .val (.ref ex), .val (.int x), .unset] [(.int q), (.int i)])) (fun t k => XS.iloadN X0.here hx rfl (hb hby d8_1) rfl k) ?_
  refine own_to (s₁.setTop (mkF m 7 #[.val (.ref ar), .val (.int i), .val (.int q), .val (.ref ex), .val (.int x), .unset] [])) (fun t k => XS.icmpYes X0.here hx rfl (pc0 := 2) (pc' := 7) rfl (hb hby d8_2) rfl (flt h1).2.2.2 (by decide) (by decide) k) ?_
  refine own_to (s₁.setTop (mkF m 8 #[.val (.ref ar), .val (.int i), .val (.int q), .val (.ref ex), .val (.int x), .unset] [(.int i)])) (fun t k => XS.iloadN X0.here hx rfl (hb hby d8_7) rfl k) ?_
  refine own_to (s₁.setTop (mkF m 9 #[.val (.ref ar), .val (.int i), .val (.int q), .val (.ref ex), .val (.int x), .unset] [(.int q), (.int i)])) (fun t k => XS.iloadN X0.here hx rfl (hb hby d8_8) rfl k) ?_
  refine own_to (s₁.setTop (mkF m 12 #[.val (.ref ar), .val (.int i), .val (.int q), .val (.ref ex), .val (.int x), .unset] [])) (fun t k => XS.icmpNo X0.here hx rfl (hb hby d8_9) rfl (tlt h2).2.1 k) ?_
  refine own_to (s₁.setTop (mkF m 13 #[.val (.ref ar), .val (.int i), .val (.int q), .val (.ref ex), .val (.int x), .unset] [(.ref ex)])) (fun t k => XS.aloadN X0.here hx rfl (hb hby d8_12) rfl rfl k) ?_
  refine own_to (s₁.setTop (mkF m 14 #[.val (.ref ar), .val (.int i), .val (.int q), .val (.ref ex), .val (.int x), .unset] [(.int i), (.ref ex)])) (fun t k => XS.iloadN X0.here hx rfl (hb hby d8_13) rfl k) ?_
  refine own_to (s₁.setTop (mkF m 15 #[.val (.ref ar), .val (.int i), .val (.int q), .val (.ref ex), .val (.int x), .unset] [(.int z)])) (fun t k => X0.iaload hx (j := i) (v := (.int z)) (by rw [e0]; exact Ae.1) (State.isArrayOf_alike hZ.alike Ae.2.1) Ae.2.2 hiAe haAe (g := (mkF m 14 #[.val (.ref ar), .val (.int i), .val (.int q), .val (.ref ex), .val (.int x), .unset] [(.int i), (.ref ex)])) rfl rfl (hb hby d8_14) t k) ?_
  refine own_to (s₁.setTop (mkF m 17 #[.val (.ref ar), .val (.int i), .val (.int q), .val (.ref ex), .val (.int x), .val (.int z)] [])) (fun t k => XS.istore X0.here hx rfl (hb hby d8_15) rfl (l' := #[.val (.ref ar), .val (.int i), .val (.int q), .val (.ref ex), .val (.int x), .val (.int z)]) rfl k) ?_
  refine own_to (s₁.setTop (mkF m 24 #[.val (.ref ar), .val (.int i), .val (.int q), .val (.ref ex), .val (.int x), .val (.int z)] [])) (fun t k => XS.goto X0.here hx rfl (pc0 := 17) (pc' := 24) rfl (hb hby d8_17) (by decide) (by decide) k) ?_
  refine own_to (s₁.setTop (mkF m 25 #[.val (.ref ar), .val (.int i), .val (.int q), .val (.ref ex), .val (.int x), .val (.int z)] [(.ref ar)])) (fun t k => XS.aloadN X0.here hx rfl (hb hby d8_24) rfl rfl k) ?_
  refine own_to (s₁.setTop (mkF m 26 #[.val (.ref ar), .val (.int i), .val (.int q), .val (.ref ex), .val (.int x), .val (.int z)] [(.int i), (.ref ar)])) (fun t k => XS.iloadN X0.here hx rfl (hb hby d8_25) rfl k) ?_
  refine own_to (s₁.setTop (mkF m 27 #[.val (.ref ar), .val (.int i), .val (.int q), .val (.ref ex), .val (.int x), .val (.int z)] [(.int z)])) (fun t k => X0.iaload hx (j := i) (v := (.int z)) (by rw [e0]; exact Ar.1) (State.isArrayOf_alike hZ.alike Ar.2.1) Ar.2.2 hiAr haAr (g := (mkF m 26 #[.val (.ref ar), .val (.int i), .val (.int q), .val (.ref ex), .val (.int x), .val (.int z)] [(.int i), (.ref ar)])) rfl rfl (hb hby d8_26) t k) ?_
  refine own_to (s₁.setTop (mkF m 29 #[.val (.ref ar), .val (.int i), .val (.int q), .val (.ref ex), .val (.int x), .val (.int z)] [(.int z), (.int z)])) (fun t k => XS.iload X0.here hx rfl (hb hby d8_27) rfl k) ?_
  refine own_to (s₁.setTop (mkF m 32 #[.val (.ref ar), .val (.int i), .val (.int q), .val (.ref ex), .val (.int x), .val (.int z)] [])) (fun t k => XS.icmpNo X0.here hx rfl (hb hby d8_29) rfl (teq rfl).2 k) ?_
  refine own_to (s₁.setTop (mkF m 33 #[.val (.ref ar), .val (.int i), .val (.int q), .val (.ref ex), .val (.int x), .val (.int z)] [(.int (1 : Int32))])) (fun t k => XT.iconstV X0.here hx rfl (1 : Int32) (hb hby d8_32) (by decide) k) ?_
  refine own_to (s₁.setTop (mkF m 37 #[.val (.ref ar), .val (.int i), .val (.int q), .val (.ref ex), .val (.int x), .val (.int z)] [(.int (1 : Int32))])) (fun t k => XS.goto X0.here hx rfl (pc0 := 33) (pc' := 37) rfl (hb hby d8_33) (by decide) (by decide) k) ?_
  exact own_retZ X0 hx hret hk (i' := (1 : Int32)) (hb hby d8_37) (by decide) (by decide) (by decide) ⟨rfl, N0, e0⟩
theorem own_five (q : Int32) : (q &&& (2147483647 : Int32)) % (5 : Int32) = 0 ∨ (q &&& (2147483647 : Int32)) % (5 : Int32) = 1 ∨ (q &&& (2147483647 : Int32)) % (5 : Int32) = 2 ∨ (q &&& (2147483647 : Int32)) % (5 : Int32) = 3 ∨ (q &&& (2147483647 : Int32)) % (5 : Int32) = 4 := by
  have h1 := c_and q 2147483647 (by decide)
  have h2 := (c_irem (q &&& 2147483647) 5 5 (by decide)).1 h1.1
  generalize ((q &&& 2147483647) % 5) = i at *
  have h3 : i.toInt = 0 ∨ i.toInt = 1 ∨ i.toInt = 2 ∨ i.toInt = 3 ∨ i.toInt = 4 := by omega
  rcases h3 with h | h | h | h | h
  · exact Or.inl (Int32.toInt_inj.mp h)
  · exact Or.inr (Or.inl (Int32.toInt_inj.mp h))
  · exact Or.inr (Or.inr (Or.inl (Int32.toInt_inj.mp h)))
  · exact Or.inr (Or.inr (Or.inr (Or.inl (Int32.toInt_inj.mp h))))
  · exact Or.inr (Or.inr (Or.inr (Or.inr (Int32.toInt_inj.mp h))))
theorem ef_0 (m : MethodId) (x0 : Int32) (x1 : Int32) (x2 : Int32) (x3 : Int32) (x4 : Int32) (x5 : Int32) : entryFrame m #[(.int x0), (.int x1), (.int x2), (.int x3), (.int x4), (.int x5)] maxLocals = mkF m 0 #[.val (.int x0), .val (.int x1), .val (.int x2), .val (.int x3), .val (.int x4), .val (.int x5), .unset, .unset, .unset, .unset, .unset] [] := by first | (simp [entryFrame, mkF, argsToLocals, Value.category, maxLocals]; done) | rfl
def Q0 (Z : State) (y0 y1 y2 y3 y4 y5 : Int32) (h0 : Heap) (n0 : Nat) (v : Option Value) (h : Heap) (L : List Loc) : Prop := v = some (.int 1) ∧ Fr n0 L
set_option maxRecDepth 65536 in
set_option maxHeartbeats 40000000 in
theorem rm0 (l : Launch) (Z : State) (a0 : Array Value) (hw : ∀ d ∈ tables_1, d.before a0 Z = true) (y0 y1 y2 y3 y4 y5 : Int32) (h0 : Heap) (n0 : Nat) (Z0 : n0 ≤ h0.size)  :
    own_Ct l Z x code maxLocals ret room_1 #[(.int y0), (.int y1), (.int y2), (.int y3), (.int y4), (.int y5)] h0 (Q0 Z y0 y1 y2 y3 y4 y5 h0 n0) := by
  refine own_body pn_0 ?_
  intro p e s m below meth cd s₁ hx hZ hby hml hown hnm hret hk X0 e0
  have N0 := Fr.nil n0
  refine own_to (s₁.setTop (mkF m 0 #[.val (.int y0), .val (.int y1), .val (.int y2), .val (.int y3), .val (.int y4), .val (.int y5), .unset, .unset, .unset, .unset, .unset] [])) (fun t k => castTop (ef_0 m y0 y1 y2 y3 y4 y5) k) ?_
  obtain ⟨T11, h11, X11, e11, E11, A11, D11, -, st11⟩ := newO X0 hx hZ hown (hw _ (List.mem_of_getElem? (i := 0) rfl)) (hw _ (List.mem_of_getElem? (i := 1) rfl)) (hw _ (List.mem_of_getElem? (i := 2) rfl)) e0 (g := (mkF m 0 #[.val (.int y0), .val (.int y1), .val (.int y2), .val (.int y3), .val (.int y4), .val (.int y5), .unset, .unset, .unset, .unset, .unset] [])) rfl (hb hby at_0) (by decide) (by decide)
  obtain ⟨a11, g11⟩ : ∃ z, z = h0.size := ⟨_, rfl⟩
  rw [← g11] at A11 D11 st11
  have Z11 : n0 ≤ h11.size := Nat.le_trans Z0 E11.1
  have ge11 : n0 ≤ a11 := Nat.le_trans Z0 (Nat.le_of_eq g11.symm)
  have F12 : Fld Z h11 a11 "com/example/clearance/clearance/IntColumn" "blocks" "[[I" .null := D11 (Or.inl (hw _ (List.mem_of_getElem? (i := 12) rfl))) (ty := (.array (.array .int))) (by rfl)
  have F13 : Fld Z h11 a11 "com/example/clearance/clearance/IntColumn" "size" "I" (.int (0 : Int32)) := D11 (Or.inl (hw _ (List.mem_of_getElem? (i := 19) rfl))) (ty := .int) (by decide)
  refine own_to (T11.setTop (mkF m 3 #[.val (.int y0), .val (.int y1), .val (.int y2), .val (.int y3), .val (.int y4), .val (.int y5), .unset, .unset, .unset, .unset, .unset] [(.ref a11)])) (fun t k => st11 t k) ?_
  refine own_to (T11.setTop (mkF m 4 #[.val (.int y0), .val (.int y1), .val (.int y2), .val (.int y3), .val (.int y4), .val (.int y5), .unset, .unset, .unset, .unset, .unset] [(.ref a11), (.ref a11)])) (fun t k => XS.dup X11.here hx rfl (hb hby at_3) rfl rfl k) ?_
  obtain ⟨v14, T14, L14, X14, hQ14, st14⟩ := own_callN X11 hx hZ hown rfl (hw _ (List.mem_of_getElem? (i := 3) rfl)) (hw _ (List.mem_of_getElem? (i := 4) rfl)) (hw _ (List.mem_of_getElem? (i := 5) rfl)) (hw _ (List.mem_of_getElem? (i := 2) rfl)) (by decide) e11 (b := a11) (argsL := []) (rest := [(.ref a11)]) (rmI l Z a0 hw a11 h11 n0 Z11 ge11 A11 F12 F13) (by decide) (W := 1) (by decide) (by decide) (by decide) pd_1 rfl (pc := 4) (Ls := #[.val (.int y0), .val (.int y1), .val (.int y2), .val (.int y3), .val (.int y4), .val (.int y5), .unset, .unset, .unset, .unset, .unset]) (by rw [hml]; rfl) (Nat.le_of_eq rfl) (hb hby at_4)
  obtain ⟨h14, e14⟩ : ∃ z, T14.heap = z := ⟨_, rfl⟩
  rw [e14] at hQ14
  obtain ⟨pg14, kp14, rfl, M14, St14, Na14, Z14⟩ := hQ14
  have N14 := Fr.app N0 M14
  refine own_to (T14.setTop (mkF m 7 #[.val (.int y0), .val (.int y1), .val (.int y2), .val (.int y3), .val (.int y4), .val (.int y5), .unset, .unset, .unset, .unset, .unset] [(.ref a11)])) (fun t k => st14 t k) ?_
  refine own_to (T14.setTop (mkF m 9 #[.val (.int y0), .val (.int y1), .val (.int y2), .val (.int y3), .val (.int y4), .val (.int y5), .val (.ref a11), .unset, .unset, .unset, .unset] [])) (fun t k => XS.astore X14.here hx rfl (hb hby at_7) rfl rfl (l' := #[.val (.int y0), .val (.int y1), .val (.int y2), .val (.int y3), .val (.int y4), .val (.int y5), .val (.ref a11), .unset, .unset, .unset, .unset]) rfl k) ?_
  refine own_to (T14.setTop (mkF m 11 #[.val (.int y0), .val (.int y1), .val (.int y2), .val (.int y3), .val (.int y4), .val (.int y5), .val (.ref a11), .unset, .unset, .unset, .unset] [(.ref a11)])) (fun t k => XS.aload X14.here hx rfl (hb hby at_9) rfl rfl k) ?_
  refine own_to (T14.setTop (mkF m 12 #[.val (.int y0), .val (.int y1), .val (.int y2), .val (.int y3), .val (.int y4), .val (.int y5), .val (.ref a11), .unset, .unset, .unset, .unset] [(.int y0), (.ref a11)])) (fun t k => XS.iloadN X14.here hx rfl (hb hby at_11) rfl k) ?_
  obtain ⟨v15, T15, L15, X15, hQ15, st15⟩ := own_callV X14 hx hZ hown (hw _ (List.mem_of_getElem? (i := 13) rfl)) (hw _ (List.mem_of_getElem? (i := 14) rfl)) (hw _ (List.mem_of_getElem? (i := 16) rfl)) (notFace_of_selects (args := #[]) (mvT hZ (hw _ (List.mem_of_getElem? (i := 16) rfl)))) (hw _ (List.mem_of_getElem? (i := 15) rfl)) (hw _ (List.mem_of_getElem? (i := 17) rfl)) (hw _ (List.mem_of_getElem? (i := 2) rfl)) (by decide) e14 St14.1 (argsL := [(.int y0)]) (rest := []) (rmA0 l Z a0 hw a11 pg14 kp14 y0 h14 n0 Z14 St14 Na14) (by decide) (W := 0) (by decide) (by decide) (by decide) pd_3 rfl (pc := 12) (Ls := #[.val (.int y0), .val (.int y1), .val (.int y2), .val (.int y3), .val (.int y4), .val (.int y5), .val (.ref a11), .unset, .unset, .unset, .unset]) (by rw [hml]; rfl) (Nat.le_of_eq rfl) (hb hby at_12)
  obtain ⟨h15, e15⟩ : ∃ z, T15.heap = z := ⟨_, rfl⟩
  rw [e15] at hQ15
  obtain ⟨bk15, kb15, rfl, M15, St15, Nb15, Z15⟩ := hQ15
  have N15 := Fr.app N14 M15
  refine own_to (T15.setTop (mkF m 15 #[.val (.int y0), .val (.int y1), .val (.int y2), .val (.int y3), .val (.int y4), .val (.int y5), .val (.ref a11), .unset, .unset, .unset, .unset] [(.int (0 : Int32))])) (fun t k => st15 t k) ?_
  refine own_to (T15.setTop (mkF m 16 #[.val (.int y0), .val (.int y1), .val (.int y2), .val (.int y3), .val (.int y4), .val (.int y5), .val (.ref a11), .unset, .unset, .unset, .unset] [])) (fun t k => XT.pop X15.here hx rfl (hb hby at_15) rfl rfl k) ?_
  refine own_to (T15.setTop (mkF m 18 #[.val (.int y0), .val (.int y1), .val (.int y2), .val (.int y3), .val (.int y4), .val (.int y5), .val (.ref a11), .unset, .unset, .unset, .unset] [(.ref a11)])) (fun t k => XS.aload X15.here hx rfl (hb hby at_16) rfl rfl k) ?_
  refine own_to (T15.setTop (mkF m 19 #[.val (.int y0), .val (.int y1), .val (.int y2), .val (.int y3), .val (.int y4), .val (.int y5), .val (.ref a11), .unset, .unset, .unset, .unset] [(.int y1), (.ref a11)])) (fun t k => XS.iloadN X15.here hx rfl (hb hby at_18) rfl k) ?_
  obtain ⟨v16, T16, L16, X16, hQ16, st16⟩ := own_callV X15 hx hZ hown (hw _ (List.mem_of_getElem? (i := 13) rfl)) (hw _ (List.mem_of_getElem? (i := 14) rfl)) (hw _ (List.mem_of_getElem? (i := 16) rfl)) (notFace_of_selects (args := #[]) (mvT hZ (hw _ (List.mem_of_getElem? (i := 16) rfl)))) (hw _ (List.mem_of_getElem? (i := 15) rfl)) (hw _ (List.mem_of_getElem? (i := 17) rfl)) (hw _ (List.mem_of_getElem? (i := 2) rfl)) (by decide) e15 St15.1 (argsL := [(.int y1)]) (rest := []) (rmA1 l Z a0 hw a11 pg14 bk15 kp14 kb15 y0 0 0 0 0 y1 h15 n0 Z15 St15 Na14 Nb15) (by decide) (W := 0) (by decide) (by decide) (by decide) pd_3 rfl (pc := 19) (Ls := #[.val (.int y0), .val (.int y1), .val (.int y2), .val (.int y3), .val (.int y4), .val (.int y5), .val (.ref a11), .unset, .unset, .unset, .unset]) (by rw [hml]; rfl) (Nat.le_of_eq rfl) (hb hby at_19)
  obtain ⟨h16, e16⟩ : ∃ z, T16.heap = z := ⟨_, rfl⟩
  rw [e16] at hQ16
  obtain ⟨rfl, M16, St16, Z16⟩ := hQ16
  have N16 := Fr.app N15 M16
  refine own_to (T16.setTop (mkF m 22 #[.val (.int y0), .val (.int y1), .val (.int y2), .val (.int y3), .val (.int y4), .val (.int y5), .val (.ref a11), .unset, .unset, .unset, .unset] [(.int (1 : Int32))])) (fun t k => st16 t k) ?_
  refine own_to (T16.setTop (mkF m 23 #[.val (.int y0), .val (.int y1), .val (.int y2), .val (.int y3), .val (.int y4), .val (.int y5), .val (.ref a11), .unset, .unset, .unset, .unset] [])) (fun t k => XT.pop X16.here hx rfl (hb hby at_22) rfl rfl k) ?_
  refine own_to (T16.setTop (mkF m 25 #[.val (.int y0), .val (.int y1), .val (.int y2), .val (.int y3), .val (.int y4), .val (.int y5), .val (.ref a11), .unset, .unset, .unset, .unset] [(.ref a11)])) (fun t k => XS.aload X16.here hx rfl (hb hby at_23) rfl rfl k) ?_
  refine own_to (T16.setTop (mkF m 26 #[.val (.int y0), .val (.int y1), .val (.int y2), .val (.int y3), .val (.int y4), .val (.int y5), .val (.ref a11), .unset, .unset, .unset, .unset] [(.int y2), (.ref a11)])) (fun t k => XS.iloadN X16.here hx rfl (hb hby at_25) rfl k) ?_
  obtain ⟨v17, T17, L17, X17, hQ17, st17⟩ := own_callV X16 hx hZ hown (hw _ (List.mem_of_getElem? (i := 13) rfl)) (hw _ (List.mem_of_getElem? (i := 14) rfl)) (hw _ (List.mem_of_getElem? (i := 16) rfl)) (notFace_of_selects (args := #[]) (mvT hZ (hw _ (List.mem_of_getElem? (i := 16) rfl)))) (hw _ (List.mem_of_getElem? (i := 15) rfl)) (hw _ (List.mem_of_getElem? (i := 17) rfl)) (hw _ (List.mem_of_getElem? (i := 2) rfl)) (by decide) e16 St16.1 (argsL := [(.int y2)]) (rest := []) (rmA2 l Z a0 hw a11 pg14 bk15 kp14 kb15 y0 y1 0 0 0 y2 h16 n0 Z16 St16 Na14 Nb15) (by decide) (W := 0) (by decide) (by decide) (by decide) pd_3 rfl (pc := 26) (Ls := #[.val (.int y0), .val (.int y1), .val (.int y2), .val (.int y3), .val (.int y4), .val (.int y5), .val (.ref a11), .unset, .unset, .unset, .unset]) (by rw [hml]; rfl) (Nat.le_of_eq rfl) (hb hby at_26)
  obtain ⟨h17, e17⟩ : ∃ z, T17.heap = z := ⟨_, rfl⟩
  rw [e17] at hQ17
  obtain ⟨rfl, M17, St17, Z17⟩ := hQ17
  have N17 := Fr.app N16 M17
  refine own_to (T17.setTop (mkF m 29 #[.val (.int y0), .val (.int y1), .val (.int y2), .val (.int y3), .val (.int y4), .val (.int y5), .val (.ref a11), .unset, .unset, .unset, .unset] [(.int (2 : Int32))])) (fun t k => st17 t k) ?_
  refine own_to (T17.setTop (mkF m 30 #[.val (.int y0), .val (.int y1), .val (.int y2), .val (.int y3), .val (.int y4), .val (.int y5), .val (.ref a11), .unset, .unset, .unset, .unset] [])) (fun t k => XT.pop X17.here hx rfl (hb hby at_29) rfl rfl k) ?_
  refine own_to (T17.setTop (mkF m 32 #[.val (.int y0), .val (.int y1), .val (.int y2), .val (.int y3), .val (.int y4), .val (.int y5), .val (.ref a11), .unset, .unset, .unset, .unset] [(.ref a11)])) (fun t k => XS.aload X17.here hx rfl (hb hby at_30) rfl rfl k) ?_
  refine own_to (T17.setTop (mkF m 33 #[.val (.int y0), .val (.int y1), .val (.int y2), .val (.int y3), .val (.int y4), .val (.int y5), .val (.ref a11), .unset, .unset, .unset, .unset] [(.int y3), (.ref a11)])) (fun t k => XS.iloadN X17.here hx rfl (hb hby at_32) rfl k) ?_
  obtain ⟨v18, T18, L18, X18, hQ18, st18⟩ := own_callV X17 hx hZ hown (hw _ (List.mem_of_getElem? (i := 13) rfl)) (hw _ (List.mem_of_getElem? (i := 14) rfl)) (hw _ (List.mem_of_getElem? (i := 16) rfl)) (notFace_of_selects (args := #[]) (mvT hZ (hw _ (List.mem_of_getElem? (i := 16) rfl)))) (hw _ (List.mem_of_getElem? (i := 15) rfl)) (hw _ (List.mem_of_getElem? (i := 17) rfl)) (hw _ (List.mem_of_getElem? (i := 2) rfl)) (by decide) e17 St17.1 (argsL := [(.int y3)]) (rest := []) (rmA3 l Z a0 hw a11 pg14 bk15 kp14 kb15 y0 y1 y2 0 0 y3 h17 n0 Z17 St17 Na14 Nb15) (by decide) (W := 0) (by decide) (by decide) (by decide) pd_3 rfl (pc := 33) (Ls := #[.val (.int y0), .val (.int y1), .val (.int y2), .val (.int y3), .val (.int y4), .val (.int y5), .val (.ref a11), .unset, .unset, .unset, .unset]) (by rw [hml]; rfl) (Nat.le_of_eq rfl) (hb hby at_33)
  obtain ⟨h18, e18⟩ : ∃ z, T18.heap = z := ⟨_, rfl⟩
  rw [e18] at hQ18
  obtain ⟨rfl, M18, St18, Z18⟩ := hQ18
  have N18 := Fr.app N17 M18
  refine own_to (T18.setTop (mkF m 36 #[.val (.int y0), .val (.int y1), .val (.int y2), .val (.int y3), .val (.int y4), .val (.int y5), .val (.ref a11), .unset, .unset, .unset, .unset] [(.int (3 : Int32))])) (fun t k => st18 t k) ?_
  refine own_to (T18.setTop (mkF m 37 #[.val (.int y0), .val (.int y1), .val (.int y2), .val (.int y3), .val (.int y4), .val (.int y5), .val (.ref a11), .unset, .unset, .unset, .unset] [])) (fun t k => XT.pop X18.here hx rfl (hb hby at_36) rfl rfl k) ?_
  refine own_to (T18.setTop (mkF m 39 #[.val (.int y0), .val (.int y1), .val (.int y2), .val (.int y3), .val (.int y4), .val (.int y5), .val (.ref a11), .unset, .unset, .unset, .unset] [(.int y5)])) (fun t k => XS.iload X18.here hx rfl (hb hby at_37) rfl k) ?_
  refine own_to (T18.setTop (mkF m 41 #[.val (.int y0), .val (.int y1), .val (.int y2), .val (.int y3), .val (.int y4), .val (.int y5), .val (.ref a11), .unset, .unset, .unset, .unset] [(.int (2147483647 : Int32)), (.int y5)])) (fun t k => X18.ldcI hx hown (mvT hZ (hw _ (List.mem_of_getElem? (i := 22) rfl))) rfl (hb hby at_39) k) ?_
  refine own_to (T18.setTop (mkF m 42 #[.val (.int y0), .val (.int y1), .val (.int y2), .val (.int y3), .val (.int y4), .val (.int y5), .val (.ref a11), .unset, .unset, .unset, .unset] [(.int (y5 &&& (2147483647 : Int32)))])) (fun t k => XS.iand X18.here hx rfl (hb hby at_41) rfl k) ?_
  refine own_to (T18.setTop (mkF m 43 #[.val (.int y0), .val (.int y1), .val (.int y2), .val (.int y3), .val (.int y4), .val (.int y5), .val (.ref a11), .unset, .unset, .unset, .unset] [(.int (5 : Int32)), (.int (y5 &&& (2147483647 : Int32)))])) (fun t k => XT.iconstV X18.here hx rfl (5 : Int32) (hb hby at_42) (by decide) k) ?_
  rcases own_five y5 with h5 | h5 | h5 | h5 | h5
  · -- k = 0
    refine own_to (T18.setTop (mkF m 44 #[.val (.int y0), .val (.int y1), .val (.int y2), .val (.int y3), .val (.int y4), .val (.int y5), .val (.ref a11), .unset, .unset, .unset, .unset] [(.int (0 : Int32))])) (fun t k => iremM X18 hx rfl (hb hby at_43) rfl (by decide) (by rw [h5]; exact k)) ?_
    refine own_to (T18.setTop (mkF m 46 #[.val (.int y0), .val (.int y1), .val (.int y2), .val (.int y3), .val (.int y4), .val (.int y5), .val (.ref a11), .val (.int (0 : Int32)), .unset, .unset, .unset] [])) (fun t k => XS.istore X18.here hx rfl (hb hby at_44) rfl (l' := #[.val (.int y0), .val (.int y1), .val (.int y2), .val (.int y3), .val (.int y4), .val (.int y5), .val (.ref a11), .val (.int (0 : Int32)), .unset, .unset, .unset]) rfl k) ?_
    refine own_to (T18.setTop (mkF m 48 #[.val (.int y0), .val (.int y1), .val (.int y2), .val (.int y3), .val (.int y4), .val (.int y5), .val (.ref a11), .val (.int (0 : Int32)), .unset, .unset, .unset] [(.ref a11)])) (fun t k => XS.aload X18.here hx rfl (hb hby at_46) rfl rfl k) ?_
    refine own_to (T18.setTop (mkF m 50 #[.val (.int y0), .val (.int y1), .val (.int y2), .val (.int y3), .val (.int y4), .val (.int y5), .val (.ref a11), .val (.int (0 : Int32)), .unset, .unset, .unset] [(.int (0 : Int32)), (.ref a11)])) (fun t k => XS.iload X18.here hx rfl (hb hby at_48) rfl k) ?_
    obtain ⟨v19, T19, L19, X19, hQ19, st19⟩ := own_callV X18 hx hZ hown (hw _ (List.mem_of_getElem? (i := 23) rfl)) (hw _ (List.mem_of_getElem? (i := 24) rfl)) (hw _ (List.mem_of_getElem? (i := 26) rfl)) (notFace_of_selects (args := #[]) (mvT hZ (hw _ (List.mem_of_getElem? (i := 26) rfl)))) (hw _ (List.mem_of_getElem? (i := 25) rfl)) (hw _ (List.mem_of_getElem? (i := 27) rfl)) (hw _ (List.mem_of_getElem? (i := 2) rfl)) (by decide) e18 St18.1 (argsL := [(.int (0 : Int32))]) (rest := []) (rmT0 l Z a0 hw a11 pg14 bk15 kp14 kb15 y0 y1 y2 y3 0 h18 n0 Z18 St18 Na14 Nb15) (by decide) (W := 0) (by decide) (by decide) (by decide) pd_4 rfl (pc := 50) (Ls := #[.val (.int y0), .val (.int y1), .val (.int y2), .val (.int y3), .val (.int y4), .val (.int y5), .val (.ref a11), .val (.int (0 : Int32)), .unset, .unset, .unset]) (by rw [hml]; rfl) (Nat.le_of_eq rfl) (hb hby at_50)
    obtain ⟨h19, e19⟩ : ∃ z, T19.heap = z := ⟨_, rfl⟩
    rw [e19] at hQ19
    obtain ⟨rfl, M19, St19, Z19⟩ := hQ19
    have N19 := Fr.app N18 M19
    refine own_to (T19.setTop (mkF m 53 #[.val (.int y0), .val (.int y1), .val (.int y2), .val (.int y3), .val (.int y4), .val (.int y5), .val (.ref a11), .val (.int (0 : Int32)), .unset, .unset, .unset] [])) (fun t k => st19 t k) ?_
    refine own_to (T19.setTop (mkF m 55 #[.val (.int y0), .val (.int y1), .val (.int y2), .val (.int y3), .val (.int y4), .val (.int y5), .val (.ref a11), .val (.int (0 : Int32)), .unset, .unset, .unset] [(.ref a11)])) (fun t k => XS.aload X19.here hx rfl (hb hby at_53) rfl rfl k) ?_
    obtain ⟨v20, T20, L20, X20, hQ20, st20⟩ := own_callV X19 hx hZ hown (hw _ (List.mem_of_getElem? (i := 28) rfl)) (hw _ (List.mem_of_getElem? (i := 29) rfl)) (hw _ (List.mem_of_getElem? (i := 31) rfl)) (notFace_of_selects (args := #[]) (mvT hZ (hw _ (List.mem_of_getElem? (i := 31) rfl)))) (hw _ (List.mem_of_getElem? (i := 30) rfl)) (hw _ (List.mem_of_getElem? (i := 32) rfl)) (hw _ (List.mem_of_getElem? (i := 2) rfl)) (by decide) e19 St19.1 (argsL := []) (rest := []) (rmS l Z a0 hw a11 0 h19 n0 Z19 St19.2.2.1) (by decide) (W := 0) (by decide) (by decide) (by decide) pd_5 rfl (pc := 55) (Ls := #[.val (.int y0), .val (.int y1), .val (.int y2), .val (.int y3), .val (.int y4), .val (.int y5), .val (.ref a11), .val (.int (0 : Int32)), .unset, .unset, .unset]) (by rw [hml]; rfl) (Nat.le_of_eq rfl) (hb hby at_55)
    obtain ⟨rfl, M20, e20⟩ := hQ20
    have N20 := Fr.app N19 M20
    refine own_to (T20.setTop (mkF m 58 #[.val (.int y0), .val (.int y1), .val (.int y2), .val (.int y3), .val (.int y4), .val (.int y5), .val (.ref a11), .val (.int (0 : Int32)), .unset, .unset, .unset] [(.int (0 : Int32))])) (fun t k => st20 t k) ?_
    refine own_to (T20.setTop (mkF m 60 #[.val (.int y0), .val (.int y1), .val (.int y2), .val (.int y3), .val (.int y4), .val (.int y5), .val (.ref a11), .val (.int (0 : Int32)), .unset, .unset, .unset] [(.int (0 : Int32)), (.int (0 : Int32))])) (fun t k => XS.iload X20.here hx rfl (hb hby at_58) rfl k) ?_
    refine own_to (T20.setTop (mkF m 65 #[.val (.int y0), .val (.int y1), .val (.int y2), .val (.int y3), .val (.int y4), .val (.int y5), .val (.ref a11), .val (.int (0 : Int32)), .unset, .unset, .unset] [])) (fun t k => XS.icmpYes X20.here hx rfl (pc0 := 60) (pc' := 65) rfl (hb hby at_60) rfl (teq rfl).1 (by decide) (by decide) k) ?_
    refine own_to (T20.setTop (mkF m 67 #[.val (.int y0), .val (.int y1), .val (.int y2), .val (.int y3), .val (.int y4), .val (.int y5), .val (.ref a11), .val (.int (0 : Int32)), .unset, .unset, .unset] [(.ref a11)])) (fun t k => XS.aload X20.here hx rfl (hb hby at_65) rfl rfl k) ?_
    refine own_to (T20.setTop (mkF m 69 #[.val (.int y0), .val (.int y1), .val (.int y2), .val (.int y3), .val (.int y4), .val (.int y5), .val (.ref a11), .val (.int (0 : Int32)), .unset, .unset, .unset] [(.int y4), (.ref a11)])) (fun t k => XS.iload X20.here hx rfl (hb hby at_67) rfl k) ?_
    obtain ⟨v21, T21, L21, X21, hQ21, st21⟩ := own_callV X20 hx hZ hown (hw _ (List.mem_of_getElem? (i := 13) rfl)) (hw _ (List.mem_of_getElem? (i := 14) rfl)) (hw _ (List.mem_of_getElem? (i := 16) rfl)) (notFace_of_selects (args := #[]) (mvT hZ (hw _ (List.mem_of_getElem? (i := 16) rfl)))) (hw _ (List.mem_of_getElem? (i := 15) rfl)) (hw _ (List.mem_of_getElem? (i := 17) rfl)) (hw _ (List.mem_of_getElem? (i := 2) rfl)) (by decide) e20 St19.1 (argsL := [(.int y4)]) (rest := []) (rmA0 l Z a0 hw a11 pg14 kp14 y4 h19 n0 Z19 St19 Na14) (by decide) (W := 0) (by decide) (by decide) (by decide) pd_3 rfl (pc := 69) (Ls := #[.val (.int y0), .val (.int y1), .val (.int y2), .val (.int y3), .val (.int y4), .val (.int y5), .val (.ref a11), .val (.int (0 : Int32)), .unset, .unset, .unset]) (by rw [hml]; rfl) (Nat.le_of_eq rfl) (hb hby at_69)
    obtain ⟨h21, e21⟩ : ∃ z, T21.heap = z := ⟨_, rfl⟩
    rw [e21] at hQ21
    obtain ⟨bk21, kb21, rfl, M21, St21, Nb21, Z21⟩ := hQ21
    have N21 := Fr.app N20 M21
    refine own_to (T21.setTop (mkF m 72 #[.val (.int y0), .val (.int y1), .val (.int y2), .val (.int y3), .val (.int y4), .val (.int y5), .val (.ref a11), .val (.int (0 : Int32)), .unset, .unset, .unset] [(.int (0 : Int32))])) (fun t k => st21 t k) ?_
    refine own_to (T21.setTop (mkF m 74 #[.val (.int y0), .val (.int y1), .val (.int y2), .val (.int y3), .val (.int y4), .val (.int y5), .val (.ref a11), .val (.int (0 : Int32)), .val (.int (0 : Int32)), .unset, .unset] [])) (fun t k => XS.istore X21.here hx rfl (hb hby at_72) rfl (l' := #[.val (.int y0), .val (.int y1), .val (.int y2), .val (.int y3), .val (.int y4), .val (.int y5), .val (.ref a11), .val (.int (0 : Int32)), .val (.int (0 : Int32)), .unset, .unset]) rfl k) ?_
    refine own_to (T21.setTop (mkF m 76 #[.val (.int y0), .val (.int y1), .val (.int y2), .val (.int y3), .val (.int y4), .val (.int y5), .val (.ref a11), .val (.int (0 : Int32)), .val (.int (0 : Int32)), .unset, .unset] [(.int (0 : Int32))])) (fun t k => XS.iload X21.here hx rfl (hb hby at_74) rfl k) ?_
    refine own_to (T21.setTop (mkF m 78 #[.val (.int y0), .val (.int y1), .val (.int y2), .val (.int y3), .val (.int y4), .val (.int y5), .val (.ref a11), .val (.int (0 : Int32)), .val (.int (0 : Int32)), .unset, .unset] [(.int (0 : Int32)), (.int (0 : Int32))])) (fun t k => XS.iload X21.here hx rfl (hb hby at_76) rfl k) ?_
    refine own_to (T21.setTop (mkF m 83 #[.val (.int y0), .val (.int y1), .val (.int y2), .val (.int y3), .val (.int y4), .val (.int y5), .val (.ref a11), .val (.int (0 : Int32)), .val (.int (0 : Int32)), .unset, .unset] [])) (fun t k => XS.icmpYes X21.here hx rfl (pc0 := 78) (pc' := 83) rfl (hb hby at_78) rfl (teq rfl).1 (by decide) (by decide) k) ?_
    refine own_to (T21.setTop (mkF m 85 #[.val (.int y0), .val (.int y1), .val (.int y2), .val (.int y3), .val (.int y4), .val (.int y5), .val (.ref a11), .val (.int (0 : Int32)), .val (.int (0 : Int32)), .unset, .unset] [(.ref a11)])) (fun t k => XS.aload X21.here hx rfl (hb hby at_83) rfl rfl k) ?_
    obtain ⟨v22, T22, L22, X22, hQ22, st22⟩ := own_callV X21 hx hZ hown (hw _ (List.mem_of_getElem? (i := 33) rfl)) (hw _ (List.mem_of_getElem? (i := 34) rfl)) (hw _ (List.mem_of_getElem? (i := 36) rfl)) (notFace_of_selects (args := #[]) (mvT hZ (hw _ (List.mem_of_getElem? (i := 36) rfl)))) (hw _ (List.mem_of_getElem? (i := 35) rfl)) (hw _ (List.mem_of_getElem? (i := 37) rfl)) (hw _ (List.mem_of_getElem? (i := 2) rfl)) (by decide) e21 St21.1 (argsL := []) (rest := []) (rmY1 l Z a0 hw a11 pg14 bk21 kp14 kb21 y4 0 0 0 0 h21 n0 Z21 St21 Na14 Nb21) (by decide) (W := 0) (by decide) (by decide) (by decide) pd_6 rfl (pc := 85) (Ls := #[.val (.int y0), .val (.int y1), .val (.int y2), .val (.int y3), .val (.int y4), .val (.int y5), .val (.ref a11), .val (.int (0 : Int32)), .val (.int (0 : Int32)), .unset, .unset]) (by rw [hml]; rfl) (Nat.le_of_eq rfl) (hb hby at_85)
    obtain ⟨h22, e22⟩ : ∃ z, T22.heap = z := ⟨_, rfl⟩
    rw [e22] at hQ22
    obtain ⟨ar22, ka22, rfl, M22, V22, Z22⟩ := hQ22
    have N22 := Fr.app N21 M22
    refine own_to (T22.setTop (mkF m 88 #[.val (.int y0), .val (.int y1), .val (.int y2), .val (.int y3), .val (.int y4), .val (.int y5), .val (.ref a11), .val (.int (0 : Int32)), .val (.int (0 : Int32)), .unset, .unset] [(.ref ar22)])) (fun t k => st22 t k) ?_
    refine own_to (T22.setTop (mkF m 90 #[.val (.int y0), .val (.int y1), .val (.int y2), .val (.int y3), .val (.int y4), .val (.int y5), .val (.ref a11), .val (.int (0 : Int32)), .val (.int (0 : Int32)), .val (.ref ar22), .unset] [])) (fun t k => XS.astore X22.here hx rfl (hb hby at_88) rfl rfl (l' := #[.val (.int y0), .val (.int y1), .val (.int y2), .val (.int y3), .val (.int y4), .val (.int y5), .val (.ref a11), .val (.int (0 : Int32)), .val (.int (0 : Int32)), .val (.ref ar22), .unset]) rfl k) ?_
    refine own_to (T22.setTop (mkF m 92 #[.val (.int y0), .val (.int y1), .val (.int y2), .val (.int y3), .val (.int y4), .val (.int y5), .val (.ref a11), .val (.int (0 : Int32)), .val (.int (0 : Int32)), .val (.ref ar22), .unset] [(.ref ar22)])) (fun t k => XS.aload X22.here hx rfl (hb hby at_90) rfl rfl k) ?_
    obtain ⟨c23, r23, q23, z23, p23, j23, f23⟩ := id V22
    refine own_to (T22.setTop (mkF m 93 #[.val (.int y0), .val (.int y1), .val (.int y2), .val (.int y3), .val (.int y4), .val (.int y5), .val (.ref a11), .val (.int (0 : Int32)), .val (.int (0 : Int32)), .val (.ref ar22), .unset] [(.int (1 : Int32))])) (fun t k => X22.arraylength hx (by rw [e22]; exact r23.1) (State.isArrayOf_alike hZ.alike r23.2.1) (g := (mkF m 92 #[.val (.int y0), .val (.int y1), .val (.int y2), .val (.int y3), .val (.int y4), .val (.int y5), .val (.ref a11), .val (.int (0 : Int32)), .val (.int (0 : Int32)), .val (.ref ar22), .unset] [(.ref ar22)])) rfl rfl (hb hby at_92) t (by rw [len_of z23 p23]; exact k)) ?_
    refine own_to (T22.setTop (mkF m 95 #[.val (.int y0), .val (.int y1), .val (.int y2), .val (.int y3), .val (.int y4), .val (.int y5), .val (.ref a11), .val (.int (0 : Int32)), .val (.int (0 : Int32)), .val (.ref ar22), .unset] [(.int (0 : Int32)), (.int (1 : Int32))])) (fun t k => XS.iload X22.here hx rfl (hb hby at_93) rfl k) ?_
    refine own_to (T22.setTop (mkF m 96 #[.val (.int y0), .val (.int y1), .val (.int y2), .val (.int y3), .val (.int y4), .val (.int y5), .val (.ref a11), .val (.int (0 : Int32)), .val (.int (0 : Int32)), .val (.ref ar22), .unset] [(.int (1 : Int32)), (.int (0 : Int32)), (.int (1 : Int32))])) (fun t k => XT.iconstV X22.here hx rfl (1 : Int32) (hb hby at_95) (by decide) k) ?_
    refine own_to (T22.setTop (mkF m 97 #[.val (.int y0), .val (.int y1), .val (.int y2), .val (.int y3), .val (.int y4), .val (.int y5), .val (.ref a11), .val (.int (0 : Int32)), .val (.int (0 : Int32)), .val (.ref ar22), .unset] [(.int (1 : Int32)), (.int (1 : Int32))])) (fun t k => XS.iadd X22.here hx rfl (hb hby at_96) rfl (by rw [show ((0 : Int32) + (1 : Int32)) = (1 : Int32) from by decide]; exact k)) ?_
    refine own_to (T22.setTop (mkF m 102 #[.val (.int y0), .val (.int y1), .val (.int y2), .val (.int y3), .val (.int y4), .val (.int y5), .val (.ref a11), .val (.int (0 : Int32)), .val (.int (0 : Int32)), .val (.ref ar22), .unset] [])) (fun t k => XS.icmpYes X22.here hx rfl (pc0 := 97) (pc' := 102) rfl (hb hby at_97) rfl (teq rfl).1 (by decide) (by decide) k) ?_
    refine own_to (T22.setTop (mkF m 103 #[.val (.int y0), .val (.int y1), .val (.int y2), .val (.int y3), .val (.int y4), .val (.int y5), .val (.ref a11), .val (.int (0 : Int32)), .val (.int (0 : Int32)), .val (.ref ar22), .unset] [(.int (4 : Int32))])) (fun t k => XT.iconstV X22.here hx rfl (4 : Int32) (hb hby at_102) (by decide) k) ?_
    obtain ⟨T24, h24, k24, X24, e24, E24, A24, B24, st24⟩ := newPE X22 hx hZ (hw _ (List.mem_of_getElem? (i := 20) rfl)) e22 (g := (mkF m 103 #[.val (.int y0), .val (.int y1), .val (.int y2), .val (.int y3), .val (.int y4), .val (.int y5), .val (.ref a11), .val (.int (0 : Int32)), .val (.int (0 : Int32)), .val (.ref ar22), .unset] [(.int (4 : Int32))])) rfl (hb hby at_103) rfl (by decide) (cap := 4) (by decide) (by decide) (by decide) (by decide) (ad := "[I") (by decide)
    obtain ⟨a24, g24⟩ : ∃ z, z = h22.size := ⟨_, rfl⟩
    rw [← g24] at A24 B24 st24
    have ne_ar22_a24 : ar22 ≠ a24 := Nat.ne_of_lt (g24 ▸ V22.lt)
    have Z24 : n0 ≤ h24.size := Nat.le_trans Z22 E24.1
    have ge24 : n0 ≤ a24 := Nat.le_trans Z22 (Nat.le_of_eq g24.symm)
    have F25 := V22.ext E24
    have V26 : Arv Z h24 a24 k24 .int (4 : Int32) [(.int (0 : Int32)), (.int (0 : Int32)), (.int (0 : Int32)), (.int (0 : Int32))] (.int (0 : Int32)) := (Arv.new A24 (by decide)).pad (pad_rep [] _ 4)
    refine own_to (T24.setTop (mkF m 105 #[.val (.int y0), .val (.int y1), .val (.int y2), .val (.int y3), .val (.int y4), .val (.int y5), .val (.ref a11), .val (.int (0 : Int32)), .val (.int (0 : Int32)), .val (.ref ar22), .unset] [(.ref a24)])) (fun t k => st24 t k) ?_
    refine own_to (T24.setTop (mkF m 107 #[.val (.int y0), .val (.int y1), .val (.int y2), .val (.int y3), .val (.int y4), .val (.int y5), .val (.ref a11), .val (.int (0 : Int32)), .val (.int (0 : Int32)), .val (.ref ar22), .val (.ref a24)] [])) (fun t k => XS.astore X24.here hx rfl (hb hby at_105) rfl rfl (l' := #[.val (.int y0), .val (.int y1), .val (.int y2), .val (.int y3), .val (.int y4), .val (.int y5), .val (.ref a11), .val (.int (0 : Int32)), .val (.int (0 : Int32)), .val (.ref ar22), .val (.ref a24)]) rfl k) ?_
    refine own_to (T24.setTop (mkF m 109 #[.val (.int y0), .val (.int y1), .val (.int y2), .val (.int y3), .val (.int y4), .val (.int y5), .val (.ref a11), .val (.int (0 : Int32)), .val (.int (0 : Int32)), .val (.ref ar22), .val (.ref a24)] [(.ref a24)])) (fun t k => XS.aload X24.here hx rfl (hb hby at_107) rfl rfl k) ?_
    refine own_to (T24.setTop (mkF m 110 #[.val (.int y0), .val (.int y1), .val (.int y2), .val (.int y3), .val (.int y4), .val (.int y5), .val (.ref a11), .val (.int (0 : Int32)), .val (.int (0 : Int32)), .val (.ref ar22), .val (.ref a24)] [(.int (0 : Int32)), (.ref a24)])) (fun t k => XT.iconstV X24.here hx rfl (0 : Int32) (hb hby at_109) (by decide) k) ?_
    refine own_to (T24.setTop (mkF m 111 #[.val (.int y0), .val (.int y1), .val (.int y2), .val (.int y3), .val (.int y4), .val (.int y5), .val (.ref a11), .val (.int (0 : Int32)), .val (.int (0 : Int32)), .val (.ref ar22), .val (.ref a24)] [(.int y0), (.int (0 : Int32)), (.ref a24)])) (fun t k => XS.iloadN X24.here hx rfl (hb hby at_110) rfl k) ?_
    obtain ⟨c27, r27, q27, z27, p27, j27, f27⟩ := id V26
    have u27 := inb_of z27 (j := (0 : Int32)) ⟨by decide, by decide⟩
    obtain ⟨T27, h27, X27, e27, W27, st27⟩ := stI X24 hx hZ e24 r27 u27 (g := (mkF m 111 #[.val (.int y0), .val (.int y1), .val (.int y2), .val (.int y3), .val (.int y4), .val (.int y5), .val (.ref a11), .val (.int (0 : Int32)), .val (.int (0 : Int32)), .val (.ref ar22), .val (.ref a24)] [(.int y0), (.int (0 : Int32)), (.ref a24)])) rfl rfl (hb hby at_111)
    have N27 := Fr.snoc X27 N22 ge24
    have F28 := F25.other W27 ne_ar22_a24
    have F29 := B24.wr W27
    have V30 : Arv Z h27 a24 k24 .int (4 : Int32) [(.int y0), (.int (0 : Int32)), (.int (0 : Int32)), (.int (0 : Int32))] (.int (0 : Int32)) := Arv.set r27 q27 z27 p27 j27 f27 rfl W27 0 rfl (Nat.le_of_ble_eq_true rfl)
    have Z31 : n0 ≤ h27.size := by rw [W27.size]; exact Z24
    refine own_to (T27.setTop (mkF m 112 #[.val (.int y0), .val (.int y1), .val (.int y2), .val (.int y3), .val (.int y4), .val (.int y5), .val (.ref a11), .val (.int (0 : Int32)), .val (.int (0 : Int32)), .val (.ref ar22), .val (.ref a24)] [])) (fun t k => st27 t k) ?_
    refine own_to (T27.setTop (mkF m 114 #[.val (.int y0), .val (.int y1), .val (.int y2), .val (.int y3), .val (.int y4), .val (.int y5), .val (.ref a11), .val (.int (0 : Int32)), .val (.int (0 : Int32)), .val (.ref ar22), .val (.ref a24)] [(.ref a24)])) (fun t k => XS.aload X27.here hx rfl (hb hby at_112) rfl rfl k) ?_
    refine own_to (T27.setTop (mkF m 115 #[.val (.int y0), .val (.int y1), .val (.int y2), .val (.int y3), .val (.int y4), .val (.int y5), .val (.ref a11), .val (.int (0 : Int32)), .val (.int (0 : Int32)), .val (.ref ar22), .val (.ref a24)] [(.int (1 : Int32)), (.ref a24)])) (fun t k => XT.iconstV X27.here hx rfl (1 : Int32) (hb hby at_114) (by decide) k) ?_
    refine own_to (T27.setTop (mkF m 116 #[.val (.int y0), .val (.int y1), .val (.int y2), .val (.int y3), .val (.int y4), .val (.int y5), .val (.ref a11), .val (.int (0 : Int32)), .val (.int (0 : Int32)), .val (.ref ar22), .val (.ref a24)] [(.int y1), (.int (1 : Int32)), (.ref a24)])) (fun t k => XS.iloadN X27.here hx rfl (hb hby at_115) rfl k) ?_
    obtain ⟨c32, r32, q32, z32, p32, j32, f32⟩ := id V30
    have u32 := inb_of z32 (j := (1 : Int32)) ⟨by decide, by decide⟩
    obtain ⟨T32, h32, X32, e32, W32, st32⟩ := stI X27 hx hZ e27 r32 u32 (g := (mkF m 116 #[.val (.int y0), .val (.int y1), .val (.int y2), .val (.int y3), .val (.int y4), .val (.int y5), .val (.ref a11), .val (.int (0 : Int32)), .val (.int (0 : Int32)), .val (.ref ar22), .val (.ref a24)] [(.int y1), (.int (1 : Int32)), (.ref a24)])) rfl rfl (hb hby at_116)
    have N32 := Fr.snoc X32 N27 ge24
    have F33 := F28.other W32 ne_ar22_a24
    have F34 := F29.wr W32
    have V35 : Arv Z h32 a24 k24 .int (4 : Int32) [(.int y0), (.int y1), (.int (0 : Int32)), (.int (0 : Int32))] (.int (0 : Int32)) := Arv.set r32 q32 z32 p32 j32 f32 rfl W32 1 rfl (Nat.le_of_ble_eq_true rfl)
    have Z36 : n0 ≤ h32.size := by rw [W32.size]; exact Z31
    refine own_to (T32.setTop (mkF m 117 #[.val (.int y0), .val (.int y1), .val (.int y2), .val (.int y3), .val (.int y4), .val (.int y5), .val (.ref a11), .val (.int (0 : Int32)), .val (.int (0 : Int32)), .val (.ref ar22), .val (.ref a24)] [])) (fun t k => st32 t k) ?_
    refine own_to (T32.setTop (mkF m 119 #[.val (.int y0), .val (.int y1), .val (.int y2), .val (.int y3), .val (.int y4), .val (.int y5), .val (.ref a11), .val (.int (0 : Int32)), .val (.int (0 : Int32)), .val (.ref ar22), .val (.ref a24)] [(.ref a24)])) (fun t k => XS.aload X32.here hx rfl (hb hby at_117) rfl rfl k) ?_
    refine own_to (T32.setTop (mkF m 120 #[.val (.int y0), .val (.int y1), .val (.int y2), .val (.int y3), .val (.int y4), .val (.int y5), .val (.ref a11), .val (.int (0 : Int32)), .val (.int (0 : Int32)), .val (.ref ar22), .val (.ref a24)] [(.int (2 : Int32)), (.ref a24)])) (fun t k => XT.iconstV X32.here hx rfl (2 : Int32) (hb hby at_119) (by decide) k) ?_
    refine own_to (T32.setTop (mkF m 121 #[.val (.int y0), .val (.int y1), .val (.int y2), .val (.int y3), .val (.int y4), .val (.int y5), .val (.ref a11), .val (.int (0 : Int32)), .val (.int (0 : Int32)), .val (.ref ar22), .val (.ref a24)] [(.int y2), (.int (2 : Int32)), (.ref a24)])) (fun t k => XS.iloadN X32.here hx rfl (hb hby at_120) rfl k) ?_
    obtain ⟨c37, r37, q37, z37, p37, j37, f37⟩ := id V35
    have u37 := inb_of z37 (j := (2 : Int32)) ⟨by decide, by decide⟩
    obtain ⟨T37, h37, X37, e37, W37, st37⟩ := stI X32 hx hZ e32 r37 u37 (g := (mkF m 121 #[.val (.int y0), .val (.int y1), .val (.int y2), .val (.int y3), .val (.int y4), .val (.int y5), .val (.ref a11), .val (.int (0 : Int32)), .val (.int (0 : Int32)), .val (.ref ar22), .val (.ref a24)] [(.int y2), (.int (2 : Int32)), (.ref a24)])) rfl rfl (hb hby at_121)
    have N37 := Fr.snoc X37 N32 ge24
    have F38 := F33.other W37 ne_ar22_a24
    have F39 := F34.wr W37
    have V40 : Arv Z h37 a24 k24 .int (4 : Int32) [(.int y0), (.int y1), (.int y2), (.int (0 : Int32))] (.int (0 : Int32)) := Arv.set r37 q37 z37 p37 j37 f37 rfl W37 2 rfl (Nat.le_of_ble_eq_true rfl)
    have Z41 : n0 ≤ h37.size := by rw [W37.size]; exact Z36
    refine own_to (T37.setTop (mkF m 122 #[.val (.int y0), .val (.int y1), .val (.int y2), .val (.int y3), .val (.int y4), .val (.int y5), .val (.ref a11), .val (.int (0 : Int32)), .val (.int (0 : Int32)), .val (.ref ar22), .val (.ref a24)] [])) (fun t k => st37 t k) ?_
    refine own_to (T37.setTop (mkF m 124 #[.val (.int y0), .val (.int y1), .val (.int y2), .val (.int y3), .val (.int y4), .val (.int y5), .val (.ref a11), .val (.int (0 : Int32)), .val (.int (0 : Int32)), .val (.ref ar22), .val (.ref a24)] [(.ref a24)])) (fun t k => XS.aload X37.here hx rfl (hb hby at_122) rfl rfl k) ?_
    refine own_to (T37.setTop (mkF m 125 #[.val (.int y0), .val (.int y1), .val (.int y2), .val (.int y3), .val (.int y4), .val (.int y5), .val (.ref a11), .val (.int (0 : Int32)), .val (.int (0 : Int32)), .val (.ref ar22), .val (.ref a24)] [(.int (3 : Int32)), (.ref a24)])) (fun t k => XT.iconstV X37.here hx rfl (3 : Int32) (hb hby at_124) (by decide) k) ?_
    refine own_to (T37.setTop (mkF m 126 #[.val (.int y0), .val (.int y1), .val (.int y2), .val (.int y3), .val (.int y4), .val (.int y5), .val (.ref a11), .val (.int (0 : Int32)), .val (.int (0 : Int32)), .val (.ref ar22), .val (.ref a24)] [(.int y3), (.int (3 : Int32)), (.ref a24)])) (fun t k => XS.iloadN X37.here hx rfl (hb hby at_125) rfl k) ?_
    obtain ⟨c42, r42, q42, z42, p42, j42, f42⟩ := id V40
    have u42 := inb_of z42 (j := (3 : Int32)) ⟨by decide, by decide⟩
    obtain ⟨T42, h42, X42, e42, W42, st42⟩ := stI X37 hx hZ e37 r42 u42 (g := (mkF m 126 #[.val (.int y0), .val (.int y1), .val (.int y2), .val (.int y3), .val (.int y4), .val (.int y5), .val (.ref a11), .val (.int (0 : Int32)), .val (.int (0 : Int32)), .val (.ref ar22), .val (.ref a24)] [(.int y3), (.int (3 : Int32)), (.ref a24)])) rfl rfl (hb hby at_126)
    have N42 := Fr.snoc X42 N37 ge24
    have F43 := F38.other W42 ne_ar22_a24
    have F44 := F39.wr W42
    have V45 : Arv Z h42 a24 k24 .int (4 : Int32) [(.int y0), (.int y1), (.int y2), (.int y3)] (.int (0 : Int32)) := Arv.set r42 q42 z42 p42 j42 f42 rfl W42 3 rfl (Nat.le_of_ble_eq_true rfl)
    have Z46 : n0 ≤ h42.size := by rw [W42.size]; exact Z41
    refine own_to (T42.setTop (mkF m 127 #[.val (.int y0), .val (.int y1), .val (.int y2), .val (.int y3), .val (.int y4), .val (.int y5), .val (.ref a11), .val (.int (0 : Int32)), .val (.int (0 : Int32)), .val (.ref ar22), .val (.ref a24)] [])) (fun t k => st42 t k) ?_
    refine own_to (T42.setTop (mkF m 129 #[.val (.int y0), .val (.int y1), .val (.int y2), .val (.int y3), .val (.int y4), .val (.int y5), .val (.ref a11), .val (.int (0 : Int32)), .val (.int (0 : Int32)), .val (.ref ar22), .val (.ref a24)] [(.ref ar22)])) (fun t k => XS.aload X42.here hx rfl (hb hby at_127) rfl rfl k) ?_
    refine own_to (T42.setTop (mkF m 130 #[.val (.int y0), .val (.int y1), .val (.int y2), .val (.int y3), .val (.int y4), .val (.int y5), .val (.ref a11), .val (.int (0 : Int32)), .val (.int (0 : Int32)), .val (.ref ar22), .val (.ref a24)] [(.int (0 : Int32)), (.ref ar22)])) (fun t k => XT.iconstV X42.here hx rfl (0 : Int32) (hb hby at_129) (by decide) k) ?_
    refine own_to (T42.setTop (mkF m 132 #[.val (.int y0), .val (.int y1), .val (.int y2), .val (.int y3), .val (.int y4), .val (.int y5), .val (.ref a11), .val (.int (0 : Int32)), .val (.int (0 : Int32)), .val (.ref ar22), .val (.ref a24)] [(.int (0 : Int32)), (.int (0 : Int32)), (.ref ar22)])) (fun t k => XS.iload X42.here hx rfl (hb hby at_130) rfl k) ?_
    refine own_to (T42.setTop (mkF m 134 #[.val (.int y0), .val (.int y1), .val (.int y2), .val (.int y3), .val (.int y4), .val (.int y5), .val (.ref a11), .val (.int (0 : Int32)), .val (.int (0 : Int32)), .val (.ref ar22), .val (.ref a24)] [(.ref a24), (.int (0 : Int32)), (.int (0 : Int32)), (.ref ar22)])) (fun t k => XS.aload X42.here hx rfl (hb hby at_132) rfl rfl k) ?_
    refine own_to (T42.setTop (mkF m 136 #[.val (.int y0), .val (.int y1), .val (.int y2), .val (.int y3), .val (.int y4), .val (.int y5), .val (.ref a11), .val (.int (0 : Int32)), .val (.int (0 : Int32)), .val (.ref ar22), .val (.ref a24)] [(.int y4), (.ref a24), (.int (0 : Int32)), (.int (0 : Int32)), (.ref ar22)])) (fun t k => XS.iload X42.here hx rfl (hb hby at_134) rfl k) ?_
    obtain ⟨c47, r47, q47, z47, p47, j47, f47⟩ := id F43
    obtain ⟨c48, r48, q48, z48, p48, j48, f48⟩ := id V45
    obtain ⟨v49, T49, L49, X49, hQ49, st49⟩ := own_callS X42 hx hZ hown (hw _ (List.mem_of_getElem? (i := 46) rfl)) (hw _ (List.mem_of_getElem? (i := 47) rfl)) (hw _ (List.mem_of_getElem? (i := 49) rfl)) (hw _ (List.mem_of_getElem? (i := 48) rfl)) (by decide) e42 (argsL := [(.ref ar22), (.int (0 : Int32)), (.int (0 : Int32)), (.ref a24), (.int y4)]) (rest := []) (rmt2 l Z a0 hw ar22 a24 (0 : Int32) (0 : Int32) y4 c47 h42 n0 Z46 (by decide) (by decide) r47 (inb_of z47 ⟨by decide, by decide⟩) (j47.at (inb_of z47 ⟨by decide, by decide⟩) rfl)) (by decide) (W := 0) (by decide) (by decide) (by decide) pd_8 rfl (pc := 136) (Ls := #[.val (.int y0), .val (.int y1), .val (.int y2), .val (.int y3), .val (.int y4), .val (.int y5), .val (.ref a11), .val (.int (0 : Int32)), .val (.int (0 : Int32)), .val (.ref ar22), .val (.ref a24)]) (by rw [hml]; rfl) (Nat.le_of_eq rfl) (hb hby at_136)
    obtain ⟨rfl, M49, e49⟩ := hQ49
    have N49 := Fr.app N42 M49
    refine own_to (T49.setTop (mkF m 139 #[.val (.int y0), .val (.int y1), .val (.int y2), .val (.int y3), .val (.int y4), .val (.int y5), .val (.ref a11), .val (.int (0 : Int32)), .val (.int (0 : Int32)), .val (.ref ar22), .val (.ref a24)] [(.int (1 : Int32))])) (fun t k => st49 t k) ?_
    refine own_to (T49.setTop (mkF m 142 #[.val (.int y0), .val (.int y1), .val (.int y2), .val (.int y3), .val (.int y4), .val (.int y5), .val (.ref a11), .val (.int (0 : Int32)), .val (.int (0 : Int32)), .val (.ref ar22), .val (.ref a24)] [])) (fun t k => XS.ifNo X49.here hx rfl (hb hby at_139) rfl ((if0 _ _).trans (feq (by decide)).1) k) ?_
    refine own_to (T49.setTop (mkF m 144 #[.val (.int y0), .val (.int y1), .val (.int y2), .val (.int y3), .val (.int y4), .val (.int y5), .val (.ref a11), .val (.int (0 : Int32)), .val (.int (0 : Int32)), .val (.ref ar22), .val (.ref a24)] [(.ref ar22)])) (fun t k => XS.aload X49.here hx rfl (hb hby at_142) rfl rfl k) ?_
    refine own_to (T49.setTop (mkF m 145 #[.val (.int y0), .val (.int y1), .val (.int y2), .val (.int y3), .val (.int y4), .val (.int y5), .val (.ref a11), .val (.int (0 : Int32)), .val (.int (0 : Int32)), .val (.ref ar22), .val (.ref a24)] [(.int (1 : Int32)), (.ref ar22)])) (fun t k => XT.iconstV X49.here hx rfl (1 : Int32) (hb hby at_144) (by decide) k) ?_
    refine own_to (T49.setTop (mkF m 147 #[.val (.int y0), .val (.int y1), .val (.int y2), .val (.int y3), .val (.int y4), .val (.int y5), .val (.ref a11), .val (.int (0 : Int32)), .val (.int (0 : Int32)), .val (.ref ar22), .val (.ref a24)] [(.int (0 : Int32)), (.int (1 : Int32)), (.ref ar22)])) (fun t k => XS.iload X49.here hx rfl (hb hby at_145) rfl k) ?_
    refine own_to (T49.setTop (mkF m 149 #[.val (.int y0), .val (.int y1), .val (.int y2), .val (.int y3), .val (.int y4), .val (.int y5), .val (.ref a11), .val (.int (0 : Int32)), .val (.int (0 : Int32)), .val (.ref ar22), .val (.ref a24)] [(.ref a24), (.int (0 : Int32)), (.int (1 : Int32)), (.ref ar22)])) (fun t k => XS.aload X49.here hx rfl (hb hby at_147) rfl rfl k) ?_
    refine own_to (T49.setTop (mkF m 151 #[.val (.int y0), .val (.int y1), .val (.int y2), .val (.int y3), .val (.int y4), .val (.int y5), .val (.ref a11), .val (.int (0 : Int32)), .val (.int (0 : Int32)), .val (.ref ar22), .val (.ref a24)] [(.int y4), (.ref a24), (.int (0 : Int32)), (.int (1 : Int32)), (.ref ar22)])) (fun t k => XS.iload X49.here hx rfl (hb hby at_149) rfl k) ?_
    obtain ⟨v50, T50, L50, X50, hQ50, st50⟩ := own_callS X49 hx hZ hown (hw _ (List.mem_of_getElem? (i := 46) rfl)) (hw _ (List.mem_of_getElem? (i := 47) rfl)) (hw _ (List.mem_of_getElem? (i := 49) rfl)) (hw _ (List.mem_of_getElem? (i := 48) rfl)) (by decide) e49 (argsL := [(.ref ar22), (.int (1 : Int32)), (.int (0 : Int32)), (.ref a24), (.int y4)]) (rest := []) (rmt1 l Z a0 hw ar22 a24 (1 : Int32) (0 : Int32) y4 h42 n0 Z46 (by decide)) (by decide) (W := 0) (by decide) (by decide) (by decide) pd_8 rfl (pc := 151) (Ls := #[.val (.int y0), .val (.int y1), .val (.int y2), .val (.int y3), .val (.int y4), .val (.int y5), .val (.ref a11), .val (.int (0 : Int32)), .val (.int (0 : Int32)), .val (.ref ar22), .val (.ref a24)]) (by rw [hml]; rfl) (Nat.le_of_eq rfl) (hb hby at_151)
    obtain ⟨rfl, M50, e50⟩ := hQ50
    have N50 := Fr.app N49 M50
    refine own_to (T50.setTop (mkF m 154 #[.val (.int y0), .val (.int y1), .val (.int y2), .val (.int y3), .val (.int y4), .val (.int y5), .val (.ref a11), .val (.int (0 : Int32)), .val (.int (0 : Int32)), .val (.ref ar22), .val (.ref a24)] [(.int (1 : Int32))])) (fun t k => st50 t k) ?_
    refine own_to (T50.setTop (mkF m 157 #[.val (.int y0), .val (.int y1), .val (.int y2), .val (.int y3), .val (.int y4), .val (.int y5), .val (.ref a11), .val (.int (0 : Int32)), .val (.int (0 : Int32)), .val (.ref ar22), .val (.ref a24)] [])) (fun t k => XS.ifNo X50.here hx rfl (hb hby at_154) rfl ((if0 _ _).trans (feq (by decide)).1) k) ?_
    refine own_to (T50.setTop (mkF m 159 #[.val (.int y0), .val (.int y1), .val (.int y2), .val (.int y3), .val (.int y4), .val (.int y5), .val (.ref a11), .val (.int (0 : Int32)), .val (.int (0 : Int32)), .val (.ref ar22), .val (.ref a24)] [(.ref ar22)])) (fun t k => XS.aload X50.here hx rfl (hb hby at_157) rfl rfl k) ?_
    refine own_to (T50.setTop (mkF m 160 #[.val (.int y0), .val (.int y1), .val (.int y2), .val (.int y3), .val (.int y4), .val (.int y5), .val (.ref a11), .val (.int (0 : Int32)), .val (.int (0 : Int32)), .val (.ref ar22), .val (.ref a24)] [(.int (2 : Int32)), (.ref ar22)])) (fun t k => XT.iconstV X50.here hx rfl (2 : Int32) (hb hby at_159) (by decide) k) ?_
    refine own_to (T50.setTop (mkF m 162 #[.val (.int y0), .val (.int y1), .val (.int y2), .val (.int y3), .val (.int y4), .val (.int y5), .val (.ref a11), .val (.int (0 : Int32)), .val (.int (0 : Int32)), .val (.ref ar22), .val (.ref a24)] [(.int (0 : Int32)), (.int (2 : Int32)), (.ref ar22)])) (fun t k => XS.iload X50.here hx rfl (hb hby at_160) rfl k) ?_
    refine own_to (T50.setTop (mkF m 164 #[.val (.int y0), .val (.int y1), .val (.int y2), .val (.int y3), .val (.int y4), .val (.int y5), .val (.ref a11), .val (.int (0 : Int32)), .val (.int (0 : Int32)), .val (.ref ar22), .val (.ref a24)] [(.ref a24), (.int (0 : Int32)), (.int (2 : Int32)), (.ref ar22)])) (fun t k => XS.aload X50.here hx rfl (hb hby at_162) rfl rfl k) ?_
    refine own_to (T50.setTop (mkF m 166 #[.val (.int y0), .val (.int y1), .val (.int y2), .val (.int y3), .val (.int y4), .val (.int y5), .val (.ref a11), .val (.int (0 : Int32)), .val (.int (0 : Int32)), .val (.ref ar22), .val (.ref a24)] [(.int y4), (.ref a24), (.int (0 : Int32)), (.int (2 : Int32)), (.ref ar22)])) (fun t k => XS.iload X50.here hx rfl (hb hby at_164) rfl k) ?_
    obtain ⟨v51, T51, L51, X51, hQ51, st51⟩ := own_callS X50 hx hZ hown (hw _ (List.mem_of_getElem? (i := 46) rfl)) (hw _ (List.mem_of_getElem? (i := 47) rfl)) (hw _ (List.mem_of_getElem? (i := 49) rfl)) (hw _ (List.mem_of_getElem? (i := 48) rfl)) (by decide) e50 (argsL := [(.ref ar22), (.int (2 : Int32)), (.int (0 : Int32)), (.ref a24), (.int y4)]) (rest := []) (rmt1 l Z a0 hw ar22 a24 (2 : Int32) (0 : Int32) y4 h42 n0 Z46 (by decide)) (by decide) (W := 0) (by decide) (by decide) (by decide) pd_8 rfl (pc := 166) (Ls := #[.val (.int y0), .val (.int y1), .val (.int y2), .val (.int y3), .val (.int y4), .val (.int y5), .val (.ref a11), .val (.int (0 : Int32)), .val (.int (0 : Int32)), .val (.ref ar22), .val (.ref a24)]) (by rw [hml]; rfl) (Nat.le_of_eq rfl) (hb hby at_166)
    obtain ⟨rfl, M51, e51⟩ := hQ51
    have N51 := Fr.app N50 M51
    refine own_to (T51.setTop (mkF m 169 #[.val (.int y0), .val (.int y1), .val (.int y2), .val (.int y3), .val (.int y4), .val (.int y5), .val (.ref a11), .val (.int (0 : Int32)), .val (.int (0 : Int32)), .val (.ref ar22), .val (.ref a24)] [(.int (1 : Int32))])) (fun t k => st51 t k) ?_
    refine own_to (T51.setTop (mkF m 172 #[.val (.int y0), .val (.int y1), .val (.int y2), .val (.int y3), .val (.int y4), .val (.int y5), .val (.ref a11), .val (.int (0 : Int32)), .val (.int (0 : Int32)), .val (.ref ar22), .val (.ref a24)] [])) (fun t k => XS.ifNo X51.here hx rfl (hb hby at_169) rfl ((if0 _ _).trans (feq (by decide)).1) k) ?_
    refine own_to (T51.setTop (mkF m 174 #[.val (.int y0), .val (.int y1), .val (.int y2), .val (.int y3), .val (.int y4), .val (.int y5), .val (.ref a11), .val (.int (0 : Int32)), .val (.int (0 : Int32)), .val (.ref ar22), .val (.ref a24)] [(.ref ar22)])) (fun t k => XS.aload X51.here hx rfl (hb hby at_172) rfl rfl k) ?_
    refine own_to (T51.setTop (mkF m 175 #[.val (.int y0), .val (.int y1), .val (.int y2), .val (.int y3), .val (.int y4), .val (.int y5), .val (.ref a11), .val (.int (0 : Int32)), .val (.int (0 : Int32)), .val (.ref ar22), .val (.ref a24)] [(.int (3 : Int32)), (.ref ar22)])) (fun t k => XT.iconstV X51.here hx rfl (3 : Int32) (hb hby at_174) (by decide) k) ?_
    refine own_to (T51.setTop (mkF m 177 #[.val (.int y0), .val (.int y1), .val (.int y2), .val (.int y3), .val (.int y4), .val (.int y5), .val (.ref a11), .val (.int (0 : Int32)), .val (.int (0 : Int32)), .val (.ref ar22), .val (.ref a24)] [(.int (0 : Int32)), (.int (3 : Int32)), (.ref ar22)])) (fun t k => XS.iload X51.here hx rfl (hb hby at_175) rfl k) ?_
    refine own_to (T51.setTop (mkF m 179 #[.val (.int y0), .val (.int y1), .val (.int y2), .val (.int y3), .val (.int y4), .val (.int y5), .val (.ref a11), .val (.int (0 : Int32)), .val (.int (0 : Int32)), .val (.ref ar22), .val (.ref a24)] [(.ref a24), (.int (0 : Int32)), (.int (3 : Int32)), (.ref ar22)])) (fun t k => XS.aload X51.here hx rfl (hb hby at_177) rfl rfl k) ?_
    refine own_to (T51.setTop (mkF m 181 #[.val (.int y0), .val (.int y1), .val (.int y2), .val (.int y3), .val (.int y4), .val (.int y5), .val (.ref a11), .val (.int (0 : Int32)), .val (.int (0 : Int32)), .val (.ref ar22), .val (.ref a24)] [(.int y4), (.ref a24), (.int (0 : Int32)), (.int (3 : Int32)), (.ref ar22)])) (fun t k => XS.iload X51.here hx rfl (hb hby at_179) rfl k) ?_
    obtain ⟨v52, T52, L52, X52, hQ52, st52⟩ := own_callS X51 hx hZ hown (hw _ (List.mem_of_getElem? (i := 46) rfl)) (hw _ (List.mem_of_getElem? (i := 47) rfl)) (hw _ (List.mem_of_getElem? (i := 49) rfl)) (hw _ (List.mem_of_getElem? (i := 48) rfl)) (by decide) e51 (argsL := [(.ref ar22), (.int (3 : Int32)), (.int (0 : Int32)), (.ref a24), (.int y4)]) (rest := []) (rmt1 l Z a0 hw ar22 a24 (3 : Int32) (0 : Int32) y4 h42 n0 Z46 (by decide)) (by decide) (W := 0) (by decide) (by decide) (by decide) pd_8 rfl (pc := 181) (Ls := #[.val (.int y0), .val (.int y1), .val (.int y2), .val (.int y3), .val (.int y4), .val (.int y5), .val (.ref a11), .val (.int (0 : Int32)), .val (.int (0 : Int32)), .val (.ref ar22), .val (.ref a24)]) (by rw [hml]; rfl) (Nat.le_of_eq rfl) (hb hby at_181)
    obtain ⟨rfl, M52, e52⟩ := hQ52
    have N52 := Fr.app N51 M52
    refine own_to (T52.setTop (mkF m 184 #[.val (.int y0), .val (.int y1), .val (.int y2), .val (.int y3), .val (.int y4), .val (.int y5), .val (.ref a11), .val (.int (0 : Int32)), .val (.int (0 : Int32)), .val (.ref ar22), .val (.ref a24)] [(.int (1 : Int32))])) (fun t k => st52 t k) ?_
    refine own_to (T52.setTop (mkF m 187 #[.val (.int y0), .val (.int y1), .val (.int y2), .val (.int y3), .val (.int y4), .val (.int y5), .val (.ref a11), .val (.int (0 : Int32)), .val (.int (0 : Int32)), .val (.ref ar22), .val (.ref a24)] [])) (fun t k => XS.ifNo X52.here hx rfl (hb hby at_184) rfl ((if0 _ _).trans (feq (by decide)).1) k) ?_
    refine own_to (T52.setTop (mkF m 189 #[.val (.int y0), .val (.int y1), .val (.int y2), .val (.int y3), .val (.int y4), .val (.int y5), .val (.ref a11), .val (.int (0 : Int32)), .val (.int (0 : Int32)), .val (.ref ar22), .val (.ref a24)] [(.ref ar22)])) (fun t k => XS.aload X52.here hx rfl (hb hby at_187) rfl rfl k) ?_
    refine own_to (T52.setTop (mkF m 190 #[.val (.int y0), .val (.int y1), .val (.int y2), .val (.int y3), .val (.int y4), .val (.int y5), .val (.ref a11), .val (.int (0 : Int32)), .val (.int (0 : Int32)), .val (.ref ar22), .val (.ref a24)] [(.int (4 : Int32)), (.ref ar22)])) (fun t k => XT.iconstV X52.here hx rfl (4 : Int32) (hb hby at_189) (by decide) k) ?_
    refine own_to (T52.setTop (mkF m 192 #[.val (.int y0), .val (.int y1), .val (.int y2), .val (.int y3), .val (.int y4), .val (.int y5), .val (.ref a11), .val (.int (0 : Int32)), .val (.int (0 : Int32)), .val (.ref ar22), .val (.ref a24)] [(.int (0 : Int32)), (.int (4 : Int32)), (.ref ar22)])) (fun t k => XS.iload X52.here hx rfl (hb hby at_190) rfl k) ?_
    refine own_to (T52.setTop (mkF m 194 #[.val (.int y0), .val (.int y1), .val (.int y2), .val (.int y3), .val (.int y4), .val (.int y5), .val (.ref a11), .val (.int (0 : Int32)), .val (.int (0 : Int32)), .val (.ref ar22), .val (.ref a24)] [(.ref a24), (.int (0 : Int32)), (.int (4 : Int32)), (.ref ar22)])) (fun t k => XS.aload X52.here hx rfl (hb hby at_192) rfl rfl k) ?_
    refine own_to (T52.setTop (mkF m 196 #[.val (.int y0), .val (.int y1), .val (.int y2), .val (.int y3), .val (.int y4), .val (.int y5), .val (.ref a11), .val (.int (0 : Int32)), .val (.int (0 : Int32)), .val (.ref ar22), .val (.ref a24)] [(.int y4), (.ref a24), (.int (0 : Int32)), (.int (4 : Int32)), (.ref ar22)])) (fun t k => XS.iload X52.here hx rfl (hb hby at_194) rfl k) ?_
    obtain ⟨v53, T53, L53, X53, hQ53, st53⟩ := own_callS X52 hx hZ hown (hw _ (List.mem_of_getElem? (i := 46) rfl)) (hw _ (List.mem_of_getElem? (i := 47) rfl)) (hw _ (List.mem_of_getElem? (i := 49) rfl)) (hw _ (List.mem_of_getElem? (i := 48) rfl)) (by decide) e52 (argsL := [(.ref ar22), (.int (4 : Int32)), (.int (0 : Int32)), (.ref a24), (.int y4)]) (rest := []) (rmt1 l Z a0 hw ar22 a24 (4 : Int32) (0 : Int32) y4 h42 n0 Z46 (by decide)) (by decide) (W := 0) (by decide) (by decide) (by decide) pd_8 rfl (pc := 196) (Ls := #[.val (.int y0), .val (.int y1), .val (.int y2), .val (.int y3), .val (.int y4), .val (.int y5), .val (.ref a11), .val (.int (0 : Int32)), .val (.int (0 : Int32)), .val (.ref ar22), .val (.ref a24)]) (by rw [hml]; rfl) (Nat.le_of_eq rfl) (hb hby at_196)
    obtain ⟨rfl, M53, e53⟩ := hQ53
    have N53 := Fr.app N52 M53
    refine own_to (T53.setTop (mkF m 199 #[.val (.int y0), .val (.int y1), .val (.int y2), .val (.int y3), .val (.int y4), .val (.int y5), .val (.ref a11), .val (.int (0 : Int32)), .val (.int (0 : Int32)), .val (.ref ar22), .val (.ref a24)] [(.int (1 : Int32))])) (fun t k => st53 t k) ?_
    refine own_to (T53.setTop (mkF m 202 #[.val (.int y0), .val (.int y1), .val (.int y2), .val (.int y3), .val (.int y4), .val (.int y5), .val (.ref a11), .val (.int (0 : Int32)), .val (.int (0 : Int32)), .val (.ref ar22), .val (.ref a24)] [])) (fun t k => XS.ifNo X53.here hx rfl (hb hby at_199) rfl ((if0 _ _).trans (feq (by decide)).1) k) ?_
    refine own_to (T53.setTop (mkF m 203 #[.val (.int y0), .val (.int y1), .val (.int y2), .val (.int y3), .val (.int y4), .val (.int y5), .val (.ref a11), .val (.int (0 : Int32)), .val (.int (0 : Int32)), .val (.ref ar22), .val (.ref a24)] [(.int (1 : Int32))])) (fun t k => XT.iconstV X53.here hx rfl (1 : Int32) (hb hby at_202) (by decide) k) ?_
    refine own_to (T53.setTop (mkF m 207 #[.val (.int y0), .val (.int y1), .val (.int y2), .val (.int y3), .val (.int y4), .val (.int y5), .val (.ref a11), .val (.int (0 : Int32)), .val (.int (0 : Int32)), .val (.ref ar22), .val (.ref a24)] [(.int (1 : Int32))])) (fun t k => XS.goto X53.here hx rfl (pc0 := 203) (pc' := 207) rfl (hb hby at_203) (by decide) (by decide) k) ?_
    exact own_retZ X53 hx hret hk (i' := (1 : Int32)) (hb hby at_207) (by decide) (by decide) (by decide) ⟨rfl, N53⟩
  · -- k = 1
    refine own_to (T18.setTop (mkF m 44 #[.val (.int y0), .val (.int y1), .val (.int y2), .val (.int y3), .val (.int y4), .val (.int y5), .val (.ref a11), .unset, .unset, .unset, .unset] [(.int (1 : Int32))])) (fun t k => iremM X18 hx rfl (hb hby at_43) rfl (by decide) (by rw [h5]; exact k)) ?_
    refine own_to (T18.setTop (mkF m 46 #[.val (.int y0), .val (.int y1), .val (.int y2), .val (.int y3), .val (.int y4), .val (.int y5), .val (.ref a11), .val (.int (1 : Int32)), .unset, .unset, .unset] [])) (fun t k => XS.istore X18.here hx rfl (hb hby at_44) rfl (l' := #[.val (.int y0), .val (.int y1), .val (.int y2), .val (.int y3), .val (.int y4), .val (.int y5), .val (.ref a11), .val (.int (1 : Int32)), .unset, .unset, .unset]) rfl k) ?_
    refine own_to (T18.setTop (mkF m 48 #[.val (.int y0), .val (.int y1), .val (.int y2), .val (.int y3), .val (.int y4), .val (.int y5), .val (.ref a11), .val (.int (1 : Int32)), .unset, .unset, .unset] [(.ref a11)])) (fun t k => XS.aload X18.here hx rfl (hb hby at_46) rfl rfl k) ?_
    refine own_to (T18.setTop (mkF m 50 #[.val (.int y0), .val (.int y1), .val (.int y2), .val (.int y3), .val (.int y4), .val (.int y5), .val (.ref a11), .val (.int (1 : Int32)), .unset, .unset, .unset] [(.int (1 : Int32)), (.ref a11)])) (fun t k => XS.iload X18.here hx rfl (hb hby at_48) rfl k) ?_
    obtain ⟨v54, T54, L54, X54, hQ54, st54⟩ := own_callV X18 hx hZ hown (hw _ (List.mem_of_getElem? (i := 23) rfl)) (hw _ (List.mem_of_getElem? (i := 24) rfl)) (hw _ (List.mem_of_getElem? (i := 26) rfl)) (notFace_of_selects (args := #[]) (mvT hZ (hw _ (List.mem_of_getElem? (i := 26) rfl)))) (hw _ (List.mem_of_getElem? (i := 25) rfl)) (hw _ (List.mem_of_getElem? (i := 27) rfl)) (hw _ (List.mem_of_getElem? (i := 2) rfl)) (by decide) e18 St18.1 (argsL := [(.int (1 : Int32))]) (rest := []) (rmTK l Z a0 hw a11 pg14 bk15 kp14 kb15 y0 y1 y2 y3 0 1 h18 n0 Z18 (by decide) St18 Na14 Nb15) (by decide) (W := 0) (by decide) (by decide) (by decide) pd_4 rfl (pc := 50) (Ls := #[.val (.int y0), .val (.int y1), .val (.int y2), .val (.int y3), .val (.int y4), .val (.int y5), .val (.ref a11), .val (.int (1 : Int32)), .unset, .unset, .unset]) (by rw [hml]; rfl) (Nat.le_of_eq rfl) (hb hby at_50)
    obtain ⟨h54, e54⟩ : ∃ z, T54.heap = z := ⟨_, rfl⟩
    rw [e54] at hQ54
    obtain ⟨rfl, M54, St54, Z54⟩ := hQ54
    have N54 := Fr.app N18 M54
    refine own_to (T54.setTop (mkF m 53 #[.val (.int y0), .val (.int y1), .val (.int y2), .val (.int y3), .val (.int y4), .val (.int y5), .val (.ref a11), .val (.int (1 : Int32)), .unset, .unset, .unset] [])) (fun t k => st54 t k) ?_
    refine own_to (T54.setTop (mkF m 55 #[.val (.int y0), .val (.int y1), .val (.int y2), .val (.int y3), .val (.int y4), .val (.int y5), .val (.ref a11), .val (.int (1 : Int32)), .unset, .unset, .unset] [(.ref a11)])) (fun t k => XS.aload X54.here hx rfl (hb hby at_53) rfl rfl k) ?_
    obtain ⟨v55, T55, L55, X55, hQ55, st55⟩ := own_callV X54 hx hZ hown (hw _ (List.mem_of_getElem? (i := 28) rfl)) (hw _ (List.mem_of_getElem? (i := 29) rfl)) (hw _ (List.mem_of_getElem? (i := 31) rfl)) (notFace_of_selects (args := #[]) (mvT hZ (hw _ (List.mem_of_getElem? (i := 31) rfl)))) (hw _ (List.mem_of_getElem? (i := 30) rfl)) (hw _ (List.mem_of_getElem? (i := 32) rfl)) (hw _ (List.mem_of_getElem? (i := 2) rfl)) (by decide) e54 St54.1 (argsL := []) (rest := []) (rmS l Z a0 hw a11 1 h54 n0 Z54 St54.2.2.1) (by decide) (W := 0) (by decide) (by decide) (by decide) pd_5 rfl (pc := 55) (Ls := #[.val (.int y0), .val (.int y1), .val (.int y2), .val (.int y3), .val (.int y4), .val (.int y5), .val (.ref a11), .val (.int (1 : Int32)), .unset, .unset, .unset]) (by rw [hml]; rfl) (Nat.le_of_eq rfl) (hb hby at_55)
    obtain ⟨rfl, M55, e55⟩ := hQ55
    have N55 := Fr.app N54 M55
    refine own_to (T55.setTop (mkF m 58 #[.val (.int y0), .val (.int y1), .val (.int y2), .val (.int y3), .val (.int y4), .val (.int y5), .val (.ref a11), .val (.int (1 : Int32)), .unset, .unset, .unset] [(.int (1 : Int32))])) (fun t k => st55 t k) ?_
    refine own_to (T55.setTop (mkF m 60 #[.val (.int y0), .val (.int y1), .val (.int y2), .val (.int y3), .val (.int y4), .val (.int y5), .val (.ref a11), .val (.int (1 : Int32)), .unset, .unset, .unset] [(.int (1 : Int32)), (.int (1 : Int32))])) (fun t k => XS.iload X55.here hx rfl (hb hby at_58) rfl k) ?_
    refine own_to (T55.setTop (mkF m 65 #[.val (.int y0), .val (.int y1), .val (.int y2), .val (.int y3), .val (.int y4), .val (.int y5), .val (.ref a11), .val (.int (1 : Int32)), .unset, .unset, .unset] [])) (fun t k => XS.icmpYes X55.here hx rfl (pc0 := 60) (pc' := 65) rfl (hb hby at_60) rfl (teq rfl).1 (by decide) (by decide) k) ?_
    refine own_to (T55.setTop (mkF m 67 #[.val (.int y0), .val (.int y1), .val (.int y2), .val (.int y3), .val (.int y4), .val (.int y5), .val (.ref a11), .val (.int (1 : Int32)), .unset, .unset, .unset] [(.ref a11)])) (fun t k => XS.aload X55.here hx rfl (hb hby at_65) rfl rfl k) ?_
    refine own_to (T55.setTop (mkF m 69 #[.val (.int y0), .val (.int y1), .val (.int y2), .val (.int y3), .val (.int y4), .val (.int y5), .val (.ref a11), .val (.int (1 : Int32)), .unset, .unset, .unset] [(.int y4), (.ref a11)])) (fun t k => XS.iload X55.here hx rfl (hb hby at_67) rfl k) ?_
    obtain ⟨v56, T56, L56, X56, hQ56, st56⟩ := own_callV X55 hx hZ hown (hw _ (List.mem_of_getElem? (i := 13) rfl)) (hw _ (List.mem_of_getElem? (i := 14) rfl)) (hw _ (List.mem_of_getElem? (i := 16) rfl)) (notFace_of_selects (args := #[]) (mvT hZ (hw _ (List.mem_of_getElem? (i := 16) rfl)))) (hw _ (List.mem_of_getElem? (i := 15) rfl)) (hw _ (List.mem_of_getElem? (i := 17) rfl)) (hw _ (List.mem_of_getElem? (i := 2) rfl)) (by decide) e55 St54.1 (argsL := [(.int y4)]) (rest := []) (rmA1 l Z a0 hw a11 pg14 bk15 kp14 kb15 y0 y1 y2 y3 0 y4 h54 n0 Z54 St54 Na14 Nb15) (by decide) (W := 0) (by decide) (by decide) (by decide) pd_3 rfl (pc := 69) (Ls := #[.val (.int y0), .val (.int y1), .val (.int y2), .val (.int y3), .val (.int y4), .val (.int y5), .val (.ref a11), .val (.int (1 : Int32)), .unset, .unset, .unset]) (by rw [hml]; rfl) (Nat.le_of_eq rfl) (hb hby at_69)
    obtain ⟨h56, e56⟩ : ∃ z, T56.heap = z := ⟨_, rfl⟩
    rw [e56] at hQ56
    obtain ⟨rfl, M56, St56, Z56⟩ := hQ56
    have N56 := Fr.app N55 M56
    refine own_to (T56.setTop (mkF m 72 #[.val (.int y0), .val (.int y1), .val (.int y2), .val (.int y3), .val (.int y4), .val (.int y5), .val (.ref a11), .val (.int (1 : Int32)), .unset, .unset, .unset] [(.int (1 : Int32))])) (fun t k => st56 t k) ?_
    refine own_to (T56.setTop (mkF m 74 #[.val (.int y0), .val (.int y1), .val (.int y2), .val (.int y3), .val (.int y4), .val (.int y5), .val (.ref a11), .val (.int (1 : Int32)), .val (.int (1 : Int32)), .unset, .unset] [])) (fun t k => XS.istore X56.here hx rfl (hb hby at_72) rfl (l' := #[.val (.int y0), .val (.int y1), .val (.int y2), .val (.int y3), .val (.int y4), .val (.int y5), .val (.ref a11), .val (.int (1 : Int32)), .val (.int (1 : Int32)), .unset, .unset]) rfl k) ?_
    refine own_to (T56.setTop (mkF m 76 #[.val (.int y0), .val (.int y1), .val (.int y2), .val (.int y3), .val (.int y4), .val (.int y5), .val (.ref a11), .val (.int (1 : Int32)), .val (.int (1 : Int32)), .unset, .unset] [(.int (1 : Int32))])) (fun t k => XS.iload X56.here hx rfl (hb hby at_74) rfl k) ?_
    refine own_to (T56.setTop (mkF m 78 #[.val (.int y0), .val (.int y1), .val (.int y2), .val (.int y3), .val (.int y4), .val (.int y5), .val (.ref a11), .val (.int (1 : Int32)), .val (.int (1 : Int32)), .unset, .unset] [(.int (1 : Int32)), (.int (1 : Int32))])) (fun t k => XS.iload X56.here hx rfl (hb hby at_76) rfl k) ?_
    refine own_to (T56.setTop (mkF m 83 #[.val (.int y0), .val (.int y1), .val (.int y2), .val (.int y3), .val (.int y4), .val (.int y5), .val (.ref a11), .val (.int (1 : Int32)), .val (.int (1 : Int32)), .unset, .unset] [])) (fun t k => XS.icmpYes X56.here hx rfl (pc0 := 78) (pc' := 83) rfl (hb hby at_78) rfl (teq rfl).1 (by decide) (by decide) k) ?_
    refine own_to (T56.setTop (mkF m 85 #[.val (.int y0), .val (.int y1), .val (.int y2), .val (.int y3), .val (.int y4), .val (.int y5), .val (.ref a11), .val (.int (1 : Int32)), .val (.int (1 : Int32)), .unset, .unset] [(.ref a11)])) (fun t k => XS.aload X56.here hx rfl (hb hby at_83) rfl rfl k) ?_
    obtain ⟨v57, T57, L57, X57, hQ57, st57⟩ := own_callV X56 hx hZ hown (hw _ (List.mem_of_getElem? (i := 33) rfl)) (hw _ (List.mem_of_getElem? (i := 34) rfl)) (hw _ (List.mem_of_getElem? (i := 36) rfl)) (notFace_of_selects (args := #[]) (mvT hZ (hw _ (List.mem_of_getElem? (i := 36) rfl)))) (hw _ (List.mem_of_getElem? (i := 35) rfl)) (hw _ (List.mem_of_getElem? (i := 37) rfl)) (hw _ (List.mem_of_getElem? (i := 2) rfl)) (by decide) e56 St56.1 (argsL := []) (rest := []) (rmY2 l Z a0 hw a11 pg14 bk15 kp14 kb15 y0 y4 y2 y3 0 h56 n0 Z56 St56 Na14 Nb15) (by decide) (W := 0) (by decide) (by decide) (by decide) pd_6 rfl (pc := 85) (Ls := #[.val (.int y0), .val (.int y1), .val (.int y2), .val (.int y3), .val (.int y4), .val (.int y5), .val (.ref a11), .val (.int (1 : Int32)), .val (.int (1 : Int32)), .unset, .unset]) (by rw [hml]; rfl) (Nat.le_of_eq rfl) (hb hby at_85)
    obtain ⟨h57, e57⟩ : ∃ z, T57.heap = z := ⟨_, rfl⟩
    rw [e57] at hQ57
    obtain ⟨ar57, ka57, rfl, M57, V57, Z57⟩ := hQ57
    have N57 := Fr.app N56 M57
    refine own_to (T57.setTop (mkF m 88 #[.val (.int y0), .val (.int y1), .val (.int y2), .val (.int y3), .val (.int y4), .val (.int y5), .val (.ref a11), .val (.int (1 : Int32)), .val (.int (1 : Int32)), .unset, .unset] [(.ref ar57)])) (fun t k => st57 t k) ?_
    refine own_to (T57.setTop (mkF m 90 #[.val (.int y0), .val (.int y1), .val (.int y2), .val (.int y3), .val (.int y4), .val (.int y5), .val (.ref a11), .val (.int (1 : Int32)), .val (.int (1 : Int32)), .val (.ref ar57), .unset] [])) (fun t k => XS.astore X57.here hx rfl (hb hby at_88) rfl rfl (l' := #[.val (.int y0), .val (.int y1), .val (.int y2), .val (.int y3), .val (.int y4), .val (.int y5), .val (.ref a11), .val (.int (1 : Int32)), .val (.int (1 : Int32)), .val (.ref ar57), .unset]) rfl k) ?_
    refine own_to (T57.setTop (mkF m 92 #[.val (.int y0), .val (.int y1), .val (.int y2), .val (.int y3), .val (.int y4), .val (.int y5), .val (.ref a11), .val (.int (1 : Int32)), .val (.int (1 : Int32)), .val (.ref ar57), .unset] [(.ref ar57)])) (fun t k => XS.aload X57.here hx rfl (hb hby at_90) rfl rfl k) ?_
    obtain ⟨c58, r58, q58, z58, p58, j58, f58⟩ := id V57
    refine own_to (T57.setTop (mkF m 93 #[.val (.int y0), .val (.int y1), .val (.int y2), .val (.int y3), .val (.int y4), .val (.int y5), .val (.ref a11), .val (.int (1 : Int32)), .val (.int (1 : Int32)), .val (.ref ar57), .unset] [(.int (2 : Int32))])) (fun t k => X57.arraylength hx (by rw [e57]; exact r58.1) (State.isArrayOf_alike hZ.alike r58.2.1) (g := (mkF m 92 #[.val (.int y0), .val (.int y1), .val (.int y2), .val (.int y3), .val (.int y4), .val (.int y5), .val (.ref a11), .val (.int (1 : Int32)), .val (.int (1 : Int32)), .val (.ref ar57), .unset] [(.ref ar57)])) rfl rfl (hb hby at_92) t (by rw [len_of z58 p58]; exact k)) ?_
    refine own_to (T57.setTop (mkF m 95 #[.val (.int y0), .val (.int y1), .val (.int y2), .val (.int y3), .val (.int y4), .val (.int y5), .val (.ref a11), .val (.int (1 : Int32)), .val (.int (1 : Int32)), .val (.ref ar57), .unset] [(.int (1 : Int32)), (.int (2 : Int32))])) (fun t k => XS.iload X57.here hx rfl (hb hby at_93) rfl k) ?_
    refine own_to (T57.setTop (mkF m 96 #[.val (.int y0), .val (.int y1), .val (.int y2), .val (.int y3), .val (.int y4), .val (.int y5), .val (.ref a11), .val (.int (1 : Int32)), .val (.int (1 : Int32)), .val (.ref ar57), .unset] [(.int (1 : Int32)), (.int (1 : Int32)), (.int (2 : Int32))])) (fun t k => XT.iconstV X57.here hx rfl (1 : Int32) (hb hby at_95) (by decide) k) ?_
    refine own_to (T57.setTop (mkF m 97 #[.val (.int y0), .val (.int y1), .val (.int y2), .val (.int y3), .val (.int y4), .val (.int y5), .val (.ref a11), .val (.int (1 : Int32)), .val (.int (1 : Int32)), .val (.ref ar57), .unset] [(.int (2 : Int32)), (.int (2 : Int32))])) (fun t k => XS.iadd X57.here hx rfl (hb hby at_96) rfl (by rw [show ((1 : Int32) + (1 : Int32)) = (2 : Int32) from by decide]; exact k)) ?_
    refine own_to (T57.setTop (mkF m 102 #[.val (.int y0), .val (.int y1), .val (.int y2), .val (.int y3), .val (.int y4), .val (.int y5), .val (.ref a11), .val (.int (1 : Int32)), .val (.int (1 : Int32)), .val (.ref ar57), .unset] [])) (fun t k => XS.icmpYes X57.here hx rfl (pc0 := 97) (pc' := 102) rfl (hb hby at_97) rfl (teq rfl).1 (by decide) (by decide) k) ?_
    refine own_to (T57.setTop (mkF m 103 #[.val (.int y0), .val (.int y1), .val (.int y2), .val (.int y3), .val (.int y4), .val (.int y5), .val (.ref a11), .val (.int (1 : Int32)), .val (.int (1 : Int32)), .val (.ref ar57), .unset] [(.int (4 : Int32))])) (fun t k => XT.iconstV X57.here hx rfl (4 : Int32) (hb hby at_102) (by decide) k) ?_
    obtain ⟨T59, h59, k59, X59, e59, E59, A59, B59, st59⟩ := newPE X57 hx hZ (hw _ (List.mem_of_getElem? (i := 20) rfl)) e57 (g := (mkF m 103 #[.val (.int y0), .val (.int y1), .val (.int y2), .val (.int y3), .val (.int y4), .val (.int y5), .val (.ref a11), .val (.int (1 : Int32)), .val (.int (1 : Int32)), .val (.ref ar57), .unset] [(.int (4 : Int32))])) rfl (hb hby at_103) rfl (by decide) (cap := 4) (by decide) (by decide) (by decide) (by decide) (ad := "[I") (by decide)
    obtain ⟨a59, g59⟩ : ∃ z, z = h57.size := ⟨_, rfl⟩
    rw [← g59] at A59 B59 st59
    have ne_ar57_a59 : ar57 ≠ a59 := Nat.ne_of_lt (g59 ▸ V57.lt)
    have Z59 : n0 ≤ h59.size := Nat.le_trans Z57 E59.1
    have ge59 : n0 ≤ a59 := Nat.le_trans Z57 (Nat.le_of_eq g59.symm)
    have F60 := V57.ext E59
    have V61 : Arv Z h59 a59 k59 .int (4 : Int32) [(.int (0 : Int32)), (.int (0 : Int32)), (.int (0 : Int32)), (.int (0 : Int32))] (.int (0 : Int32)) := (Arv.new A59 (by decide)).pad (pad_rep [] _ 4)
    refine own_to (T59.setTop (mkF m 105 #[.val (.int y0), .val (.int y1), .val (.int y2), .val (.int y3), .val (.int y4), .val (.int y5), .val (.ref a11), .val (.int (1 : Int32)), .val (.int (1 : Int32)), .val (.ref ar57), .unset] [(.ref a59)])) (fun t k => st59 t k) ?_
    refine own_to (T59.setTop (mkF m 107 #[.val (.int y0), .val (.int y1), .val (.int y2), .val (.int y3), .val (.int y4), .val (.int y5), .val (.ref a11), .val (.int (1 : Int32)), .val (.int (1 : Int32)), .val (.ref ar57), .val (.ref a59)] [])) (fun t k => XS.astore X59.here hx rfl (hb hby at_105) rfl rfl (l' := #[.val (.int y0), .val (.int y1), .val (.int y2), .val (.int y3), .val (.int y4), .val (.int y5), .val (.ref a11), .val (.int (1 : Int32)), .val (.int (1 : Int32)), .val (.ref ar57), .val (.ref a59)]) rfl k) ?_
    refine own_to (T59.setTop (mkF m 109 #[.val (.int y0), .val (.int y1), .val (.int y2), .val (.int y3), .val (.int y4), .val (.int y5), .val (.ref a11), .val (.int (1 : Int32)), .val (.int (1 : Int32)), .val (.ref ar57), .val (.ref a59)] [(.ref a59)])) (fun t k => XS.aload X59.here hx rfl (hb hby at_107) rfl rfl k) ?_
    refine own_to (T59.setTop (mkF m 110 #[.val (.int y0), .val (.int y1), .val (.int y2), .val (.int y3), .val (.int y4), .val (.int y5), .val (.ref a11), .val (.int (1 : Int32)), .val (.int (1 : Int32)), .val (.ref ar57), .val (.ref a59)] [(.int (0 : Int32)), (.ref a59)])) (fun t k => XT.iconstV X59.here hx rfl (0 : Int32) (hb hby at_109) (by decide) k) ?_
    refine own_to (T59.setTop (mkF m 111 #[.val (.int y0), .val (.int y1), .val (.int y2), .val (.int y3), .val (.int y4), .val (.int y5), .val (.ref a11), .val (.int (1 : Int32)), .val (.int (1 : Int32)), .val (.ref ar57), .val (.ref a59)] [(.int y0), (.int (0 : Int32)), (.ref a59)])) (fun t k => XS.iloadN X59.here hx rfl (hb hby at_110) rfl k) ?_
    obtain ⟨c62, r62, q62, z62, p62, j62, f62⟩ := id V61
    have u62 := inb_of z62 (j := (0 : Int32)) ⟨by decide, by decide⟩
    obtain ⟨T62, h62, X62, e62, W62, st62⟩ := stI X59 hx hZ e59 r62 u62 (g := (mkF m 111 #[.val (.int y0), .val (.int y1), .val (.int y2), .val (.int y3), .val (.int y4), .val (.int y5), .val (.ref a11), .val (.int (1 : Int32)), .val (.int (1 : Int32)), .val (.ref ar57), .val (.ref a59)] [(.int y0), (.int (0 : Int32)), (.ref a59)])) rfl rfl (hb hby at_111)
    have N62 := Fr.snoc X62 N57 ge59
    have F63 := F60.other W62 ne_ar57_a59
    have F64 := B59.wr W62
    have V65 : Arv Z h62 a59 k59 .int (4 : Int32) [(.int y0), (.int (0 : Int32)), (.int (0 : Int32)), (.int (0 : Int32))] (.int (0 : Int32)) := Arv.set r62 q62 z62 p62 j62 f62 rfl W62 0 rfl (Nat.le_of_ble_eq_true rfl)
    have Z66 : n0 ≤ h62.size := by rw [W62.size]; exact Z59
    refine own_to (T62.setTop (mkF m 112 #[.val (.int y0), .val (.int y1), .val (.int y2), .val (.int y3), .val (.int y4), .val (.int y5), .val (.ref a11), .val (.int (1 : Int32)), .val (.int (1 : Int32)), .val (.ref ar57), .val (.ref a59)] [])) (fun t k => st62 t k) ?_
    refine own_to (T62.setTop (mkF m 114 #[.val (.int y0), .val (.int y1), .val (.int y2), .val (.int y3), .val (.int y4), .val (.int y5), .val (.ref a11), .val (.int (1 : Int32)), .val (.int (1 : Int32)), .val (.ref ar57), .val (.ref a59)] [(.ref a59)])) (fun t k => XS.aload X62.here hx rfl (hb hby at_112) rfl rfl k) ?_
    refine own_to (T62.setTop (mkF m 115 #[.val (.int y0), .val (.int y1), .val (.int y2), .val (.int y3), .val (.int y4), .val (.int y5), .val (.ref a11), .val (.int (1 : Int32)), .val (.int (1 : Int32)), .val (.ref ar57), .val (.ref a59)] [(.int (1 : Int32)), (.ref a59)])) (fun t k => XT.iconstV X62.here hx rfl (1 : Int32) (hb hby at_114) (by decide) k) ?_
    refine own_to (T62.setTop (mkF m 116 #[.val (.int y0), .val (.int y1), .val (.int y2), .val (.int y3), .val (.int y4), .val (.int y5), .val (.ref a11), .val (.int (1 : Int32)), .val (.int (1 : Int32)), .val (.ref ar57), .val (.ref a59)] [(.int y1), (.int (1 : Int32)), (.ref a59)])) (fun t k => XS.iloadN X62.here hx rfl (hb hby at_115) rfl k) ?_
    obtain ⟨c67, r67, q67, z67, p67, j67, f67⟩ := id V65
    have u67 := inb_of z67 (j := (1 : Int32)) ⟨by decide, by decide⟩
    obtain ⟨T67, h67, X67, e67, W67, st67⟩ := stI X62 hx hZ e62 r67 u67 (g := (mkF m 116 #[.val (.int y0), .val (.int y1), .val (.int y2), .val (.int y3), .val (.int y4), .val (.int y5), .val (.ref a11), .val (.int (1 : Int32)), .val (.int (1 : Int32)), .val (.ref ar57), .val (.ref a59)] [(.int y1), (.int (1 : Int32)), (.ref a59)])) rfl rfl (hb hby at_116)
    have N67 := Fr.snoc X67 N62 ge59
    have F68 := F63.other W67 ne_ar57_a59
    have F69 := F64.wr W67
    have V70 : Arv Z h67 a59 k59 .int (4 : Int32) [(.int y0), (.int y1), (.int (0 : Int32)), (.int (0 : Int32))] (.int (0 : Int32)) := Arv.set r67 q67 z67 p67 j67 f67 rfl W67 1 rfl (Nat.le_of_ble_eq_true rfl)
    have Z71 : n0 ≤ h67.size := by rw [W67.size]; exact Z66
    refine own_to (T67.setTop (mkF m 117 #[.val (.int y0), .val (.int y1), .val (.int y2), .val (.int y3), .val (.int y4), .val (.int y5), .val (.ref a11), .val (.int (1 : Int32)), .val (.int (1 : Int32)), .val (.ref ar57), .val (.ref a59)] [])) (fun t k => st67 t k) ?_
    refine own_to (T67.setTop (mkF m 119 #[.val (.int y0), .val (.int y1), .val (.int y2), .val (.int y3), .val (.int y4), .val (.int y5), .val (.ref a11), .val (.int (1 : Int32)), .val (.int (1 : Int32)), .val (.ref ar57), .val (.ref a59)] [(.ref a59)])) (fun t k => XS.aload X67.here hx rfl (hb hby at_117) rfl rfl k) ?_
    refine own_to (T67.setTop (mkF m 120 #[.val (.int y0), .val (.int y1), .val (.int y2), .val (.int y3), .val (.int y4), .val (.int y5), .val (.ref a11), .val (.int (1 : Int32)), .val (.int (1 : Int32)), .val (.ref ar57), .val (.ref a59)] [(.int (2 : Int32)), (.ref a59)])) (fun t k => XT.iconstV X67.here hx rfl (2 : Int32) (hb hby at_119) (by decide) k) ?_
    refine own_to (T67.setTop (mkF m 121 #[.val (.int y0), .val (.int y1), .val (.int y2), .val (.int y3), .val (.int y4), .val (.int y5), .val (.ref a11), .val (.int (1 : Int32)), .val (.int (1 : Int32)), .val (.ref ar57), .val (.ref a59)] [(.int y2), (.int (2 : Int32)), (.ref a59)])) (fun t k => XS.iloadN X67.here hx rfl (hb hby at_120) rfl k) ?_
    obtain ⟨c72, r72, q72, z72, p72, j72, f72⟩ := id V70
    have u72 := inb_of z72 (j := (2 : Int32)) ⟨by decide, by decide⟩
    obtain ⟨T72, h72, X72, e72, W72, st72⟩ := stI X67 hx hZ e67 r72 u72 (g := (mkF m 121 #[.val (.int y0), .val (.int y1), .val (.int y2), .val (.int y3), .val (.int y4), .val (.int y5), .val (.ref a11), .val (.int (1 : Int32)), .val (.int (1 : Int32)), .val (.ref ar57), .val (.ref a59)] [(.int y2), (.int (2 : Int32)), (.ref a59)])) rfl rfl (hb hby at_121)
    have N72 := Fr.snoc X72 N67 ge59
    have F73 := F68.other W72 ne_ar57_a59
    have F74 := F69.wr W72
    have V75 : Arv Z h72 a59 k59 .int (4 : Int32) [(.int y0), (.int y1), (.int y2), (.int (0 : Int32))] (.int (0 : Int32)) := Arv.set r72 q72 z72 p72 j72 f72 rfl W72 2 rfl (Nat.le_of_ble_eq_true rfl)
    have Z76 : n0 ≤ h72.size := by rw [W72.size]; exact Z71
    refine own_to (T72.setTop (mkF m 122 #[.val (.int y0), .val (.int y1), .val (.int y2), .val (.int y3), .val (.int y4), .val (.int y5), .val (.ref a11), .val (.int (1 : Int32)), .val (.int (1 : Int32)), .val (.ref ar57), .val (.ref a59)] [])) (fun t k => st72 t k) ?_
    refine own_to (T72.setTop (mkF m 124 #[.val (.int y0), .val (.int y1), .val (.int y2), .val (.int y3), .val (.int y4), .val (.int y5), .val (.ref a11), .val (.int (1 : Int32)), .val (.int (1 : Int32)), .val (.ref ar57), .val (.ref a59)] [(.ref a59)])) (fun t k => XS.aload X72.here hx rfl (hb hby at_122) rfl rfl k) ?_
    refine own_to (T72.setTop (mkF m 125 #[.val (.int y0), .val (.int y1), .val (.int y2), .val (.int y3), .val (.int y4), .val (.int y5), .val (.ref a11), .val (.int (1 : Int32)), .val (.int (1 : Int32)), .val (.ref ar57), .val (.ref a59)] [(.int (3 : Int32)), (.ref a59)])) (fun t k => XT.iconstV X72.here hx rfl (3 : Int32) (hb hby at_124) (by decide) k) ?_
    refine own_to (T72.setTop (mkF m 126 #[.val (.int y0), .val (.int y1), .val (.int y2), .val (.int y3), .val (.int y4), .val (.int y5), .val (.ref a11), .val (.int (1 : Int32)), .val (.int (1 : Int32)), .val (.ref ar57), .val (.ref a59)] [(.int y3), (.int (3 : Int32)), (.ref a59)])) (fun t k => XS.iloadN X72.here hx rfl (hb hby at_125) rfl k) ?_
    obtain ⟨c77, r77, q77, z77, p77, j77, f77⟩ := id V75
    have u77 := inb_of z77 (j := (3 : Int32)) ⟨by decide, by decide⟩
    obtain ⟨T77, h77, X77, e77, W77, st77⟩ := stI X72 hx hZ e72 r77 u77 (g := (mkF m 126 #[.val (.int y0), .val (.int y1), .val (.int y2), .val (.int y3), .val (.int y4), .val (.int y5), .val (.ref a11), .val (.int (1 : Int32)), .val (.int (1 : Int32)), .val (.ref ar57), .val (.ref a59)] [(.int y3), (.int (3 : Int32)), (.ref a59)])) rfl rfl (hb hby at_126)
    have N77 := Fr.snoc X77 N72 ge59
    have F78 := F73.other W77 ne_ar57_a59
    have F79 := F74.wr W77
    have V80 : Arv Z h77 a59 k59 .int (4 : Int32) [(.int y0), (.int y1), (.int y2), (.int y3)] (.int (0 : Int32)) := Arv.set r77 q77 z77 p77 j77 f77 rfl W77 3 rfl (Nat.le_of_ble_eq_true rfl)
    have Z81 : n0 ≤ h77.size := by rw [W77.size]; exact Z76
    refine own_to (T77.setTop (mkF m 127 #[.val (.int y0), .val (.int y1), .val (.int y2), .val (.int y3), .val (.int y4), .val (.int y5), .val (.ref a11), .val (.int (1 : Int32)), .val (.int (1 : Int32)), .val (.ref ar57), .val (.ref a59)] [])) (fun t k => st77 t k) ?_
    refine own_to (T77.setTop (mkF m 129 #[.val (.int y0), .val (.int y1), .val (.int y2), .val (.int y3), .val (.int y4), .val (.int y5), .val (.ref a11), .val (.int (1 : Int32)), .val (.int (1 : Int32)), .val (.ref ar57), .val (.ref a59)] [(.ref ar57)])) (fun t k => XS.aload X77.here hx rfl (hb hby at_127) rfl rfl k) ?_
    refine own_to (T77.setTop (mkF m 130 #[.val (.int y0), .val (.int y1), .val (.int y2), .val (.int y3), .val (.int y4), .val (.int y5), .val (.ref a11), .val (.int (1 : Int32)), .val (.int (1 : Int32)), .val (.ref ar57), .val (.ref a59)] [(.int (0 : Int32)), (.ref ar57)])) (fun t k => XT.iconstV X77.here hx rfl (0 : Int32) (hb hby at_129) (by decide) k) ?_
    refine own_to (T77.setTop (mkF m 132 #[.val (.int y0), .val (.int y1), .val (.int y2), .val (.int y3), .val (.int y4), .val (.int y5), .val (.ref a11), .val (.int (1 : Int32)), .val (.int (1 : Int32)), .val (.ref ar57), .val (.ref a59)] [(.int (1 : Int32)), (.int (0 : Int32)), (.ref ar57)])) (fun t k => XS.iload X77.here hx rfl (hb hby at_130) rfl k) ?_
    refine own_to (T77.setTop (mkF m 134 #[.val (.int y0), .val (.int y1), .val (.int y2), .val (.int y3), .val (.int y4), .val (.int y5), .val (.ref a11), .val (.int (1 : Int32)), .val (.int (1 : Int32)), .val (.ref ar57), .val (.ref a59)] [(.ref a59), (.int (1 : Int32)), (.int (0 : Int32)), (.ref ar57)])) (fun t k => XS.aload X77.here hx rfl (hb hby at_132) rfl rfl k) ?_
    refine own_to (T77.setTop (mkF m 136 #[.val (.int y0), .val (.int y1), .val (.int y2), .val (.int y3), .val (.int y4), .val (.int y5), .val (.ref a11), .val (.int (1 : Int32)), .val (.int (1 : Int32)), .val (.ref ar57), .val (.ref a59)] [(.int y4), (.ref a59), (.int (1 : Int32)), (.int (0 : Int32)), (.ref ar57)])) (fun t k => XS.iload X77.here hx rfl (hb hby at_134) rfl k) ?_
    obtain ⟨c82, r82, q82, z82, p82, j82, f82⟩ := id F78
    obtain ⟨c83, r83, q83, z83, p83, j83, f83⟩ := id V80
    obtain ⟨v84, T84, L84, X84, hQ84, st84⟩ := own_callS X77 hx hZ hown (hw _ (List.mem_of_getElem? (i := 46) rfl)) (hw _ (List.mem_of_getElem? (i := 47) rfl)) (hw _ (List.mem_of_getElem? (i := 49) rfl)) (hw _ (List.mem_of_getElem? (i := 48) rfl)) (by decide) e77 (argsL := [(.ref ar57), (.int (0 : Int32)), (.int (1 : Int32)), (.ref a59), (.int y4)]) (rest := []) (rmt3 l Z a0 hw ar57 a59 (0 : Int32) (1 : Int32) y4 c82 c83 y0 h77 n0 Z81 (by decide) (by decide) r82 (inb_of z82 ⟨by decide, by decide⟩) (j82.at (inb_of z82 ⟨by decide, by decide⟩) rfl) r83 (inb_of z83 ⟨by decide, by decide⟩) (j83.at (inb_of z83 ⟨by decide, by decide⟩) rfl)) (by decide) (W := 0) (by decide) (by decide) (by decide) pd_8 rfl (pc := 136) (Ls := #[.val (.int y0), .val (.int y1), .val (.int y2), .val (.int y3), .val (.int y4), .val (.int y5), .val (.ref a11), .val (.int (1 : Int32)), .val (.int (1 : Int32)), .val (.ref ar57), .val (.ref a59)]) (by rw [hml]; rfl) (Nat.le_of_eq rfl) (hb hby at_136)
    obtain ⟨rfl, M84, e84⟩ := hQ84
    have N84 := Fr.app N77 M84
    refine own_to (T84.setTop (mkF m 139 #[.val (.int y0), .val (.int y1), .val (.int y2), .val (.int y3), .val (.int y4), .val (.int y5), .val (.ref a11), .val (.int (1 : Int32)), .val (.int (1 : Int32)), .val (.ref ar57), .val (.ref a59)] [(.int (1 : Int32))])) (fun t k => st84 t k) ?_
    refine own_to (T84.setTop (mkF m 142 #[.val (.int y0), .val (.int y1), .val (.int y2), .val (.int y3), .val (.int y4), .val (.int y5), .val (.ref a11), .val (.int (1 : Int32)), .val (.int (1 : Int32)), .val (.ref ar57), .val (.ref a59)] [])) (fun t k => XS.ifNo X84.here hx rfl (hb hby at_139) rfl ((if0 _ _).trans (feq (by decide)).1) k) ?_
    refine own_to (T84.setTop (mkF m 144 #[.val (.int y0), .val (.int y1), .val (.int y2), .val (.int y3), .val (.int y4), .val (.int y5), .val (.ref a11), .val (.int (1 : Int32)), .val (.int (1 : Int32)), .val (.ref ar57), .val (.ref a59)] [(.ref ar57)])) (fun t k => XS.aload X84.here hx rfl (hb hby at_142) rfl rfl k) ?_
    refine own_to (T84.setTop (mkF m 145 #[.val (.int y0), .val (.int y1), .val (.int y2), .val (.int y3), .val (.int y4), .val (.int y5), .val (.ref a11), .val (.int (1 : Int32)), .val (.int (1 : Int32)), .val (.ref ar57), .val (.ref a59)] [(.int (1 : Int32)), (.ref ar57)])) (fun t k => XT.iconstV X84.here hx rfl (1 : Int32) (hb hby at_144) (by decide) k) ?_
    refine own_to (T84.setTop (mkF m 147 #[.val (.int y0), .val (.int y1), .val (.int y2), .val (.int y3), .val (.int y4), .val (.int y5), .val (.ref a11), .val (.int (1 : Int32)), .val (.int (1 : Int32)), .val (.ref ar57), .val (.ref a59)] [(.int (1 : Int32)), (.int (1 : Int32)), (.ref ar57)])) (fun t k => XS.iload X84.here hx rfl (hb hby at_145) rfl k) ?_
    refine own_to (T84.setTop (mkF m 149 #[.val (.int y0), .val (.int y1), .val (.int y2), .val (.int y3), .val (.int y4), .val (.int y5), .val (.ref a11), .val (.int (1 : Int32)), .val (.int (1 : Int32)), .val (.ref ar57), .val (.ref a59)] [(.ref a59), (.int (1 : Int32)), (.int (1 : Int32)), (.ref ar57)])) (fun t k => XS.aload X84.here hx rfl (hb hby at_147) rfl rfl k) ?_
    refine own_to (T84.setTop (mkF m 151 #[.val (.int y0), .val (.int y1), .val (.int y2), .val (.int y3), .val (.int y4), .val (.int y5), .val (.ref a11), .val (.int (1 : Int32)), .val (.int (1 : Int32)), .val (.ref ar57), .val (.ref a59)] [(.int y4), (.ref a59), (.int (1 : Int32)), (.int (1 : Int32)), (.ref ar57)])) (fun t k => XS.iload X84.here hx rfl (hb hby at_149) rfl k) ?_
    obtain ⟨v85, T85, L85, X85, hQ85, st85⟩ := own_callS X84 hx hZ hown (hw _ (List.mem_of_getElem? (i := 46) rfl)) (hw _ (List.mem_of_getElem? (i := 47) rfl)) (hw _ (List.mem_of_getElem? (i := 49) rfl)) (hw _ (List.mem_of_getElem? (i := 48) rfl)) (by decide) e84 (argsL := [(.ref ar57), (.int (1 : Int32)), (.int (1 : Int32)), (.ref a59), (.int y4)]) (rest := []) (rmt2 l Z a0 hw ar57 a59 (1 : Int32) (1 : Int32) y4 c82 h77 n0 Z81 (by decide) (by decide) r82 (inb_of z82 ⟨by decide, by decide⟩) (j82.at (inb_of z82 ⟨by decide, by decide⟩) rfl)) (by decide) (W := 0) (by decide) (by decide) (by decide) pd_8 rfl (pc := 151) (Ls := #[.val (.int y0), .val (.int y1), .val (.int y2), .val (.int y3), .val (.int y4), .val (.int y5), .val (.ref a11), .val (.int (1 : Int32)), .val (.int (1 : Int32)), .val (.ref ar57), .val (.ref a59)]) (by rw [hml]; rfl) (Nat.le_of_eq rfl) (hb hby at_151)
    obtain ⟨rfl, M85, e85⟩ := hQ85
    have N85 := Fr.app N84 M85
    refine own_to (T85.setTop (mkF m 154 #[.val (.int y0), .val (.int y1), .val (.int y2), .val (.int y3), .val (.int y4), .val (.int y5), .val (.ref a11), .val (.int (1 : Int32)), .val (.int (1 : Int32)), .val (.ref ar57), .val (.ref a59)] [(.int (1 : Int32))])) (fun t k => st85 t k) ?_
    refine own_to (T85.setTop (mkF m 157 #[.val (.int y0), .val (.int y1), .val (.int y2), .val (.int y3), .val (.int y4), .val (.int y5), .val (.ref a11), .val (.int (1 : Int32)), .val (.int (1 : Int32)), .val (.ref ar57), .val (.ref a59)] [])) (fun t k => XS.ifNo X85.here hx rfl (hb hby at_154) rfl ((if0 _ _).trans (feq (by decide)).1) k) ?_
    refine own_to (T85.setTop (mkF m 159 #[.val (.int y0), .val (.int y1), .val (.int y2), .val (.int y3), .val (.int y4), .val (.int y5), .val (.ref a11), .val (.int (1 : Int32)), .val (.int (1 : Int32)), .val (.ref ar57), .val (.ref a59)] [(.ref ar57)])) (fun t k => XS.aload X85.here hx rfl (hb hby at_157) rfl rfl k) ?_
    refine own_to (T85.setTop (mkF m 160 #[.val (.int y0), .val (.int y1), .val (.int y2), .val (.int y3), .val (.int y4), .val (.int y5), .val (.ref a11), .val (.int (1 : Int32)), .val (.int (1 : Int32)), .val (.ref ar57), .val (.ref a59)] [(.int (2 : Int32)), (.ref ar57)])) (fun t k => XT.iconstV X85.here hx rfl (2 : Int32) (hb hby at_159) (by decide) k) ?_
    refine own_to (T85.setTop (mkF m 162 #[.val (.int y0), .val (.int y1), .val (.int y2), .val (.int y3), .val (.int y4), .val (.int y5), .val (.ref a11), .val (.int (1 : Int32)), .val (.int (1 : Int32)), .val (.ref ar57), .val (.ref a59)] [(.int (1 : Int32)), (.int (2 : Int32)), (.ref ar57)])) (fun t k => XS.iload X85.here hx rfl (hb hby at_160) rfl k) ?_
    refine own_to (T85.setTop (mkF m 164 #[.val (.int y0), .val (.int y1), .val (.int y2), .val (.int y3), .val (.int y4), .val (.int y5), .val (.ref a11), .val (.int (1 : Int32)), .val (.int (1 : Int32)), .val (.ref ar57), .val (.ref a59)] [(.ref a59), (.int (1 : Int32)), (.int (2 : Int32)), (.ref ar57)])) (fun t k => XS.aload X85.here hx rfl (hb hby at_162) rfl rfl k) ?_
    refine own_to (T85.setTop (mkF m 166 #[.val (.int y0), .val (.int y1), .val (.int y2), .val (.int y3), .val (.int y4), .val (.int y5), .val (.ref a11), .val (.int (1 : Int32)), .val (.int (1 : Int32)), .val (.ref ar57), .val (.ref a59)] [(.int y4), (.ref a59), (.int (1 : Int32)), (.int (2 : Int32)), (.ref ar57)])) (fun t k => XS.iload X85.here hx rfl (hb hby at_164) rfl k) ?_
    obtain ⟨v86, T86, L86, X86, hQ86, st86⟩ := own_callS X85 hx hZ hown (hw _ (List.mem_of_getElem? (i := 46) rfl)) (hw _ (List.mem_of_getElem? (i := 47) rfl)) (hw _ (List.mem_of_getElem? (i := 49) rfl)) (hw _ (List.mem_of_getElem? (i := 48) rfl)) (by decide) e85 (argsL := [(.ref ar57), (.int (2 : Int32)), (.int (1 : Int32)), (.ref a59), (.int y4)]) (rest := []) (rmt1 l Z a0 hw ar57 a59 (2 : Int32) (1 : Int32) y4 h77 n0 Z81 (by decide)) (by decide) (W := 0) (by decide) (by decide) (by decide) pd_8 rfl (pc := 166) (Ls := #[.val (.int y0), .val (.int y1), .val (.int y2), .val (.int y3), .val (.int y4), .val (.int y5), .val (.ref a11), .val (.int (1 : Int32)), .val (.int (1 : Int32)), .val (.ref ar57), .val (.ref a59)]) (by rw [hml]; rfl) (Nat.le_of_eq rfl) (hb hby at_166)
    obtain ⟨rfl, M86, e86⟩ := hQ86
    have N86 := Fr.app N85 M86
    refine own_to (T86.setTop (mkF m 169 #[.val (.int y0), .val (.int y1), .val (.int y2), .val (.int y3), .val (.int y4), .val (.int y5), .val (.ref a11), .val (.int (1 : Int32)), .val (.int (1 : Int32)), .val (.ref ar57), .val (.ref a59)] [(.int (1 : Int32))])) (fun t k => st86 t k) ?_
    refine own_to (T86.setTop (mkF m 172 #[.val (.int y0), .val (.int y1), .val (.int y2), .val (.int y3), .val (.int y4), .val (.int y5), .val (.ref a11), .val (.int (1 : Int32)), .val (.int (1 : Int32)), .val (.ref ar57), .val (.ref a59)] [])) (fun t k => XS.ifNo X86.here hx rfl (hb hby at_169) rfl ((if0 _ _).trans (feq (by decide)).1) k) ?_
    refine own_to (T86.setTop (mkF m 174 #[.val (.int y0), .val (.int y1), .val (.int y2), .val (.int y3), .val (.int y4), .val (.int y5), .val (.ref a11), .val (.int (1 : Int32)), .val (.int (1 : Int32)), .val (.ref ar57), .val (.ref a59)] [(.ref ar57)])) (fun t k => XS.aload X86.here hx rfl (hb hby at_172) rfl rfl k) ?_
    refine own_to (T86.setTop (mkF m 175 #[.val (.int y0), .val (.int y1), .val (.int y2), .val (.int y3), .val (.int y4), .val (.int y5), .val (.ref a11), .val (.int (1 : Int32)), .val (.int (1 : Int32)), .val (.ref ar57), .val (.ref a59)] [(.int (3 : Int32)), (.ref ar57)])) (fun t k => XT.iconstV X86.here hx rfl (3 : Int32) (hb hby at_174) (by decide) k) ?_
    refine own_to (T86.setTop (mkF m 177 #[.val (.int y0), .val (.int y1), .val (.int y2), .val (.int y3), .val (.int y4), .val (.int y5), .val (.ref a11), .val (.int (1 : Int32)), .val (.int (1 : Int32)), .val (.ref ar57), .val (.ref a59)] [(.int (1 : Int32)), (.int (3 : Int32)), (.ref ar57)])) (fun t k => XS.iload X86.here hx rfl (hb hby at_175) rfl k) ?_
    refine own_to (T86.setTop (mkF m 179 #[.val (.int y0), .val (.int y1), .val (.int y2), .val (.int y3), .val (.int y4), .val (.int y5), .val (.ref a11), .val (.int (1 : Int32)), .val (.int (1 : Int32)), .val (.ref ar57), .val (.ref a59)] [(.ref a59), (.int (1 : Int32)), (.int (3 : Int32)), (.ref ar57)])) (fun t k => XS.aload X86.here hx rfl (hb hby at_177) rfl rfl k) ?_
    refine own_to (T86.setTop (mkF m 181 #[.val (.int y0), .val (.int y1), .val (.int y2), .val (.int y3), .val (.int y4), .val (.int y5), .val (.ref a11), .val (.int (1 : Int32)), .val (.int (1 : Int32)), .val (.ref ar57), .val (.ref a59)] [(.int y4), (.ref a59), (.int (1 : Int32)), (.int (3 : Int32)), (.ref ar57)])) (fun t k => XS.iload X86.here hx rfl (hb hby at_179) rfl k) ?_
    obtain ⟨v87, T87, L87, X87, hQ87, st87⟩ := own_callS X86 hx hZ hown (hw _ (List.mem_of_getElem? (i := 46) rfl)) (hw _ (List.mem_of_getElem? (i := 47) rfl)) (hw _ (List.mem_of_getElem? (i := 49) rfl)) (hw _ (List.mem_of_getElem? (i := 48) rfl)) (by decide) e86 (argsL := [(.ref ar57), (.int (3 : Int32)), (.int (1 : Int32)), (.ref a59), (.int y4)]) (rest := []) (rmt1 l Z a0 hw ar57 a59 (3 : Int32) (1 : Int32) y4 h77 n0 Z81 (by decide)) (by decide) (W := 0) (by decide) (by decide) (by decide) pd_8 rfl (pc := 181) (Ls := #[.val (.int y0), .val (.int y1), .val (.int y2), .val (.int y3), .val (.int y4), .val (.int y5), .val (.ref a11), .val (.int (1 : Int32)), .val (.int (1 : Int32)), .val (.ref ar57), .val (.ref a59)]) (by rw [hml]; rfl) (Nat.le_of_eq rfl) (hb hby at_181)
    obtain ⟨rfl, M87, e87⟩ := hQ87
    have N87 := Fr.app N86 M87
    refine own_to (T87.setTop (mkF m 184 #[.val (.int y0), .val (.int y1), .val (.int y2), .val (.int y3), .val (.int y4), .val (.int y5), .val (.ref a11), .val (.int (1 : Int32)), .val (.int (1 : Int32)), .val (.ref ar57), .val (.ref a59)] [(.int (1 : Int32))])) (fun t k => st87 t k) ?_
    refine own_to (T87.setTop (mkF m 187 #[.val (.int y0), .val (.int y1), .val (.int y2), .val (.int y3), .val (.int y4), .val (.int y5), .val (.ref a11), .val (.int (1 : Int32)), .val (.int (1 : Int32)), .val (.ref ar57), .val (.ref a59)] [])) (fun t k => XS.ifNo X87.here hx rfl (hb hby at_184) rfl ((if0 _ _).trans (feq (by decide)).1) k) ?_
    refine own_to (T87.setTop (mkF m 189 #[.val (.int y0), .val (.int y1), .val (.int y2), .val (.int y3), .val (.int y4), .val (.int y5), .val (.ref a11), .val (.int (1 : Int32)), .val (.int (1 : Int32)), .val (.ref ar57), .val (.ref a59)] [(.ref ar57)])) (fun t k => XS.aload X87.here hx rfl (hb hby at_187) rfl rfl k) ?_
    refine own_to (T87.setTop (mkF m 190 #[.val (.int y0), .val (.int y1), .val (.int y2), .val (.int y3), .val (.int y4), .val (.int y5), .val (.ref a11), .val (.int (1 : Int32)), .val (.int (1 : Int32)), .val (.ref ar57), .val (.ref a59)] [(.int (4 : Int32)), (.ref ar57)])) (fun t k => XT.iconstV X87.here hx rfl (4 : Int32) (hb hby at_189) (by decide) k) ?_
    refine own_to (T87.setTop (mkF m 192 #[.val (.int y0), .val (.int y1), .val (.int y2), .val (.int y3), .val (.int y4), .val (.int y5), .val (.ref a11), .val (.int (1 : Int32)), .val (.int (1 : Int32)), .val (.ref ar57), .val (.ref a59)] [(.int (1 : Int32)), (.int (4 : Int32)), (.ref ar57)])) (fun t k => XS.iload X87.here hx rfl (hb hby at_190) rfl k) ?_
    refine own_to (T87.setTop (mkF m 194 #[.val (.int y0), .val (.int y1), .val (.int y2), .val (.int y3), .val (.int y4), .val (.int y5), .val (.ref a11), .val (.int (1 : Int32)), .val (.int (1 : Int32)), .val (.ref ar57), .val (.ref a59)] [(.ref a59), (.int (1 : Int32)), (.int (4 : Int32)), (.ref ar57)])) (fun t k => XS.aload X87.here hx rfl (hb hby at_192) rfl rfl k) ?_
    refine own_to (T87.setTop (mkF m 196 #[.val (.int y0), .val (.int y1), .val (.int y2), .val (.int y3), .val (.int y4), .val (.int y5), .val (.ref a11), .val (.int (1 : Int32)), .val (.int (1 : Int32)), .val (.ref ar57), .val (.ref a59)] [(.int y4), (.ref a59), (.int (1 : Int32)), (.int (4 : Int32)), (.ref ar57)])) (fun t k => XS.iload X87.here hx rfl (hb hby at_194) rfl k) ?_
    obtain ⟨v88, T88, L88, X88, hQ88, st88⟩ := own_callS X87 hx hZ hown (hw _ (List.mem_of_getElem? (i := 46) rfl)) (hw _ (List.mem_of_getElem? (i := 47) rfl)) (hw _ (List.mem_of_getElem? (i := 49) rfl)) (hw _ (List.mem_of_getElem? (i := 48) rfl)) (by decide) e87 (argsL := [(.ref ar57), (.int (4 : Int32)), (.int (1 : Int32)), (.ref a59), (.int y4)]) (rest := []) (rmt1 l Z a0 hw ar57 a59 (4 : Int32) (1 : Int32) y4 h77 n0 Z81 (by decide)) (by decide) (W := 0) (by decide) (by decide) (by decide) pd_8 rfl (pc := 196) (Ls := #[.val (.int y0), .val (.int y1), .val (.int y2), .val (.int y3), .val (.int y4), .val (.int y5), .val (.ref a11), .val (.int (1 : Int32)), .val (.int (1 : Int32)), .val (.ref ar57), .val (.ref a59)]) (by rw [hml]; rfl) (Nat.le_of_eq rfl) (hb hby at_196)
    obtain ⟨rfl, M88, e88⟩ := hQ88
    have N88 := Fr.app N87 M88
    refine own_to (T88.setTop (mkF m 199 #[.val (.int y0), .val (.int y1), .val (.int y2), .val (.int y3), .val (.int y4), .val (.int y5), .val (.ref a11), .val (.int (1 : Int32)), .val (.int (1 : Int32)), .val (.ref ar57), .val (.ref a59)] [(.int (1 : Int32))])) (fun t k => st88 t k) ?_
    refine own_to (T88.setTop (mkF m 202 #[.val (.int y0), .val (.int y1), .val (.int y2), .val (.int y3), .val (.int y4), .val (.int y5), .val (.ref a11), .val (.int (1 : Int32)), .val (.int (1 : Int32)), .val (.ref ar57), .val (.ref a59)] [])) (fun t k => XS.ifNo X88.here hx rfl (hb hby at_199) rfl ((if0 _ _).trans (feq (by decide)).1) k) ?_
    refine own_to (T88.setTop (mkF m 203 #[.val (.int y0), .val (.int y1), .val (.int y2), .val (.int y3), .val (.int y4), .val (.int y5), .val (.ref a11), .val (.int (1 : Int32)), .val (.int (1 : Int32)), .val (.ref ar57), .val (.ref a59)] [(.int (1 : Int32))])) (fun t k => XT.iconstV X88.here hx rfl (1 : Int32) (hb hby at_202) (by decide) k) ?_
    refine own_to (T88.setTop (mkF m 207 #[.val (.int y0), .val (.int y1), .val (.int y2), .val (.int y3), .val (.int y4), .val (.int y5), .val (.ref a11), .val (.int (1 : Int32)), .val (.int (1 : Int32)), .val (.ref ar57), .val (.ref a59)] [(.int (1 : Int32))])) (fun t k => XS.goto X88.here hx rfl (pc0 := 203) (pc' := 207) rfl (hb hby at_203) (by decide) (by decide) k) ?_
    exact own_retZ X88 hx hret hk (i' := (1 : Int32)) (hb hby at_207) (by decide) (by decide) (by decide) ⟨rfl, N88⟩
  · -- k = 2
    refine own_to (T18.setTop (mkF m 44 #[.val (.int y0), .val (.int y1), .val (.int y2), .val (.int y3), .val (.int y4), .val (.int y5), .val (.ref a11), .unset, .unset, .unset, .unset] [(.int (2 : Int32))])) (fun t k => iremM X18 hx rfl (hb hby at_43) rfl (by decide) (by rw [h5]; exact k)) ?_
    refine own_to (T18.setTop (mkF m 46 #[.val (.int y0), .val (.int y1), .val (.int y2), .val (.int y3), .val (.int y4), .val (.int y5), .val (.ref a11), .val (.int (2 : Int32)), .unset, .unset, .unset] [])) (fun t k => XS.istore X18.here hx rfl (hb hby at_44) rfl (l' := #[.val (.int y0), .val (.int y1), .val (.int y2), .val (.int y3), .val (.int y4), .val (.int y5), .val (.ref a11), .val (.int (2 : Int32)), .unset, .unset, .unset]) rfl k) ?_
    refine own_to (T18.setTop (mkF m 48 #[.val (.int y0), .val (.int y1), .val (.int y2), .val (.int y3), .val (.int y4), .val (.int y5), .val (.ref a11), .val (.int (2 : Int32)), .unset, .unset, .unset] [(.ref a11)])) (fun t k => XS.aload X18.here hx rfl (hb hby at_46) rfl rfl k) ?_
    refine own_to (T18.setTop (mkF m 50 #[.val (.int y0), .val (.int y1), .val (.int y2), .val (.int y3), .val (.int y4), .val (.int y5), .val (.ref a11), .val (.int (2 : Int32)), .unset, .unset, .unset] [(.int (2 : Int32)), (.ref a11)])) (fun t k => XS.iload X18.here hx rfl (hb hby at_48) rfl k) ?_
    obtain ⟨v89, T89, L89, X89, hQ89, st89⟩ := own_callV X18 hx hZ hown (hw _ (List.mem_of_getElem? (i := 23) rfl)) (hw _ (List.mem_of_getElem? (i := 24) rfl)) (hw _ (List.mem_of_getElem? (i := 26) rfl)) (notFace_of_selects (args := #[]) (mvT hZ (hw _ (List.mem_of_getElem? (i := 26) rfl)))) (hw _ (List.mem_of_getElem? (i := 25) rfl)) (hw _ (List.mem_of_getElem? (i := 27) rfl)) (hw _ (List.mem_of_getElem? (i := 2) rfl)) (by decide) e18 St18.1 (argsL := [(.int (2 : Int32))]) (rest := []) (rmTK l Z a0 hw a11 pg14 bk15 kp14 kb15 y0 y1 y2 y3 0 2 h18 n0 Z18 (by decide) St18 Na14 Nb15) (by decide) (W := 0) (by decide) (by decide) (by decide) pd_4 rfl (pc := 50) (Ls := #[.val (.int y0), .val (.int y1), .val (.int y2), .val (.int y3), .val (.int y4), .val (.int y5), .val (.ref a11), .val (.int (2 : Int32)), .unset, .unset, .unset]) (by rw [hml]; rfl) (Nat.le_of_eq rfl) (hb hby at_50)
    obtain ⟨h89, e89⟩ : ∃ z, T89.heap = z := ⟨_, rfl⟩
    rw [e89] at hQ89
    obtain ⟨rfl, M89, St89, Z89⟩ := hQ89
    have N89 := Fr.app N18 M89
    refine own_to (T89.setTop (mkF m 53 #[.val (.int y0), .val (.int y1), .val (.int y2), .val (.int y3), .val (.int y4), .val (.int y5), .val (.ref a11), .val (.int (2 : Int32)), .unset, .unset, .unset] [])) (fun t k => st89 t k) ?_
    refine own_to (T89.setTop (mkF m 55 #[.val (.int y0), .val (.int y1), .val (.int y2), .val (.int y3), .val (.int y4), .val (.int y5), .val (.ref a11), .val (.int (2 : Int32)), .unset, .unset, .unset] [(.ref a11)])) (fun t k => XS.aload X89.here hx rfl (hb hby at_53) rfl rfl k) ?_
    obtain ⟨v90, T90, L90, X90, hQ90, st90⟩ := own_callV X89 hx hZ hown (hw _ (List.mem_of_getElem? (i := 28) rfl)) (hw _ (List.mem_of_getElem? (i := 29) rfl)) (hw _ (List.mem_of_getElem? (i := 31) rfl)) (notFace_of_selects (args := #[]) (mvT hZ (hw _ (List.mem_of_getElem? (i := 31) rfl)))) (hw _ (List.mem_of_getElem? (i := 30) rfl)) (hw _ (List.mem_of_getElem? (i := 32) rfl)) (hw _ (List.mem_of_getElem? (i := 2) rfl)) (by decide) e89 St89.1 (argsL := []) (rest := []) (rmS l Z a0 hw a11 2 h89 n0 Z89 St89.2.2.1) (by decide) (W := 0) (by decide) (by decide) (by decide) pd_5 rfl (pc := 55) (Ls := #[.val (.int y0), .val (.int y1), .val (.int y2), .val (.int y3), .val (.int y4), .val (.int y5), .val (.ref a11), .val (.int (2 : Int32)), .unset, .unset, .unset]) (by rw [hml]; rfl) (Nat.le_of_eq rfl) (hb hby at_55)
    obtain ⟨rfl, M90, e90⟩ := hQ90
    have N90 := Fr.app N89 M90
    refine own_to (T90.setTop (mkF m 58 #[.val (.int y0), .val (.int y1), .val (.int y2), .val (.int y3), .val (.int y4), .val (.int y5), .val (.ref a11), .val (.int (2 : Int32)), .unset, .unset, .unset] [(.int (2 : Int32))])) (fun t k => st90 t k) ?_
    refine own_to (T90.setTop (mkF m 60 #[.val (.int y0), .val (.int y1), .val (.int y2), .val (.int y3), .val (.int y4), .val (.int y5), .val (.ref a11), .val (.int (2 : Int32)), .unset, .unset, .unset] [(.int (2 : Int32)), (.int (2 : Int32))])) (fun t k => XS.iload X90.here hx rfl (hb hby at_58) rfl k) ?_
    refine own_to (T90.setTop (mkF m 65 #[.val (.int y0), .val (.int y1), .val (.int y2), .val (.int y3), .val (.int y4), .val (.int y5), .val (.ref a11), .val (.int (2 : Int32)), .unset, .unset, .unset] [])) (fun t k => XS.icmpYes X90.here hx rfl (pc0 := 60) (pc' := 65) rfl (hb hby at_60) rfl (teq rfl).1 (by decide) (by decide) k) ?_
    refine own_to (T90.setTop (mkF m 67 #[.val (.int y0), .val (.int y1), .val (.int y2), .val (.int y3), .val (.int y4), .val (.int y5), .val (.ref a11), .val (.int (2 : Int32)), .unset, .unset, .unset] [(.ref a11)])) (fun t k => XS.aload X90.here hx rfl (hb hby at_65) rfl rfl k) ?_
    refine own_to (T90.setTop (mkF m 69 #[.val (.int y0), .val (.int y1), .val (.int y2), .val (.int y3), .val (.int y4), .val (.int y5), .val (.ref a11), .val (.int (2 : Int32)), .unset, .unset, .unset] [(.int y4), (.ref a11)])) (fun t k => XS.iload X90.here hx rfl (hb hby at_67) rfl k) ?_
    obtain ⟨v91, T91, L91, X91, hQ91, st91⟩ := own_callV X90 hx hZ hown (hw _ (List.mem_of_getElem? (i := 13) rfl)) (hw _ (List.mem_of_getElem? (i := 14) rfl)) (hw _ (List.mem_of_getElem? (i := 16) rfl)) (notFace_of_selects (args := #[]) (mvT hZ (hw _ (List.mem_of_getElem? (i := 16) rfl)))) (hw _ (List.mem_of_getElem? (i := 15) rfl)) (hw _ (List.mem_of_getElem? (i := 17) rfl)) (hw _ (List.mem_of_getElem? (i := 2) rfl)) (by decide) e90 St89.1 (argsL := [(.int y4)]) (rest := []) (rmA2 l Z a0 hw a11 pg14 bk15 kp14 kb15 y0 y1 y2 y3 0 y4 h89 n0 Z89 St89 Na14 Nb15) (by decide) (W := 0) (by decide) (by decide) (by decide) pd_3 rfl (pc := 69) (Ls := #[.val (.int y0), .val (.int y1), .val (.int y2), .val (.int y3), .val (.int y4), .val (.int y5), .val (.ref a11), .val (.int (2 : Int32)), .unset, .unset, .unset]) (by rw [hml]; rfl) (Nat.le_of_eq rfl) (hb hby at_69)
    obtain ⟨h91, e91⟩ : ∃ z, T91.heap = z := ⟨_, rfl⟩
    rw [e91] at hQ91
    obtain ⟨rfl, M91, St91, Z91⟩ := hQ91
    have N91 := Fr.app N90 M91
    refine own_to (T91.setTop (mkF m 72 #[.val (.int y0), .val (.int y1), .val (.int y2), .val (.int y3), .val (.int y4), .val (.int y5), .val (.ref a11), .val (.int (2 : Int32)), .unset, .unset, .unset] [(.int (2 : Int32))])) (fun t k => st91 t k) ?_
    refine own_to (T91.setTop (mkF m 74 #[.val (.int y0), .val (.int y1), .val (.int y2), .val (.int y3), .val (.int y4), .val (.int y5), .val (.ref a11), .val (.int (2 : Int32)), .val (.int (2 : Int32)), .unset, .unset] [])) (fun t k => XS.istore X91.here hx rfl (hb hby at_72) rfl (l' := #[.val (.int y0), .val (.int y1), .val (.int y2), .val (.int y3), .val (.int y4), .val (.int y5), .val (.ref a11), .val (.int (2 : Int32)), .val (.int (2 : Int32)), .unset, .unset]) rfl k) ?_
    refine own_to (T91.setTop (mkF m 76 #[.val (.int y0), .val (.int y1), .val (.int y2), .val (.int y3), .val (.int y4), .val (.int y5), .val (.ref a11), .val (.int (2 : Int32)), .val (.int (2 : Int32)), .unset, .unset] [(.int (2 : Int32))])) (fun t k => XS.iload X91.here hx rfl (hb hby at_74) rfl k) ?_
    refine own_to (T91.setTop (mkF m 78 #[.val (.int y0), .val (.int y1), .val (.int y2), .val (.int y3), .val (.int y4), .val (.int y5), .val (.ref a11), .val (.int (2 : Int32)), .val (.int (2 : Int32)), .unset, .unset] [(.int (2 : Int32)), (.int (2 : Int32))])) (fun t k => XS.iload X91.here hx rfl (hb hby at_76) rfl k) ?_
    refine own_to (T91.setTop (mkF m 83 #[.val (.int y0), .val (.int y1), .val (.int y2), .val (.int y3), .val (.int y4), .val (.int y5), .val (.ref a11), .val (.int (2 : Int32)), .val (.int (2 : Int32)), .unset, .unset] [])) (fun t k => XS.icmpYes X91.here hx rfl (pc0 := 78) (pc' := 83) rfl (hb hby at_78) rfl (teq rfl).1 (by decide) (by decide) k) ?_
    refine own_to (T91.setTop (mkF m 85 #[.val (.int y0), .val (.int y1), .val (.int y2), .val (.int y3), .val (.int y4), .val (.int y5), .val (.ref a11), .val (.int (2 : Int32)), .val (.int (2 : Int32)), .unset, .unset] [(.ref a11)])) (fun t k => XS.aload X91.here hx rfl (hb hby at_83) rfl rfl k) ?_
    obtain ⟨v92, T92, L92, X92, hQ92, st92⟩ := own_callV X91 hx hZ hown (hw _ (List.mem_of_getElem? (i := 33) rfl)) (hw _ (List.mem_of_getElem? (i := 34) rfl)) (hw _ (List.mem_of_getElem? (i := 36) rfl)) (notFace_of_selects (args := #[]) (mvT hZ (hw _ (List.mem_of_getElem? (i := 36) rfl)))) (hw _ (List.mem_of_getElem? (i := 35) rfl)) (hw _ (List.mem_of_getElem? (i := 37) rfl)) (hw _ (List.mem_of_getElem? (i := 2) rfl)) (by decide) e91 St91.1 (argsL := []) (rest := []) (rmY3 l Z a0 hw a11 pg14 bk15 kp14 kb15 y0 y1 y4 y3 0 h91 n0 Z91 St91 Na14 Nb15) (by decide) (W := 0) (by decide) (by decide) (by decide) pd_6 rfl (pc := 85) (Ls := #[.val (.int y0), .val (.int y1), .val (.int y2), .val (.int y3), .val (.int y4), .val (.int y5), .val (.ref a11), .val (.int (2 : Int32)), .val (.int (2 : Int32)), .unset, .unset]) (by rw [hml]; rfl) (Nat.le_of_eq rfl) (hb hby at_85)
    obtain ⟨h92, e92⟩ : ∃ z, T92.heap = z := ⟨_, rfl⟩
    rw [e92] at hQ92
    obtain ⟨ar92, ka92, rfl, M92, V92, Z92⟩ := hQ92
    have N92 := Fr.app N91 M92
    refine own_to (T92.setTop (mkF m 88 #[.val (.int y0), .val (.int y1), .val (.int y2), .val (.int y3), .val (.int y4), .val (.int y5), .val (.ref a11), .val (.int (2 : Int32)), .val (.int (2 : Int32)), .unset, .unset] [(.ref ar92)])) (fun t k => st92 t k) ?_
    refine own_to (T92.setTop (mkF m 90 #[.val (.int y0), .val (.int y1), .val (.int y2), .val (.int y3), .val (.int y4), .val (.int y5), .val (.ref a11), .val (.int (2 : Int32)), .val (.int (2 : Int32)), .val (.ref ar92), .unset] [])) (fun t k => XS.astore X92.here hx rfl (hb hby at_88) rfl rfl (l' := #[.val (.int y0), .val (.int y1), .val (.int y2), .val (.int y3), .val (.int y4), .val (.int y5), .val (.ref a11), .val (.int (2 : Int32)), .val (.int (2 : Int32)), .val (.ref ar92), .unset]) rfl k) ?_
    refine own_to (T92.setTop (mkF m 92 #[.val (.int y0), .val (.int y1), .val (.int y2), .val (.int y3), .val (.int y4), .val (.int y5), .val (.ref a11), .val (.int (2 : Int32)), .val (.int (2 : Int32)), .val (.ref ar92), .unset] [(.ref ar92)])) (fun t k => XS.aload X92.here hx rfl (hb hby at_90) rfl rfl k) ?_
    obtain ⟨c93, r93, q93, z93, p93, j93, f93⟩ := id V92
    refine own_to (T92.setTop (mkF m 93 #[.val (.int y0), .val (.int y1), .val (.int y2), .val (.int y3), .val (.int y4), .val (.int y5), .val (.ref a11), .val (.int (2 : Int32)), .val (.int (2 : Int32)), .val (.ref ar92), .unset] [(.int (3 : Int32))])) (fun t k => X92.arraylength hx (by rw [e92]; exact r93.1) (State.isArrayOf_alike hZ.alike r93.2.1) (g := (mkF m 92 #[.val (.int y0), .val (.int y1), .val (.int y2), .val (.int y3), .val (.int y4), .val (.int y5), .val (.ref a11), .val (.int (2 : Int32)), .val (.int (2 : Int32)), .val (.ref ar92), .unset] [(.ref ar92)])) rfl rfl (hb hby at_92) t (by rw [len_of z93 p93]; exact k)) ?_
    refine own_to (T92.setTop (mkF m 95 #[.val (.int y0), .val (.int y1), .val (.int y2), .val (.int y3), .val (.int y4), .val (.int y5), .val (.ref a11), .val (.int (2 : Int32)), .val (.int (2 : Int32)), .val (.ref ar92), .unset] [(.int (2 : Int32)), (.int (3 : Int32))])) (fun t k => XS.iload X92.here hx rfl (hb hby at_93) rfl k) ?_
    refine own_to (T92.setTop (mkF m 96 #[.val (.int y0), .val (.int y1), .val (.int y2), .val (.int y3), .val (.int y4), .val (.int y5), .val (.ref a11), .val (.int (2 : Int32)), .val (.int (2 : Int32)), .val (.ref ar92), .unset] [(.int (1 : Int32)), (.int (2 : Int32)), (.int (3 : Int32))])) (fun t k => XT.iconstV X92.here hx rfl (1 : Int32) (hb hby at_95) (by decide) k) ?_
    refine own_to (T92.setTop (mkF m 97 #[.val (.int y0), .val (.int y1), .val (.int y2), .val (.int y3), .val (.int y4), .val (.int y5), .val (.ref a11), .val (.int (2 : Int32)), .val (.int (2 : Int32)), .val (.ref ar92), .unset] [(.int (3 : Int32)), (.int (3 : Int32))])) (fun t k => XS.iadd X92.here hx rfl (hb hby at_96) rfl (by rw [show ((2 : Int32) + (1 : Int32)) = (3 : Int32) from by decide]; exact k)) ?_
    refine own_to (T92.setTop (mkF m 102 #[.val (.int y0), .val (.int y1), .val (.int y2), .val (.int y3), .val (.int y4), .val (.int y5), .val (.ref a11), .val (.int (2 : Int32)), .val (.int (2 : Int32)), .val (.ref ar92), .unset] [])) (fun t k => XS.icmpYes X92.here hx rfl (pc0 := 97) (pc' := 102) rfl (hb hby at_97) rfl (teq rfl).1 (by decide) (by decide) k) ?_
    refine own_to (T92.setTop (mkF m 103 #[.val (.int y0), .val (.int y1), .val (.int y2), .val (.int y3), .val (.int y4), .val (.int y5), .val (.ref a11), .val (.int (2 : Int32)), .val (.int (2 : Int32)), .val (.ref ar92), .unset] [(.int (4 : Int32))])) (fun t k => XT.iconstV X92.here hx rfl (4 : Int32) (hb hby at_102) (by decide) k) ?_
    obtain ⟨T94, h94, k94, X94, e94, E94, A94, B94, st94⟩ := newPE X92 hx hZ (hw _ (List.mem_of_getElem? (i := 20) rfl)) e92 (g := (mkF m 103 #[.val (.int y0), .val (.int y1), .val (.int y2), .val (.int y3), .val (.int y4), .val (.int y5), .val (.ref a11), .val (.int (2 : Int32)), .val (.int (2 : Int32)), .val (.ref ar92), .unset] [(.int (4 : Int32))])) rfl (hb hby at_103) rfl (by decide) (cap := 4) (by decide) (by decide) (by decide) (by decide) (ad := "[I") (by decide)
    obtain ⟨a94, g94⟩ : ∃ z, z = h92.size := ⟨_, rfl⟩
    rw [← g94] at A94 B94 st94
    have ne_ar92_a94 : ar92 ≠ a94 := Nat.ne_of_lt (g94 ▸ V92.lt)
    have Z94 : n0 ≤ h94.size := Nat.le_trans Z92 E94.1
    have ge94 : n0 ≤ a94 := Nat.le_trans Z92 (Nat.le_of_eq g94.symm)
    have F95 := V92.ext E94
    have V96 : Arv Z h94 a94 k94 .int (4 : Int32) [(.int (0 : Int32)), (.int (0 : Int32)), (.int (0 : Int32)), (.int (0 : Int32))] (.int (0 : Int32)) := (Arv.new A94 (by decide)).pad (pad_rep [] _ 4)
    refine own_to (T94.setTop (mkF m 105 #[.val (.int y0), .val (.int y1), .val (.int y2), .val (.int y3), .val (.int y4), .val (.int y5), .val (.ref a11), .val (.int (2 : Int32)), .val (.int (2 : Int32)), .val (.ref ar92), .unset] [(.ref a94)])) (fun t k => st94 t k) ?_
    refine own_to (T94.setTop (mkF m 107 #[.val (.int y0), .val (.int y1), .val (.int y2), .val (.int y3), .val (.int y4), .val (.int y5), .val (.ref a11), .val (.int (2 : Int32)), .val (.int (2 : Int32)), .val (.ref ar92), .val (.ref a94)] [])) (fun t k => XS.astore X94.here hx rfl (hb hby at_105) rfl rfl (l' := #[.val (.int y0), .val (.int y1), .val (.int y2), .val (.int y3), .val (.int y4), .val (.int y5), .val (.ref a11), .val (.int (2 : Int32)), .val (.int (2 : Int32)), .val (.ref ar92), .val (.ref a94)]) rfl k) ?_
    refine own_to (T94.setTop (mkF m 109 #[.val (.int y0), .val (.int y1), .val (.int y2), .val (.int y3), .val (.int y4), .val (.int y5), .val (.ref a11), .val (.int (2 : Int32)), .val (.int (2 : Int32)), .val (.ref ar92), .val (.ref a94)] [(.ref a94)])) (fun t k => XS.aload X94.here hx rfl (hb hby at_107) rfl rfl k) ?_
    refine own_to (T94.setTop (mkF m 110 #[.val (.int y0), .val (.int y1), .val (.int y2), .val (.int y3), .val (.int y4), .val (.int y5), .val (.ref a11), .val (.int (2 : Int32)), .val (.int (2 : Int32)), .val (.ref ar92), .val (.ref a94)] [(.int (0 : Int32)), (.ref a94)])) (fun t k => XT.iconstV X94.here hx rfl (0 : Int32) (hb hby at_109) (by decide) k) ?_
    refine own_to (T94.setTop (mkF m 111 #[.val (.int y0), .val (.int y1), .val (.int y2), .val (.int y3), .val (.int y4), .val (.int y5), .val (.ref a11), .val (.int (2 : Int32)), .val (.int (2 : Int32)), .val (.ref ar92), .val (.ref a94)] [(.int y0), (.int (0 : Int32)), (.ref a94)])) (fun t k => XS.iloadN X94.here hx rfl (hb hby at_110) rfl k) ?_
    obtain ⟨c97, r97, q97, z97, p97, j97, f97⟩ := id V96
    have u97 := inb_of z97 (j := (0 : Int32)) ⟨by decide, by decide⟩
    obtain ⟨T97, h97, X97, e97, W97, st97⟩ := stI X94 hx hZ e94 r97 u97 (g := (mkF m 111 #[.val (.int y0), .val (.int y1), .val (.int y2), .val (.int y3), .val (.int y4), .val (.int y5), .val (.ref a11), .val (.int (2 : Int32)), .val (.int (2 : Int32)), .val (.ref ar92), .val (.ref a94)] [(.int y0), (.int (0 : Int32)), (.ref a94)])) rfl rfl (hb hby at_111)
    have N97 := Fr.snoc X97 N92 ge94
    have F98 := F95.other W97 ne_ar92_a94
    have F99 := B94.wr W97
    have V100 : Arv Z h97 a94 k94 .int (4 : Int32) [(.int y0), (.int (0 : Int32)), (.int (0 : Int32)), (.int (0 : Int32))] (.int (0 : Int32)) := Arv.set r97 q97 z97 p97 j97 f97 rfl W97 0 rfl (Nat.le_of_ble_eq_true rfl)
    have Z101 : n0 ≤ h97.size := by rw [W97.size]; exact Z94
    refine own_to (T97.setTop (mkF m 112 #[.val (.int y0), .val (.int y1), .val (.int y2), .val (.int y3), .val (.int y4), .val (.int y5), .val (.ref a11), .val (.int (2 : Int32)), .val (.int (2 : Int32)), .val (.ref ar92), .val (.ref a94)] [])) (fun t k => st97 t k) ?_
    refine own_to (T97.setTop (mkF m 114 #[.val (.int y0), .val (.int y1), .val (.int y2), .val (.int y3), .val (.int y4), .val (.int y5), .val (.ref a11), .val (.int (2 : Int32)), .val (.int (2 : Int32)), .val (.ref ar92), .val (.ref a94)] [(.ref a94)])) (fun t k => XS.aload X97.here hx rfl (hb hby at_112) rfl rfl k) ?_
    refine own_to (T97.setTop (mkF m 115 #[.val (.int y0), .val (.int y1), .val (.int y2), .val (.int y3), .val (.int y4), .val (.int y5), .val (.ref a11), .val (.int (2 : Int32)), .val (.int (2 : Int32)), .val (.ref ar92), .val (.ref a94)] [(.int (1 : Int32)), (.ref a94)])) (fun t k => XT.iconstV X97.here hx rfl (1 : Int32) (hb hby at_114) (by decide) k) ?_
    refine own_to (T97.setTop (mkF m 116 #[.val (.int y0), .val (.int y1), .val (.int y2), .val (.int y3), .val (.int y4), .val (.int y5), .val (.ref a11), .val (.int (2 : Int32)), .val (.int (2 : Int32)), .val (.ref ar92), .val (.ref a94)] [(.int y1), (.int (1 : Int32)), (.ref a94)])) (fun t k => XS.iloadN X97.here hx rfl (hb hby at_115) rfl k) ?_
    obtain ⟨c102, r102, q102, z102, p102, j102, f102⟩ := id V100
    have u102 := inb_of z102 (j := (1 : Int32)) ⟨by decide, by decide⟩
    obtain ⟨T102, h102, X102, e102, W102, st102⟩ := stI X97 hx hZ e97 r102 u102 (g := (mkF m 116 #[.val (.int y0), .val (.int y1), .val (.int y2), .val (.int y3), .val (.int y4), .val (.int y5), .val (.ref a11), .val (.int (2 : Int32)), .val (.int (2 : Int32)), .val (.ref ar92), .val (.ref a94)] [(.int y1), (.int (1 : Int32)), (.ref a94)])) rfl rfl (hb hby at_116)
    have N102 := Fr.snoc X102 N97 ge94
    have F103 := F98.other W102 ne_ar92_a94
    have F104 := F99.wr W102
    have V105 : Arv Z h102 a94 k94 .int (4 : Int32) [(.int y0), (.int y1), (.int (0 : Int32)), (.int (0 : Int32))] (.int (0 : Int32)) := Arv.set r102 q102 z102 p102 j102 f102 rfl W102 1 rfl (Nat.le_of_ble_eq_true rfl)
    have Z106 : n0 ≤ h102.size := by rw [W102.size]; exact Z101
    refine own_to (T102.setTop (mkF m 117 #[.val (.int y0), .val (.int y1), .val (.int y2), .val (.int y3), .val (.int y4), .val (.int y5), .val (.ref a11), .val (.int (2 : Int32)), .val (.int (2 : Int32)), .val (.ref ar92), .val (.ref a94)] [])) (fun t k => st102 t k) ?_
    refine own_to (T102.setTop (mkF m 119 #[.val (.int y0), .val (.int y1), .val (.int y2), .val (.int y3), .val (.int y4), .val (.int y5), .val (.ref a11), .val (.int (2 : Int32)), .val (.int (2 : Int32)), .val (.ref ar92), .val (.ref a94)] [(.ref a94)])) (fun t k => XS.aload X102.here hx rfl (hb hby at_117) rfl rfl k) ?_
    refine own_to (T102.setTop (mkF m 120 #[.val (.int y0), .val (.int y1), .val (.int y2), .val (.int y3), .val (.int y4), .val (.int y5), .val (.ref a11), .val (.int (2 : Int32)), .val (.int (2 : Int32)), .val (.ref ar92), .val (.ref a94)] [(.int (2 : Int32)), (.ref a94)])) (fun t k => XT.iconstV X102.here hx rfl (2 : Int32) (hb hby at_119) (by decide) k) ?_
    refine own_to (T102.setTop (mkF m 121 #[.val (.int y0), .val (.int y1), .val (.int y2), .val (.int y3), .val (.int y4), .val (.int y5), .val (.ref a11), .val (.int (2 : Int32)), .val (.int (2 : Int32)), .val (.ref ar92), .val (.ref a94)] [(.int y2), (.int (2 : Int32)), (.ref a94)])) (fun t k => XS.iloadN X102.here hx rfl (hb hby at_120) rfl k) ?_
    obtain ⟨c107, r107, q107, z107, p107, j107, f107⟩ := id V105
    have u107 := inb_of z107 (j := (2 : Int32)) ⟨by decide, by decide⟩
    obtain ⟨T107, h107, X107, e107, W107, st107⟩ := stI X102 hx hZ e102 r107 u107 (g := (mkF m 121 #[.val (.int y0), .val (.int y1), .val (.int y2), .val (.int y3), .val (.int y4), .val (.int y5), .val (.ref a11), .val (.int (2 : Int32)), .val (.int (2 : Int32)), .val (.ref ar92), .val (.ref a94)] [(.int y2), (.int (2 : Int32)), (.ref a94)])) rfl rfl (hb hby at_121)
    have N107 := Fr.snoc X107 N102 ge94
    have F108 := F103.other W107 ne_ar92_a94
    have F109 := F104.wr W107
    have V110 : Arv Z h107 a94 k94 .int (4 : Int32) [(.int y0), (.int y1), (.int y2), (.int (0 : Int32))] (.int (0 : Int32)) := Arv.set r107 q107 z107 p107 j107 f107 rfl W107 2 rfl (Nat.le_of_ble_eq_true rfl)
    have Z111 : n0 ≤ h107.size := by rw [W107.size]; exact Z106
    refine own_to (T107.setTop (mkF m 122 #[.val (.int y0), .val (.int y1), .val (.int y2), .val (.int y3), .val (.int y4), .val (.int y5), .val (.ref a11), .val (.int (2 : Int32)), .val (.int (2 : Int32)), .val (.ref ar92), .val (.ref a94)] [])) (fun t k => st107 t k) ?_
    refine own_to (T107.setTop (mkF m 124 #[.val (.int y0), .val (.int y1), .val (.int y2), .val (.int y3), .val (.int y4), .val (.int y5), .val (.ref a11), .val (.int (2 : Int32)), .val (.int (2 : Int32)), .val (.ref ar92), .val (.ref a94)] [(.ref a94)])) (fun t k => XS.aload X107.here hx rfl (hb hby at_122) rfl rfl k) ?_
    refine own_to (T107.setTop (mkF m 125 #[.val (.int y0), .val (.int y1), .val (.int y2), .val (.int y3), .val (.int y4), .val (.int y5), .val (.ref a11), .val (.int (2 : Int32)), .val (.int (2 : Int32)), .val (.ref ar92), .val (.ref a94)] [(.int (3 : Int32)), (.ref a94)])) (fun t k => XT.iconstV X107.here hx rfl (3 : Int32) (hb hby at_124) (by decide) k) ?_
    refine own_to (T107.setTop (mkF m 126 #[.val (.int y0), .val (.int y1), .val (.int y2), .val (.int y3), .val (.int y4), .val (.int y5), .val (.ref a11), .val (.int (2 : Int32)), .val (.int (2 : Int32)), .val (.ref ar92), .val (.ref a94)] [(.int y3), (.int (3 : Int32)), (.ref a94)])) (fun t k => XS.iloadN X107.here hx rfl (hb hby at_125) rfl k) ?_
    obtain ⟨c112, r112, q112, z112, p112, j112, f112⟩ := id V110
    have u112 := inb_of z112 (j := (3 : Int32)) ⟨by decide, by decide⟩
    obtain ⟨T112, h112, X112, e112, W112, st112⟩ := stI X107 hx hZ e107 r112 u112 (g := (mkF m 126 #[.val (.int y0), .val (.int y1), .val (.int y2), .val (.int y3), .val (.int y4), .val (.int y5), .val (.ref a11), .val (.int (2 : Int32)), .val (.int (2 : Int32)), .val (.ref ar92), .val (.ref a94)] [(.int y3), (.int (3 : Int32)), (.ref a94)])) rfl rfl (hb hby at_126)
    have N112 := Fr.snoc X112 N107 ge94
    have F113 := F108.other W112 ne_ar92_a94
    have F114 := F109.wr W112
    have V115 : Arv Z h112 a94 k94 .int (4 : Int32) [(.int y0), (.int y1), (.int y2), (.int y3)] (.int (0 : Int32)) := Arv.set r112 q112 z112 p112 j112 f112 rfl W112 3 rfl (Nat.le_of_ble_eq_true rfl)
    have Z116 : n0 ≤ h112.size := by rw [W112.size]; exact Z111
    refine own_to (T112.setTop (mkF m 127 #[.val (.int y0), .val (.int y1), .val (.int y2), .val (.int y3), .val (.int y4), .val (.int y5), .val (.ref a11), .val (.int (2 : Int32)), .val (.int (2 : Int32)), .val (.ref ar92), .val (.ref a94)] [])) (fun t k => st112 t k) ?_
    refine own_to (T112.setTop (mkF m 129 #[.val (.int y0), .val (.int y1), .val (.int y2), .val (.int y3), .val (.int y4), .val (.int y5), .val (.ref a11), .val (.int (2 : Int32)), .val (.int (2 : Int32)), .val (.ref ar92), .val (.ref a94)] [(.ref ar92)])) (fun t k => XS.aload X112.here hx rfl (hb hby at_127) rfl rfl k) ?_
    refine own_to (T112.setTop (mkF m 130 #[.val (.int y0), .val (.int y1), .val (.int y2), .val (.int y3), .val (.int y4), .val (.int y5), .val (.ref a11), .val (.int (2 : Int32)), .val (.int (2 : Int32)), .val (.ref ar92), .val (.ref a94)] [(.int (0 : Int32)), (.ref ar92)])) (fun t k => XT.iconstV X112.here hx rfl (0 : Int32) (hb hby at_129) (by decide) k) ?_
    refine own_to (T112.setTop (mkF m 132 #[.val (.int y0), .val (.int y1), .val (.int y2), .val (.int y3), .val (.int y4), .val (.int y5), .val (.ref a11), .val (.int (2 : Int32)), .val (.int (2 : Int32)), .val (.ref ar92), .val (.ref a94)] [(.int (2 : Int32)), (.int (0 : Int32)), (.ref ar92)])) (fun t k => XS.iload X112.here hx rfl (hb hby at_130) rfl k) ?_
    refine own_to (T112.setTop (mkF m 134 #[.val (.int y0), .val (.int y1), .val (.int y2), .val (.int y3), .val (.int y4), .val (.int y5), .val (.ref a11), .val (.int (2 : Int32)), .val (.int (2 : Int32)), .val (.ref ar92), .val (.ref a94)] [(.ref a94), (.int (2 : Int32)), (.int (0 : Int32)), (.ref ar92)])) (fun t k => XS.aload X112.here hx rfl (hb hby at_132) rfl rfl k) ?_
    refine own_to (T112.setTop (mkF m 136 #[.val (.int y0), .val (.int y1), .val (.int y2), .val (.int y3), .val (.int y4), .val (.int y5), .val (.ref a11), .val (.int (2 : Int32)), .val (.int (2 : Int32)), .val (.ref ar92), .val (.ref a94)] [(.int y4), (.ref a94), (.int (2 : Int32)), (.int (0 : Int32)), (.ref ar92)])) (fun t k => XS.iload X112.here hx rfl (hb hby at_134) rfl k) ?_
    obtain ⟨c117, r117, q117, z117, p117, j117, f117⟩ := id F113
    obtain ⟨c118, r118, q118, z118, p118, j118, f118⟩ := id V115
    obtain ⟨v119, T119, L119, X119, hQ119, st119⟩ := own_callS X112 hx hZ hown (hw _ (List.mem_of_getElem? (i := 46) rfl)) (hw _ (List.mem_of_getElem? (i := 47) rfl)) (hw _ (List.mem_of_getElem? (i := 49) rfl)) (hw _ (List.mem_of_getElem? (i := 48) rfl)) (by decide) e112 (argsL := [(.ref ar92), (.int (0 : Int32)), (.int (2 : Int32)), (.ref a94), (.int y4)]) (rest := []) (rmt3 l Z a0 hw ar92 a94 (0 : Int32) (2 : Int32) y4 c117 c118 y0 h112 n0 Z116 (by decide) (by decide) r117 (inb_of z117 ⟨by decide, by decide⟩) (j117.at (inb_of z117 ⟨by decide, by decide⟩) rfl) r118 (inb_of z118 ⟨by decide, by decide⟩) (j118.at (inb_of z118 ⟨by decide, by decide⟩) rfl)) (by decide) (W := 0) (by decide) (by decide) (by decide) pd_8 rfl (pc := 136) (Ls := #[.val (.int y0), .val (.int y1), .val (.int y2), .val (.int y3), .val (.int y4), .val (.int y5), .val (.ref a11), .val (.int (2 : Int32)), .val (.int (2 : Int32)), .val (.ref ar92), .val (.ref a94)]) (by rw [hml]; rfl) (Nat.le_of_eq rfl) (hb hby at_136)
    obtain ⟨rfl, M119, e119⟩ := hQ119
    have N119 := Fr.app N112 M119
    refine own_to (T119.setTop (mkF m 139 #[.val (.int y0), .val (.int y1), .val (.int y2), .val (.int y3), .val (.int y4), .val (.int y5), .val (.ref a11), .val (.int (2 : Int32)), .val (.int (2 : Int32)), .val (.ref ar92), .val (.ref a94)] [(.int (1 : Int32))])) (fun t k => st119 t k) ?_
    refine own_to (T119.setTop (mkF m 142 #[.val (.int y0), .val (.int y1), .val (.int y2), .val (.int y3), .val (.int y4), .val (.int y5), .val (.ref a11), .val (.int (2 : Int32)), .val (.int (2 : Int32)), .val (.ref ar92), .val (.ref a94)] [])) (fun t k => XS.ifNo X119.here hx rfl (hb hby at_139) rfl ((if0 _ _).trans (feq (by decide)).1) k) ?_
    refine own_to (T119.setTop (mkF m 144 #[.val (.int y0), .val (.int y1), .val (.int y2), .val (.int y3), .val (.int y4), .val (.int y5), .val (.ref a11), .val (.int (2 : Int32)), .val (.int (2 : Int32)), .val (.ref ar92), .val (.ref a94)] [(.ref ar92)])) (fun t k => XS.aload X119.here hx rfl (hb hby at_142) rfl rfl k) ?_
    refine own_to (T119.setTop (mkF m 145 #[.val (.int y0), .val (.int y1), .val (.int y2), .val (.int y3), .val (.int y4), .val (.int y5), .val (.ref a11), .val (.int (2 : Int32)), .val (.int (2 : Int32)), .val (.ref ar92), .val (.ref a94)] [(.int (1 : Int32)), (.ref ar92)])) (fun t k => XT.iconstV X119.here hx rfl (1 : Int32) (hb hby at_144) (by decide) k) ?_
    refine own_to (T119.setTop (mkF m 147 #[.val (.int y0), .val (.int y1), .val (.int y2), .val (.int y3), .val (.int y4), .val (.int y5), .val (.ref a11), .val (.int (2 : Int32)), .val (.int (2 : Int32)), .val (.ref ar92), .val (.ref a94)] [(.int (2 : Int32)), (.int (1 : Int32)), (.ref ar92)])) (fun t k => XS.iload X119.here hx rfl (hb hby at_145) rfl k) ?_
    refine own_to (T119.setTop (mkF m 149 #[.val (.int y0), .val (.int y1), .val (.int y2), .val (.int y3), .val (.int y4), .val (.int y5), .val (.ref a11), .val (.int (2 : Int32)), .val (.int (2 : Int32)), .val (.ref ar92), .val (.ref a94)] [(.ref a94), (.int (2 : Int32)), (.int (1 : Int32)), (.ref ar92)])) (fun t k => XS.aload X119.here hx rfl (hb hby at_147) rfl rfl k) ?_
    refine own_to (T119.setTop (mkF m 151 #[.val (.int y0), .val (.int y1), .val (.int y2), .val (.int y3), .val (.int y4), .val (.int y5), .val (.ref a11), .val (.int (2 : Int32)), .val (.int (2 : Int32)), .val (.ref ar92), .val (.ref a94)] [(.int y4), (.ref a94), (.int (2 : Int32)), (.int (1 : Int32)), (.ref ar92)])) (fun t k => XS.iload X119.here hx rfl (hb hby at_149) rfl k) ?_
    obtain ⟨v120, T120, L120, X120, hQ120, st120⟩ := own_callS X119 hx hZ hown (hw _ (List.mem_of_getElem? (i := 46) rfl)) (hw _ (List.mem_of_getElem? (i := 47) rfl)) (hw _ (List.mem_of_getElem? (i := 49) rfl)) (hw _ (List.mem_of_getElem? (i := 48) rfl)) (by decide) e119 (argsL := [(.ref ar92), (.int (1 : Int32)), (.int (2 : Int32)), (.ref a94), (.int y4)]) (rest := []) (rmt3 l Z a0 hw ar92 a94 (1 : Int32) (2 : Int32) y4 c117 c118 y1 h112 n0 Z116 (by decide) (by decide) r117 (inb_of z117 ⟨by decide, by decide⟩) (j117.at (inb_of z117 ⟨by decide, by decide⟩) rfl) r118 (inb_of z118 ⟨by decide, by decide⟩) (j118.at (inb_of z118 ⟨by decide, by decide⟩) rfl)) (by decide) (W := 0) (by decide) (by decide) (by decide) pd_8 rfl (pc := 151) (Ls := #[.val (.int y0), .val (.int y1), .val (.int y2), .val (.int y3), .val (.int y4), .val (.int y5), .val (.ref a11), .val (.int (2 : Int32)), .val (.int (2 : Int32)), .val (.ref ar92), .val (.ref a94)]) (by rw [hml]; rfl) (Nat.le_of_eq rfl) (hb hby at_151)
    obtain ⟨rfl, M120, e120⟩ := hQ120
    have N120 := Fr.app N119 M120
    refine own_to (T120.setTop (mkF m 154 #[.val (.int y0), .val (.int y1), .val (.int y2), .val (.int y3), .val (.int y4), .val (.int y5), .val (.ref a11), .val (.int (2 : Int32)), .val (.int (2 : Int32)), .val (.ref ar92), .val (.ref a94)] [(.int (1 : Int32))])) (fun t k => st120 t k) ?_
    refine own_to (T120.setTop (mkF m 157 #[.val (.int y0), .val (.int y1), .val (.int y2), .val (.int y3), .val (.int y4), .val (.int y5), .val (.ref a11), .val (.int (2 : Int32)), .val (.int (2 : Int32)), .val (.ref ar92), .val (.ref a94)] [])) (fun t k => XS.ifNo X120.here hx rfl (hb hby at_154) rfl ((if0 _ _).trans (feq (by decide)).1) k) ?_
    refine own_to (T120.setTop (mkF m 159 #[.val (.int y0), .val (.int y1), .val (.int y2), .val (.int y3), .val (.int y4), .val (.int y5), .val (.ref a11), .val (.int (2 : Int32)), .val (.int (2 : Int32)), .val (.ref ar92), .val (.ref a94)] [(.ref ar92)])) (fun t k => XS.aload X120.here hx rfl (hb hby at_157) rfl rfl k) ?_
    refine own_to (T120.setTop (mkF m 160 #[.val (.int y0), .val (.int y1), .val (.int y2), .val (.int y3), .val (.int y4), .val (.int y5), .val (.ref a11), .val (.int (2 : Int32)), .val (.int (2 : Int32)), .val (.ref ar92), .val (.ref a94)] [(.int (2 : Int32)), (.ref ar92)])) (fun t k => XT.iconstV X120.here hx rfl (2 : Int32) (hb hby at_159) (by decide) k) ?_
    refine own_to (T120.setTop (mkF m 162 #[.val (.int y0), .val (.int y1), .val (.int y2), .val (.int y3), .val (.int y4), .val (.int y5), .val (.ref a11), .val (.int (2 : Int32)), .val (.int (2 : Int32)), .val (.ref ar92), .val (.ref a94)] [(.int (2 : Int32)), (.int (2 : Int32)), (.ref ar92)])) (fun t k => XS.iload X120.here hx rfl (hb hby at_160) rfl k) ?_
    refine own_to (T120.setTop (mkF m 164 #[.val (.int y0), .val (.int y1), .val (.int y2), .val (.int y3), .val (.int y4), .val (.int y5), .val (.ref a11), .val (.int (2 : Int32)), .val (.int (2 : Int32)), .val (.ref ar92), .val (.ref a94)] [(.ref a94), (.int (2 : Int32)), (.int (2 : Int32)), (.ref ar92)])) (fun t k => XS.aload X120.here hx rfl (hb hby at_162) rfl rfl k) ?_
    refine own_to (T120.setTop (mkF m 166 #[.val (.int y0), .val (.int y1), .val (.int y2), .val (.int y3), .val (.int y4), .val (.int y5), .val (.ref a11), .val (.int (2 : Int32)), .val (.int (2 : Int32)), .val (.ref ar92), .val (.ref a94)] [(.int y4), (.ref a94), (.int (2 : Int32)), (.int (2 : Int32)), (.ref ar92)])) (fun t k => XS.iload X120.here hx rfl (hb hby at_164) rfl k) ?_
    obtain ⟨v121, T121, L121, X121, hQ121, st121⟩ := own_callS X120 hx hZ hown (hw _ (List.mem_of_getElem? (i := 46) rfl)) (hw _ (List.mem_of_getElem? (i := 47) rfl)) (hw _ (List.mem_of_getElem? (i := 49) rfl)) (hw _ (List.mem_of_getElem? (i := 48) rfl)) (by decide) e120 (argsL := [(.ref ar92), (.int (2 : Int32)), (.int (2 : Int32)), (.ref a94), (.int y4)]) (rest := []) (rmt2 l Z a0 hw ar92 a94 (2 : Int32) (2 : Int32) y4 c117 h112 n0 Z116 (by decide) (by decide) r117 (inb_of z117 ⟨by decide, by decide⟩) (j117.at (inb_of z117 ⟨by decide, by decide⟩) rfl)) (by decide) (W := 0) (by decide) (by decide) (by decide) pd_8 rfl (pc := 166) (Ls := #[.val (.int y0), .val (.int y1), .val (.int y2), .val (.int y3), .val (.int y4), .val (.int y5), .val (.ref a11), .val (.int (2 : Int32)), .val (.int (2 : Int32)), .val (.ref ar92), .val (.ref a94)]) (by rw [hml]; rfl) (Nat.le_of_eq rfl) (hb hby at_166)
    obtain ⟨rfl, M121, e121⟩ := hQ121
    have N121 := Fr.app N120 M121
    refine own_to (T121.setTop (mkF m 169 #[.val (.int y0), .val (.int y1), .val (.int y2), .val (.int y3), .val (.int y4), .val (.int y5), .val (.ref a11), .val (.int (2 : Int32)), .val (.int (2 : Int32)), .val (.ref ar92), .val (.ref a94)] [(.int (1 : Int32))])) (fun t k => st121 t k) ?_
    refine own_to (T121.setTop (mkF m 172 #[.val (.int y0), .val (.int y1), .val (.int y2), .val (.int y3), .val (.int y4), .val (.int y5), .val (.ref a11), .val (.int (2 : Int32)), .val (.int (2 : Int32)), .val (.ref ar92), .val (.ref a94)] [])) (fun t k => XS.ifNo X121.here hx rfl (hb hby at_169) rfl ((if0 _ _).trans (feq (by decide)).1) k) ?_
    refine own_to (T121.setTop (mkF m 174 #[.val (.int y0), .val (.int y1), .val (.int y2), .val (.int y3), .val (.int y4), .val (.int y5), .val (.ref a11), .val (.int (2 : Int32)), .val (.int (2 : Int32)), .val (.ref ar92), .val (.ref a94)] [(.ref ar92)])) (fun t k => XS.aload X121.here hx rfl (hb hby at_172) rfl rfl k) ?_
    refine own_to (T121.setTop (mkF m 175 #[.val (.int y0), .val (.int y1), .val (.int y2), .val (.int y3), .val (.int y4), .val (.int y5), .val (.ref a11), .val (.int (2 : Int32)), .val (.int (2 : Int32)), .val (.ref ar92), .val (.ref a94)] [(.int (3 : Int32)), (.ref ar92)])) (fun t k => XT.iconstV X121.here hx rfl (3 : Int32) (hb hby at_174) (by decide) k) ?_
    refine own_to (T121.setTop (mkF m 177 #[.val (.int y0), .val (.int y1), .val (.int y2), .val (.int y3), .val (.int y4), .val (.int y5), .val (.ref a11), .val (.int (2 : Int32)), .val (.int (2 : Int32)), .val (.ref ar92), .val (.ref a94)] [(.int (2 : Int32)), (.int (3 : Int32)), (.ref ar92)])) (fun t k => XS.iload X121.here hx rfl (hb hby at_175) rfl k) ?_
    refine own_to (T121.setTop (mkF m 179 #[.val (.int y0), .val (.int y1), .val (.int y2), .val (.int y3), .val (.int y4), .val (.int y5), .val (.ref a11), .val (.int (2 : Int32)), .val (.int (2 : Int32)), .val (.ref ar92), .val (.ref a94)] [(.ref a94), (.int (2 : Int32)), (.int (3 : Int32)), (.ref ar92)])) (fun t k => XS.aload X121.here hx rfl (hb hby at_177) rfl rfl k) ?_
    refine own_to (T121.setTop (mkF m 181 #[.val (.int y0), .val (.int y1), .val (.int y2), .val (.int y3), .val (.int y4), .val (.int y5), .val (.ref a11), .val (.int (2 : Int32)), .val (.int (2 : Int32)), .val (.ref ar92), .val (.ref a94)] [(.int y4), (.ref a94), (.int (2 : Int32)), (.int (3 : Int32)), (.ref ar92)])) (fun t k => XS.iload X121.here hx rfl (hb hby at_179) rfl k) ?_
    obtain ⟨v122, T122, L122, X122, hQ122, st122⟩ := own_callS X121 hx hZ hown (hw _ (List.mem_of_getElem? (i := 46) rfl)) (hw _ (List.mem_of_getElem? (i := 47) rfl)) (hw _ (List.mem_of_getElem? (i := 49) rfl)) (hw _ (List.mem_of_getElem? (i := 48) rfl)) (by decide) e121 (argsL := [(.ref ar92), (.int (3 : Int32)), (.int (2 : Int32)), (.ref a94), (.int y4)]) (rest := []) (rmt1 l Z a0 hw ar92 a94 (3 : Int32) (2 : Int32) y4 h112 n0 Z116 (by decide)) (by decide) (W := 0) (by decide) (by decide) (by decide) pd_8 rfl (pc := 181) (Ls := #[.val (.int y0), .val (.int y1), .val (.int y2), .val (.int y3), .val (.int y4), .val (.int y5), .val (.ref a11), .val (.int (2 : Int32)), .val (.int (2 : Int32)), .val (.ref ar92), .val (.ref a94)]) (by rw [hml]; rfl) (Nat.le_of_eq rfl) (hb hby at_181)
    obtain ⟨rfl, M122, e122⟩ := hQ122
    have N122 := Fr.app N121 M122
    refine own_to (T122.setTop (mkF m 184 #[.val (.int y0), .val (.int y1), .val (.int y2), .val (.int y3), .val (.int y4), .val (.int y5), .val (.ref a11), .val (.int (2 : Int32)), .val (.int (2 : Int32)), .val (.ref ar92), .val (.ref a94)] [(.int (1 : Int32))])) (fun t k => st122 t k) ?_
    refine own_to (T122.setTop (mkF m 187 #[.val (.int y0), .val (.int y1), .val (.int y2), .val (.int y3), .val (.int y4), .val (.int y5), .val (.ref a11), .val (.int (2 : Int32)), .val (.int (2 : Int32)), .val (.ref ar92), .val (.ref a94)] [])) (fun t k => XS.ifNo X122.here hx rfl (hb hby at_184) rfl ((if0 _ _).trans (feq (by decide)).1) k) ?_
    refine own_to (T122.setTop (mkF m 189 #[.val (.int y0), .val (.int y1), .val (.int y2), .val (.int y3), .val (.int y4), .val (.int y5), .val (.ref a11), .val (.int (2 : Int32)), .val (.int (2 : Int32)), .val (.ref ar92), .val (.ref a94)] [(.ref ar92)])) (fun t k => XS.aload X122.here hx rfl (hb hby at_187) rfl rfl k) ?_
    refine own_to (T122.setTop (mkF m 190 #[.val (.int y0), .val (.int y1), .val (.int y2), .val (.int y3), .val (.int y4), .val (.int y5), .val (.ref a11), .val (.int (2 : Int32)), .val (.int (2 : Int32)), .val (.ref ar92), .val (.ref a94)] [(.int (4 : Int32)), (.ref ar92)])) (fun t k => XT.iconstV X122.here hx rfl (4 : Int32) (hb hby at_189) (by decide) k) ?_
    refine own_to (T122.setTop (mkF m 192 #[.val (.int y0), .val (.int y1), .val (.int y2), .val (.int y3), .val (.int y4), .val (.int y5), .val (.ref a11), .val (.int (2 : Int32)), .val (.int (2 : Int32)), .val (.ref ar92), .val (.ref a94)] [(.int (2 : Int32)), (.int (4 : Int32)), (.ref ar92)])) (fun t k => XS.iload X122.here hx rfl (hb hby at_190) rfl k) ?_
    refine own_to (T122.setTop (mkF m 194 #[.val (.int y0), .val (.int y1), .val (.int y2), .val (.int y3), .val (.int y4), .val (.int y5), .val (.ref a11), .val (.int (2 : Int32)), .val (.int (2 : Int32)), .val (.ref ar92), .val (.ref a94)] [(.ref a94), (.int (2 : Int32)), (.int (4 : Int32)), (.ref ar92)])) (fun t k => XS.aload X122.here hx rfl (hb hby at_192) rfl rfl k) ?_
    refine own_to (T122.setTop (mkF m 196 #[.val (.int y0), .val (.int y1), .val (.int y2), .val (.int y3), .val (.int y4), .val (.int y5), .val (.ref a11), .val (.int (2 : Int32)), .val (.int (2 : Int32)), .val (.ref ar92), .val (.ref a94)] [(.int y4), (.ref a94), (.int (2 : Int32)), (.int (4 : Int32)), (.ref ar92)])) (fun t k => XS.iload X122.here hx rfl (hb hby at_194) rfl k) ?_
    obtain ⟨v123, T123, L123, X123, hQ123, st123⟩ := own_callS X122 hx hZ hown (hw _ (List.mem_of_getElem? (i := 46) rfl)) (hw _ (List.mem_of_getElem? (i := 47) rfl)) (hw _ (List.mem_of_getElem? (i := 49) rfl)) (hw _ (List.mem_of_getElem? (i := 48) rfl)) (by decide) e122 (argsL := [(.ref ar92), (.int (4 : Int32)), (.int (2 : Int32)), (.ref a94), (.int y4)]) (rest := []) (rmt1 l Z a0 hw ar92 a94 (4 : Int32) (2 : Int32) y4 h112 n0 Z116 (by decide)) (by decide) (W := 0) (by decide) (by decide) (by decide) pd_8 rfl (pc := 196) (Ls := #[.val (.int y0), .val (.int y1), .val (.int y2), .val (.int y3), .val (.int y4), .val (.int y5), .val (.ref a11), .val (.int (2 : Int32)), .val (.int (2 : Int32)), .val (.ref ar92), .val (.ref a94)]) (by rw [hml]; rfl) (Nat.le_of_eq rfl) (hb hby at_196)
    obtain ⟨rfl, M123, e123⟩ := hQ123
    have N123 := Fr.app N122 M123
    refine own_to (T123.setTop (mkF m 199 #[.val (.int y0), .val (.int y1), .val (.int y2), .val (.int y3), .val (.int y4), .val (.int y5), .val (.ref a11), .val (.int (2 : Int32)), .val (.int (2 : Int32)), .val (.ref ar92), .val (.ref a94)] [(.int (1 : Int32))])) (fun t k => st123 t k) ?_
    refine own_to (T123.setTop (mkF m 202 #[.val (.int y0), .val (.int y1), .val (.int y2), .val (.int y3), .val (.int y4), .val (.int y5), .val (.ref a11), .val (.int (2 : Int32)), .val (.int (2 : Int32)), .val (.ref ar92), .val (.ref a94)] [])) (fun t k => XS.ifNo X123.here hx rfl (hb hby at_199) rfl ((if0 _ _).trans (feq (by decide)).1) k) ?_
    refine own_to (T123.setTop (mkF m 203 #[.val (.int y0), .val (.int y1), .val (.int y2), .val (.int y3), .val (.int y4), .val (.int y5), .val (.ref a11), .val (.int (2 : Int32)), .val (.int (2 : Int32)), .val (.ref ar92), .val (.ref a94)] [(.int (1 : Int32))])) (fun t k => XT.iconstV X123.here hx rfl (1 : Int32) (hb hby at_202) (by decide) k) ?_
    refine own_to (T123.setTop (mkF m 207 #[.val (.int y0), .val (.int y1), .val (.int y2), .val (.int y3), .val (.int y4), .val (.int y5), .val (.ref a11), .val (.int (2 : Int32)), .val (.int (2 : Int32)), .val (.ref ar92), .val (.ref a94)] [(.int (1 : Int32))])) (fun t k => XS.goto X123.here hx rfl (pc0 := 203) (pc' := 207) rfl (hb hby at_203) (by decide) (by decide) k) ?_
    exact own_retZ X123 hx hret hk (i' := (1 : Int32)) (hb hby at_207) (by decide) (by decide) (by decide) ⟨rfl, N123⟩
  · -- k = 3
    refine own_to (T18.setTop (mkF m 44 #[.val (.int y0), .val (.int y1), .val (.int y2), .val (.int y3), .val (.int y4), .val (.int y5), .val (.ref a11), .unset, .unset, .unset, .unset] [(.int (3 : Int32))])) (fun t k => iremM X18 hx rfl (hb hby at_43) rfl (by decide) (by rw [h5]; exact k)) ?_
    refine own_to (T18.setTop (mkF m 46 #[.val (.int y0), .val (.int y1), .val (.int y2), .val (.int y3), .val (.int y4), .val (.int y5), .val (.ref a11), .val (.int (3 : Int32)), .unset, .unset, .unset] [])) (fun t k => XS.istore X18.here hx rfl (hb hby at_44) rfl (l' := #[.val (.int y0), .val (.int y1), .val (.int y2), .val (.int y3), .val (.int y4), .val (.int y5), .val (.ref a11), .val (.int (3 : Int32)), .unset, .unset, .unset]) rfl k) ?_
    refine own_to (T18.setTop (mkF m 48 #[.val (.int y0), .val (.int y1), .val (.int y2), .val (.int y3), .val (.int y4), .val (.int y5), .val (.ref a11), .val (.int (3 : Int32)), .unset, .unset, .unset] [(.ref a11)])) (fun t k => XS.aload X18.here hx rfl (hb hby at_46) rfl rfl k) ?_
    refine own_to (T18.setTop (mkF m 50 #[.val (.int y0), .val (.int y1), .val (.int y2), .val (.int y3), .val (.int y4), .val (.int y5), .val (.ref a11), .val (.int (3 : Int32)), .unset, .unset, .unset] [(.int (3 : Int32)), (.ref a11)])) (fun t k => XS.iload X18.here hx rfl (hb hby at_48) rfl k) ?_
    obtain ⟨v124, T124, L124, X124, hQ124, st124⟩ := own_callV X18 hx hZ hown (hw _ (List.mem_of_getElem? (i := 23) rfl)) (hw _ (List.mem_of_getElem? (i := 24) rfl)) (hw _ (List.mem_of_getElem? (i := 26) rfl)) (notFace_of_selects (args := #[]) (mvT hZ (hw _ (List.mem_of_getElem? (i := 26) rfl)))) (hw _ (List.mem_of_getElem? (i := 25) rfl)) (hw _ (List.mem_of_getElem? (i := 27) rfl)) (hw _ (List.mem_of_getElem? (i := 2) rfl)) (by decide) e18 St18.1 (argsL := [(.int (3 : Int32))]) (rest := []) (rmTK l Z a0 hw a11 pg14 bk15 kp14 kb15 y0 y1 y2 y3 0 3 h18 n0 Z18 (by decide) St18 Na14 Nb15) (by decide) (W := 0) (by decide) (by decide) (by decide) pd_4 rfl (pc := 50) (Ls := #[.val (.int y0), .val (.int y1), .val (.int y2), .val (.int y3), .val (.int y4), .val (.int y5), .val (.ref a11), .val (.int (3 : Int32)), .unset, .unset, .unset]) (by rw [hml]; rfl) (Nat.le_of_eq rfl) (hb hby at_50)
    obtain ⟨h124, e124⟩ : ∃ z, T124.heap = z := ⟨_, rfl⟩
    rw [e124] at hQ124
    obtain ⟨rfl, M124, St124, Z124⟩ := hQ124
    have N124 := Fr.app N18 M124
    refine own_to (T124.setTop (mkF m 53 #[.val (.int y0), .val (.int y1), .val (.int y2), .val (.int y3), .val (.int y4), .val (.int y5), .val (.ref a11), .val (.int (3 : Int32)), .unset, .unset, .unset] [])) (fun t k => st124 t k) ?_
    refine own_to (T124.setTop (mkF m 55 #[.val (.int y0), .val (.int y1), .val (.int y2), .val (.int y3), .val (.int y4), .val (.int y5), .val (.ref a11), .val (.int (3 : Int32)), .unset, .unset, .unset] [(.ref a11)])) (fun t k => XS.aload X124.here hx rfl (hb hby at_53) rfl rfl k) ?_
    obtain ⟨v125, T125, L125, X125, hQ125, st125⟩ := own_callV X124 hx hZ hown (hw _ (List.mem_of_getElem? (i := 28) rfl)) (hw _ (List.mem_of_getElem? (i := 29) rfl)) (hw _ (List.mem_of_getElem? (i := 31) rfl)) (notFace_of_selects (args := #[]) (mvT hZ (hw _ (List.mem_of_getElem? (i := 31) rfl)))) (hw _ (List.mem_of_getElem? (i := 30) rfl)) (hw _ (List.mem_of_getElem? (i := 32) rfl)) (hw _ (List.mem_of_getElem? (i := 2) rfl)) (by decide) e124 St124.1 (argsL := []) (rest := []) (rmS l Z a0 hw a11 3 h124 n0 Z124 St124.2.2.1) (by decide) (W := 0) (by decide) (by decide) (by decide) pd_5 rfl (pc := 55) (Ls := #[.val (.int y0), .val (.int y1), .val (.int y2), .val (.int y3), .val (.int y4), .val (.int y5), .val (.ref a11), .val (.int (3 : Int32)), .unset, .unset, .unset]) (by rw [hml]; rfl) (Nat.le_of_eq rfl) (hb hby at_55)
    obtain ⟨rfl, M125, e125⟩ := hQ125
    have N125 := Fr.app N124 M125
    refine own_to (T125.setTop (mkF m 58 #[.val (.int y0), .val (.int y1), .val (.int y2), .val (.int y3), .val (.int y4), .val (.int y5), .val (.ref a11), .val (.int (3 : Int32)), .unset, .unset, .unset] [(.int (3 : Int32))])) (fun t k => st125 t k) ?_
    refine own_to (T125.setTop (mkF m 60 #[.val (.int y0), .val (.int y1), .val (.int y2), .val (.int y3), .val (.int y4), .val (.int y5), .val (.ref a11), .val (.int (3 : Int32)), .unset, .unset, .unset] [(.int (3 : Int32)), (.int (3 : Int32))])) (fun t k => XS.iload X125.here hx rfl (hb hby at_58) rfl k) ?_
    refine own_to (T125.setTop (mkF m 65 #[.val (.int y0), .val (.int y1), .val (.int y2), .val (.int y3), .val (.int y4), .val (.int y5), .val (.ref a11), .val (.int (3 : Int32)), .unset, .unset, .unset] [])) (fun t k => XS.icmpYes X125.here hx rfl (pc0 := 60) (pc' := 65) rfl (hb hby at_60) rfl (teq rfl).1 (by decide) (by decide) k) ?_
    refine own_to (T125.setTop (mkF m 67 #[.val (.int y0), .val (.int y1), .val (.int y2), .val (.int y3), .val (.int y4), .val (.int y5), .val (.ref a11), .val (.int (3 : Int32)), .unset, .unset, .unset] [(.ref a11)])) (fun t k => XS.aload X125.here hx rfl (hb hby at_65) rfl rfl k) ?_
    refine own_to (T125.setTop (mkF m 69 #[.val (.int y0), .val (.int y1), .val (.int y2), .val (.int y3), .val (.int y4), .val (.int y5), .val (.ref a11), .val (.int (3 : Int32)), .unset, .unset, .unset] [(.int y4), (.ref a11)])) (fun t k => XS.iload X125.here hx rfl (hb hby at_67) rfl k) ?_
    obtain ⟨v126, T126, L126, X126, hQ126, st126⟩ := own_callV X125 hx hZ hown (hw _ (List.mem_of_getElem? (i := 13) rfl)) (hw _ (List.mem_of_getElem? (i := 14) rfl)) (hw _ (List.mem_of_getElem? (i := 16) rfl)) (notFace_of_selects (args := #[]) (mvT hZ (hw _ (List.mem_of_getElem? (i := 16) rfl)))) (hw _ (List.mem_of_getElem? (i := 15) rfl)) (hw _ (List.mem_of_getElem? (i := 17) rfl)) (hw _ (List.mem_of_getElem? (i := 2) rfl)) (by decide) e125 St124.1 (argsL := [(.int y4)]) (rest := []) (rmA3 l Z a0 hw a11 pg14 bk15 kp14 kb15 y0 y1 y2 y3 0 y4 h124 n0 Z124 St124 Na14 Nb15) (by decide) (W := 0) (by decide) (by decide) (by decide) pd_3 rfl (pc := 69) (Ls := #[.val (.int y0), .val (.int y1), .val (.int y2), .val (.int y3), .val (.int y4), .val (.int y5), .val (.ref a11), .val (.int (3 : Int32)), .unset, .unset, .unset]) (by rw [hml]; rfl) (Nat.le_of_eq rfl) (hb hby at_69)
    obtain ⟨h126, e126⟩ : ∃ z, T126.heap = z := ⟨_, rfl⟩
    rw [e126] at hQ126
    obtain ⟨rfl, M126, St126, Z126⟩ := hQ126
    have N126 := Fr.app N125 M126
    refine own_to (T126.setTop (mkF m 72 #[.val (.int y0), .val (.int y1), .val (.int y2), .val (.int y3), .val (.int y4), .val (.int y5), .val (.ref a11), .val (.int (3 : Int32)), .unset, .unset, .unset] [(.int (3 : Int32))])) (fun t k => st126 t k) ?_
    refine own_to (T126.setTop (mkF m 74 #[.val (.int y0), .val (.int y1), .val (.int y2), .val (.int y3), .val (.int y4), .val (.int y5), .val (.ref a11), .val (.int (3 : Int32)), .val (.int (3 : Int32)), .unset, .unset] [])) (fun t k => XS.istore X126.here hx rfl (hb hby at_72) rfl (l' := #[.val (.int y0), .val (.int y1), .val (.int y2), .val (.int y3), .val (.int y4), .val (.int y5), .val (.ref a11), .val (.int (3 : Int32)), .val (.int (3 : Int32)), .unset, .unset]) rfl k) ?_
    refine own_to (T126.setTop (mkF m 76 #[.val (.int y0), .val (.int y1), .val (.int y2), .val (.int y3), .val (.int y4), .val (.int y5), .val (.ref a11), .val (.int (3 : Int32)), .val (.int (3 : Int32)), .unset, .unset] [(.int (3 : Int32))])) (fun t k => XS.iload X126.here hx rfl (hb hby at_74) rfl k) ?_
    refine own_to (T126.setTop (mkF m 78 #[.val (.int y0), .val (.int y1), .val (.int y2), .val (.int y3), .val (.int y4), .val (.int y5), .val (.ref a11), .val (.int (3 : Int32)), .val (.int (3 : Int32)), .unset, .unset] [(.int (3 : Int32)), (.int (3 : Int32))])) (fun t k => XS.iload X126.here hx rfl (hb hby at_76) rfl k) ?_
    refine own_to (T126.setTop (mkF m 83 #[.val (.int y0), .val (.int y1), .val (.int y2), .val (.int y3), .val (.int y4), .val (.int y5), .val (.ref a11), .val (.int (3 : Int32)), .val (.int (3 : Int32)), .unset, .unset] [])) (fun t k => XS.icmpYes X126.here hx rfl (pc0 := 78) (pc' := 83) rfl (hb hby at_78) rfl (teq rfl).1 (by decide) (by decide) k) ?_
    refine own_to (T126.setTop (mkF m 85 #[.val (.int y0), .val (.int y1), .val (.int y2), .val (.int y3), .val (.int y4), .val (.int y5), .val (.ref a11), .val (.int (3 : Int32)), .val (.int (3 : Int32)), .unset, .unset] [(.ref a11)])) (fun t k => XS.aload X126.here hx rfl (hb hby at_83) rfl rfl k) ?_
    obtain ⟨v127, T127, L127, X127, hQ127, st127⟩ := own_callV X126 hx hZ hown (hw _ (List.mem_of_getElem? (i := 33) rfl)) (hw _ (List.mem_of_getElem? (i := 34) rfl)) (hw _ (List.mem_of_getElem? (i := 36) rfl)) (notFace_of_selects (args := #[]) (mvT hZ (hw _ (List.mem_of_getElem? (i := 36) rfl)))) (hw _ (List.mem_of_getElem? (i := 35) rfl)) (hw _ (List.mem_of_getElem? (i := 37) rfl)) (hw _ (List.mem_of_getElem? (i := 2) rfl)) (by decide) e126 St126.1 (argsL := []) (rest := []) (rmY4 l Z a0 hw a11 pg14 bk15 kp14 kb15 y0 y1 y2 y4 0 h126 n0 Z126 St126 Na14 Nb15) (by decide) (W := 0) (by decide) (by decide) (by decide) pd_6 rfl (pc := 85) (Ls := #[.val (.int y0), .val (.int y1), .val (.int y2), .val (.int y3), .val (.int y4), .val (.int y5), .val (.ref a11), .val (.int (3 : Int32)), .val (.int (3 : Int32)), .unset, .unset]) (by rw [hml]; rfl) (Nat.le_of_eq rfl) (hb hby at_85)
    obtain ⟨h127, e127⟩ : ∃ z, T127.heap = z := ⟨_, rfl⟩
    rw [e127] at hQ127
    obtain ⟨ar127, ka127, rfl, M127, V127, Z127⟩ := hQ127
    have N127 := Fr.app N126 M127
    refine own_to (T127.setTop (mkF m 88 #[.val (.int y0), .val (.int y1), .val (.int y2), .val (.int y3), .val (.int y4), .val (.int y5), .val (.ref a11), .val (.int (3 : Int32)), .val (.int (3 : Int32)), .unset, .unset] [(.ref ar127)])) (fun t k => st127 t k) ?_
    refine own_to (T127.setTop (mkF m 90 #[.val (.int y0), .val (.int y1), .val (.int y2), .val (.int y3), .val (.int y4), .val (.int y5), .val (.ref a11), .val (.int (3 : Int32)), .val (.int (3 : Int32)), .val (.ref ar127), .unset] [])) (fun t k => XS.astore X127.here hx rfl (hb hby at_88) rfl rfl (l' := #[.val (.int y0), .val (.int y1), .val (.int y2), .val (.int y3), .val (.int y4), .val (.int y5), .val (.ref a11), .val (.int (3 : Int32)), .val (.int (3 : Int32)), .val (.ref ar127), .unset]) rfl k) ?_
    refine own_to (T127.setTop (mkF m 92 #[.val (.int y0), .val (.int y1), .val (.int y2), .val (.int y3), .val (.int y4), .val (.int y5), .val (.ref a11), .val (.int (3 : Int32)), .val (.int (3 : Int32)), .val (.ref ar127), .unset] [(.ref ar127)])) (fun t k => XS.aload X127.here hx rfl (hb hby at_90) rfl rfl k) ?_
    obtain ⟨c128, r128, q128, z128, p128, j128, f128⟩ := id V127
    refine own_to (T127.setTop (mkF m 93 #[.val (.int y0), .val (.int y1), .val (.int y2), .val (.int y3), .val (.int y4), .val (.int y5), .val (.ref a11), .val (.int (3 : Int32)), .val (.int (3 : Int32)), .val (.ref ar127), .unset] [(.int (4 : Int32))])) (fun t k => X127.arraylength hx (by rw [e127]; exact r128.1) (State.isArrayOf_alike hZ.alike r128.2.1) (g := (mkF m 92 #[.val (.int y0), .val (.int y1), .val (.int y2), .val (.int y3), .val (.int y4), .val (.int y5), .val (.ref a11), .val (.int (3 : Int32)), .val (.int (3 : Int32)), .val (.ref ar127), .unset] [(.ref ar127)])) rfl rfl (hb hby at_92) t (by rw [len_of z128 p128]; exact k)) ?_
    refine own_to (T127.setTop (mkF m 95 #[.val (.int y0), .val (.int y1), .val (.int y2), .val (.int y3), .val (.int y4), .val (.int y5), .val (.ref a11), .val (.int (3 : Int32)), .val (.int (3 : Int32)), .val (.ref ar127), .unset] [(.int (3 : Int32)), (.int (4 : Int32))])) (fun t k => XS.iload X127.here hx rfl (hb hby at_93) rfl k) ?_
    refine own_to (T127.setTop (mkF m 96 #[.val (.int y0), .val (.int y1), .val (.int y2), .val (.int y3), .val (.int y4), .val (.int y5), .val (.ref a11), .val (.int (3 : Int32)), .val (.int (3 : Int32)), .val (.ref ar127), .unset] [(.int (1 : Int32)), (.int (3 : Int32)), (.int (4 : Int32))])) (fun t k => XT.iconstV X127.here hx rfl (1 : Int32) (hb hby at_95) (by decide) k) ?_
    refine own_to (T127.setTop (mkF m 97 #[.val (.int y0), .val (.int y1), .val (.int y2), .val (.int y3), .val (.int y4), .val (.int y5), .val (.ref a11), .val (.int (3 : Int32)), .val (.int (3 : Int32)), .val (.ref ar127), .unset] [(.int (4 : Int32)), (.int (4 : Int32))])) (fun t k => XS.iadd X127.here hx rfl (hb hby at_96) rfl (by rw [show ((3 : Int32) + (1 : Int32)) = (4 : Int32) from by decide]; exact k)) ?_
    refine own_to (T127.setTop (mkF m 102 #[.val (.int y0), .val (.int y1), .val (.int y2), .val (.int y3), .val (.int y4), .val (.int y5), .val (.ref a11), .val (.int (3 : Int32)), .val (.int (3 : Int32)), .val (.ref ar127), .unset] [])) (fun t k => XS.icmpYes X127.here hx rfl (pc0 := 97) (pc' := 102) rfl (hb hby at_97) rfl (teq rfl).1 (by decide) (by decide) k) ?_
    refine own_to (T127.setTop (mkF m 103 #[.val (.int y0), .val (.int y1), .val (.int y2), .val (.int y3), .val (.int y4), .val (.int y5), .val (.ref a11), .val (.int (3 : Int32)), .val (.int (3 : Int32)), .val (.ref ar127), .unset] [(.int (4 : Int32))])) (fun t k => XT.iconstV X127.here hx rfl (4 : Int32) (hb hby at_102) (by decide) k) ?_
    obtain ⟨T129, h129, k129, X129, e129, E129, A129, B129, st129⟩ := newPE X127 hx hZ (hw _ (List.mem_of_getElem? (i := 20) rfl)) e127 (g := (mkF m 103 #[.val (.int y0), .val (.int y1), .val (.int y2), .val (.int y3), .val (.int y4), .val (.int y5), .val (.ref a11), .val (.int (3 : Int32)), .val (.int (3 : Int32)), .val (.ref ar127), .unset] [(.int (4 : Int32))])) rfl (hb hby at_103) rfl (by decide) (cap := 4) (by decide) (by decide) (by decide) (by decide) (ad := "[I") (by decide)
    obtain ⟨a129, g129⟩ : ∃ z, z = h127.size := ⟨_, rfl⟩
    rw [← g129] at A129 B129 st129
    have ne_ar127_a129 : ar127 ≠ a129 := Nat.ne_of_lt (g129 ▸ V127.lt)
    have Z129 : n0 ≤ h129.size := Nat.le_trans Z127 E129.1
    have ge129 : n0 ≤ a129 := Nat.le_trans Z127 (Nat.le_of_eq g129.symm)
    have F130 := V127.ext E129
    have V131 : Arv Z h129 a129 k129 .int (4 : Int32) [(.int (0 : Int32)), (.int (0 : Int32)), (.int (0 : Int32)), (.int (0 : Int32))] (.int (0 : Int32)) := (Arv.new A129 (by decide)).pad (pad_rep [] _ 4)
    refine own_to (T129.setTop (mkF m 105 #[.val (.int y0), .val (.int y1), .val (.int y2), .val (.int y3), .val (.int y4), .val (.int y5), .val (.ref a11), .val (.int (3 : Int32)), .val (.int (3 : Int32)), .val (.ref ar127), .unset] [(.ref a129)])) (fun t k => st129 t k) ?_
    refine own_to (T129.setTop (mkF m 107 #[.val (.int y0), .val (.int y1), .val (.int y2), .val (.int y3), .val (.int y4), .val (.int y5), .val (.ref a11), .val (.int (3 : Int32)), .val (.int (3 : Int32)), .val (.ref ar127), .val (.ref a129)] [])) (fun t k => XS.astore X129.here hx rfl (hb hby at_105) rfl rfl (l' := #[.val (.int y0), .val (.int y1), .val (.int y2), .val (.int y3), .val (.int y4), .val (.int y5), .val (.ref a11), .val (.int (3 : Int32)), .val (.int (3 : Int32)), .val (.ref ar127), .val (.ref a129)]) rfl k) ?_
    refine own_to (T129.setTop (mkF m 109 #[.val (.int y0), .val (.int y1), .val (.int y2), .val (.int y3), .val (.int y4), .val (.int y5), .val (.ref a11), .val (.int (3 : Int32)), .val (.int (3 : Int32)), .val (.ref ar127), .val (.ref a129)] [(.ref a129)])) (fun t k => XS.aload X129.here hx rfl (hb hby at_107) rfl rfl k) ?_
    refine own_to (T129.setTop (mkF m 110 #[.val (.int y0), .val (.int y1), .val (.int y2), .val (.int y3), .val (.int y4), .val (.int y5), .val (.ref a11), .val (.int (3 : Int32)), .val (.int (3 : Int32)), .val (.ref ar127), .val (.ref a129)] [(.int (0 : Int32)), (.ref a129)])) (fun t k => XT.iconstV X129.here hx rfl (0 : Int32) (hb hby at_109) (by decide) k) ?_
    refine own_to (T129.setTop (mkF m 111 #[.val (.int y0), .val (.int y1), .val (.int y2), .val (.int y3), .val (.int y4), .val (.int y5), .val (.ref a11), .val (.int (3 : Int32)), .val (.int (3 : Int32)), .val (.ref ar127), .val (.ref a129)] [(.int y0), (.int (0 : Int32)), (.ref a129)])) (fun t k => XS.iloadN X129.here hx rfl (hb hby at_110) rfl k) ?_
    obtain ⟨c132, r132, q132, z132, p132, j132, f132⟩ := id V131
    have u132 := inb_of z132 (j := (0 : Int32)) ⟨by decide, by decide⟩
    obtain ⟨T132, h132, X132, e132, W132, st132⟩ := stI X129 hx hZ e129 r132 u132 (g := (mkF m 111 #[.val (.int y0), .val (.int y1), .val (.int y2), .val (.int y3), .val (.int y4), .val (.int y5), .val (.ref a11), .val (.int (3 : Int32)), .val (.int (3 : Int32)), .val (.ref ar127), .val (.ref a129)] [(.int y0), (.int (0 : Int32)), (.ref a129)])) rfl rfl (hb hby at_111)
    have N132 := Fr.snoc X132 N127 ge129
    have F133 := F130.other W132 ne_ar127_a129
    have F134 := B129.wr W132
    have V135 : Arv Z h132 a129 k129 .int (4 : Int32) [(.int y0), (.int (0 : Int32)), (.int (0 : Int32)), (.int (0 : Int32))] (.int (0 : Int32)) := Arv.set r132 q132 z132 p132 j132 f132 rfl W132 0 rfl (Nat.le_of_ble_eq_true rfl)
    have Z136 : n0 ≤ h132.size := by rw [W132.size]; exact Z129
    refine own_to (T132.setTop (mkF m 112 #[.val (.int y0), .val (.int y1), .val (.int y2), .val (.int y3), .val (.int y4), .val (.int y5), .val (.ref a11), .val (.int (3 : Int32)), .val (.int (3 : Int32)), .val (.ref ar127), .val (.ref a129)] [])) (fun t k => st132 t k) ?_
    refine own_to (T132.setTop (mkF m 114 #[.val (.int y0), .val (.int y1), .val (.int y2), .val (.int y3), .val (.int y4), .val (.int y5), .val (.ref a11), .val (.int (3 : Int32)), .val (.int (3 : Int32)), .val (.ref ar127), .val (.ref a129)] [(.ref a129)])) (fun t k => XS.aload X132.here hx rfl (hb hby at_112) rfl rfl k) ?_
    refine own_to (T132.setTop (mkF m 115 #[.val (.int y0), .val (.int y1), .val (.int y2), .val (.int y3), .val (.int y4), .val (.int y5), .val (.ref a11), .val (.int (3 : Int32)), .val (.int (3 : Int32)), .val (.ref ar127), .val (.ref a129)] [(.int (1 : Int32)), (.ref a129)])) (fun t k => XT.iconstV X132.here hx rfl (1 : Int32) (hb hby at_114) (by decide) k) ?_
    refine own_to (T132.setTop (mkF m 116 #[.val (.int y0), .val (.int y1), .val (.int y2), .val (.int y3), .val (.int y4), .val (.int y5), .val (.ref a11), .val (.int (3 : Int32)), .val (.int (3 : Int32)), .val (.ref ar127), .val (.ref a129)] [(.int y1), (.int (1 : Int32)), (.ref a129)])) (fun t k => XS.iloadN X132.here hx rfl (hb hby at_115) rfl k) ?_
    obtain ⟨c137, r137, q137, z137, p137, j137, f137⟩ := id V135
    have u137 := inb_of z137 (j := (1 : Int32)) ⟨by decide, by decide⟩
    obtain ⟨T137, h137, X137, e137, W137, st137⟩ := stI X132 hx hZ e132 r137 u137 (g := (mkF m 116 #[.val (.int y0), .val (.int y1), .val (.int y2), .val (.int y3), .val (.int y4), .val (.int y5), .val (.ref a11), .val (.int (3 : Int32)), .val (.int (3 : Int32)), .val (.ref ar127), .val (.ref a129)] [(.int y1), (.int (1 : Int32)), (.ref a129)])) rfl rfl (hb hby at_116)
    have N137 := Fr.snoc X137 N132 ge129
    have F138 := F133.other W137 ne_ar127_a129
    have F139 := F134.wr W137
    have V140 : Arv Z h137 a129 k129 .int (4 : Int32) [(.int y0), (.int y1), (.int (0 : Int32)), (.int (0 : Int32))] (.int (0 : Int32)) := Arv.set r137 q137 z137 p137 j137 f137 rfl W137 1 rfl (Nat.le_of_ble_eq_true rfl)
    have Z141 : n0 ≤ h137.size := by rw [W137.size]; exact Z136
    refine own_to (T137.setTop (mkF m 117 #[.val (.int y0), .val (.int y1), .val (.int y2), .val (.int y3), .val (.int y4), .val (.int y5), .val (.ref a11), .val (.int (3 : Int32)), .val (.int (3 : Int32)), .val (.ref ar127), .val (.ref a129)] [])) (fun t k => st137 t k) ?_
    refine own_to (T137.setTop (mkF m 119 #[.val (.int y0), .val (.int y1), .val (.int y2), .val (.int y3), .val (.int y4), .val (.int y5), .val (.ref a11), .val (.int (3 : Int32)), .val (.int (3 : Int32)), .val (.ref ar127), .val (.ref a129)] [(.ref a129)])) (fun t k => XS.aload X137.here hx rfl (hb hby at_117) rfl rfl k) ?_
    refine own_to (T137.setTop (mkF m 120 #[.val (.int y0), .val (.int y1), .val (.int y2), .val (.int y3), .val (.int y4), .val (.int y5), .val (.ref a11), .val (.int (3 : Int32)), .val (.int (3 : Int32)), .val (.ref ar127), .val (.ref a129)] [(.int (2 : Int32)), (.ref a129)])) (fun t k => XT.iconstV X137.here hx rfl (2 : Int32) (hb hby at_119) (by decide) k) ?_
    refine own_to (T137.setTop (mkF m 121 #[.val (.int y0), .val (.int y1), .val (.int y2), .val (.int y3), .val (.int y4), .val (.int y5), .val (.ref a11), .val (.int (3 : Int32)), .val (.int (3 : Int32)), .val (.ref ar127), .val (.ref a129)] [(.int y2), (.int (2 : Int32)), (.ref a129)])) (fun t k => XS.iloadN X137.here hx rfl (hb hby at_120) rfl k) ?_
    obtain ⟨c142, r142, q142, z142, p142, j142, f142⟩ := id V140
    have u142 := inb_of z142 (j := (2 : Int32)) ⟨by decide, by decide⟩
    obtain ⟨T142, h142, X142, e142, W142, st142⟩ := stI X137 hx hZ e137 r142 u142 (g := (mkF m 121 #[.val (.int y0), .val (.int y1), .val (.int y2), .val (.int y3), .val (.int y4), .val (.int y5), .val (.ref a11), .val (.int (3 : Int32)), .val (.int (3 : Int32)), .val (.ref ar127), .val (.ref a129)] [(.int y2), (.int (2 : Int32)), (.ref a129)])) rfl rfl (hb hby at_121)
    have N142 := Fr.snoc X142 N137 ge129
    have F143 := F138.other W142 ne_ar127_a129
    have F144 := F139.wr W142
    have V145 : Arv Z h142 a129 k129 .int (4 : Int32) [(.int y0), (.int y1), (.int y2), (.int (0 : Int32))] (.int (0 : Int32)) := Arv.set r142 q142 z142 p142 j142 f142 rfl W142 2 rfl (Nat.le_of_ble_eq_true rfl)
    have Z146 : n0 ≤ h142.size := by rw [W142.size]; exact Z141
    refine own_to (T142.setTop (mkF m 122 #[.val (.int y0), .val (.int y1), .val (.int y2), .val (.int y3), .val (.int y4), .val (.int y5), .val (.ref a11), .val (.int (3 : Int32)), .val (.int (3 : Int32)), .val (.ref ar127), .val (.ref a129)] [])) (fun t k => st142 t k) ?_
    refine own_to (T142.setTop (mkF m 124 #[.val (.int y0), .val (.int y1), .val (.int y2), .val (.int y3), .val (.int y4), .val (.int y5), .val (.ref a11), .val (.int (3 : Int32)), .val (.int (3 : Int32)), .val (.ref ar127), .val (.ref a129)] [(.ref a129)])) (fun t k => XS.aload X142.here hx rfl (hb hby at_122) rfl rfl k) ?_
    refine own_to (T142.setTop (mkF m 125 #[.val (.int y0), .val (.int y1), .val (.int y2), .val (.int y3), .val (.int y4), .val (.int y5), .val (.ref a11), .val (.int (3 : Int32)), .val (.int (3 : Int32)), .val (.ref ar127), .val (.ref a129)] [(.int (3 : Int32)), (.ref a129)])) (fun t k => XT.iconstV X142.here hx rfl (3 : Int32) (hb hby at_124) (by decide) k) ?_
    refine own_to (T142.setTop (mkF m 126 #[.val (.int y0), .val (.int y1), .val (.int y2), .val (.int y3), .val (.int y4), .val (.int y5), .val (.ref a11), .val (.int (3 : Int32)), .val (.int (3 : Int32)), .val (.ref ar127), .val (.ref a129)] [(.int y3), (.int (3 : Int32)), (.ref a129)])) (fun t k => XS.iloadN X142.here hx rfl (hb hby at_125) rfl k) ?_
    obtain ⟨c147, r147, q147, z147, p147, j147, f147⟩ := id V145
    have u147 := inb_of z147 (j := (3 : Int32)) ⟨by decide, by decide⟩
    obtain ⟨T147, h147, X147, e147, W147, st147⟩ := stI X142 hx hZ e142 r147 u147 (g := (mkF m 126 #[.val (.int y0), .val (.int y1), .val (.int y2), .val (.int y3), .val (.int y4), .val (.int y5), .val (.ref a11), .val (.int (3 : Int32)), .val (.int (3 : Int32)), .val (.ref ar127), .val (.ref a129)] [(.int y3), (.int (3 : Int32)), (.ref a129)])) rfl rfl (hb hby at_126)
    have N147 := Fr.snoc X147 N142 ge129
    have F148 := F143.other W147 ne_ar127_a129
    have F149 := F144.wr W147
    have V150 : Arv Z h147 a129 k129 .int (4 : Int32) [(.int y0), (.int y1), (.int y2), (.int y3)] (.int (0 : Int32)) := Arv.set r147 q147 z147 p147 j147 f147 rfl W147 3 rfl (Nat.le_of_ble_eq_true rfl)
    have Z151 : n0 ≤ h147.size := by rw [W147.size]; exact Z146
    refine own_to (T147.setTop (mkF m 127 #[.val (.int y0), .val (.int y1), .val (.int y2), .val (.int y3), .val (.int y4), .val (.int y5), .val (.ref a11), .val (.int (3 : Int32)), .val (.int (3 : Int32)), .val (.ref ar127), .val (.ref a129)] [])) (fun t k => st147 t k) ?_
    refine own_to (T147.setTop (mkF m 129 #[.val (.int y0), .val (.int y1), .val (.int y2), .val (.int y3), .val (.int y4), .val (.int y5), .val (.ref a11), .val (.int (3 : Int32)), .val (.int (3 : Int32)), .val (.ref ar127), .val (.ref a129)] [(.ref ar127)])) (fun t k => XS.aload X147.here hx rfl (hb hby at_127) rfl rfl k) ?_
    refine own_to (T147.setTop (mkF m 130 #[.val (.int y0), .val (.int y1), .val (.int y2), .val (.int y3), .val (.int y4), .val (.int y5), .val (.ref a11), .val (.int (3 : Int32)), .val (.int (3 : Int32)), .val (.ref ar127), .val (.ref a129)] [(.int (0 : Int32)), (.ref ar127)])) (fun t k => XT.iconstV X147.here hx rfl (0 : Int32) (hb hby at_129) (by decide) k) ?_
    refine own_to (T147.setTop (mkF m 132 #[.val (.int y0), .val (.int y1), .val (.int y2), .val (.int y3), .val (.int y4), .val (.int y5), .val (.ref a11), .val (.int (3 : Int32)), .val (.int (3 : Int32)), .val (.ref ar127), .val (.ref a129)] [(.int (3 : Int32)), (.int (0 : Int32)), (.ref ar127)])) (fun t k => XS.iload X147.here hx rfl (hb hby at_130) rfl k) ?_
    refine own_to (T147.setTop (mkF m 134 #[.val (.int y0), .val (.int y1), .val (.int y2), .val (.int y3), .val (.int y4), .val (.int y5), .val (.ref a11), .val (.int (3 : Int32)), .val (.int (3 : Int32)), .val (.ref ar127), .val (.ref a129)] [(.ref a129), (.int (3 : Int32)), (.int (0 : Int32)), (.ref ar127)])) (fun t k => XS.aload X147.here hx rfl (hb hby at_132) rfl rfl k) ?_
    refine own_to (T147.setTop (mkF m 136 #[.val (.int y0), .val (.int y1), .val (.int y2), .val (.int y3), .val (.int y4), .val (.int y5), .val (.ref a11), .val (.int (3 : Int32)), .val (.int (3 : Int32)), .val (.ref ar127), .val (.ref a129)] [(.int y4), (.ref a129), (.int (3 : Int32)), (.int (0 : Int32)), (.ref ar127)])) (fun t k => XS.iload X147.here hx rfl (hb hby at_134) rfl k) ?_
    obtain ⟨c152, r152, q152, z152, p152, j152, f152⟩ := id F148
    obtain ⟨c153, r153, q153, z153, p153, j153, f153⟩ := id V150
    obtain ⟨v154, T154, L154, X154, hQ154, st154⟩ := own_callS X147 hx hZ hown (hw _ (List.mem_of_getElem? (i := 46) rfl)) (hw _ (List.mem_of_getElem? (i := 47) rfl)) (hw _ (List.mem_of_getElem? (i := 49) rfl)) (hw _ (List.mem_of_getElem? (i := 48) rfl)) (by decide) e147 (argsL := [(.ref ar127), (.int (0 : Int32)), (.int (3 : Int32)), (.ref a129), (.int y4)]) (rest := []) (rmt3 l Z a0 hw ar127 a129 (0 : Int32) (3 : Int32) y4 c152 c153 y0 h147 n0 Z151 (by decide) (by decide) r152 (inb_of z152 ⟨by decide, by decide⟩) (j152.at (inb_of z152 ⟨by decide, by decide⟩) rfl) r153 (inb_of z153 ⟨by decide, by decide⟩) (j153.at (inb_of z153 ⟨by decide, by decide⟩) rfl)) (by decide) (W := 0) (by decide) (by decide) (by decide) pd_8 rfl (pc := 136) (Ls := #[.val (.int y0), .val (.int y1), .val (.int y2), .val (.int y3), .val (.int y4), .val (.int y5), .val (.ref a11), .val (.int (3 : Int32)), .val (.int (3 : Int32)), .val (.ref ar127), .val (.ref a129)]) (by rw [hml]; rfl) (Nat.le_of_eq rfl) (hb hby at_136)
    obtain ⟨rfl, M154, e154⟩ := hQ154
    have N154 := Fr.app N147 M154
    refine own_to (T154.setTop (mkF m 139 #[.val (.int y0), .val (.int y1), .val (.int y2), .val (.int y3), .val (.int y4), .val (.int y5), .val (.ref a11), .val (.int (3 : Int32)), .val (.int (3 : Int32)), .val (.ref ar127), .val (.ref a129)] [(.int (1 : Int32))])) (fun t k => st154 t k) ?_
    refine own_to (T154.setTop (mkF m 142 #[.val (.int y0), .val (.int y1), .val (.int y2), .val (.int y3), .val (.int y4), .val (.int y5), .val (.ref a11), .val (.int (3 : Int32)), .val (.int (3 : Int32)), .val (.ref ar127), .val (.ref a129)] [])) (fun t k => XS.ifNo X154.here hx rfl (hb hby at_139) rfl ((if0 _ _).trans (feq (by decide)).1) k) ?_
    refine own_to (T154.setTop (mkF m 144 #[.val (.int y0), .val (.int y1), .val (.int y2), .val (.int y3), .val (.int y4), .val (.int y5), .val (.ref a11), .val (.int (3 : Int32)), .val (.int (3 : Int32)), .val (.ref ar127), .val (.ref a129)] [(.ref ar127)])) (fun t k => XS.aload X154.here hx rfl (hb hby at_142) rfl rfl k) ?_
    refine own_to (T154.setTop (mkF m 145 #[.val (.int y0), .val (.int y1), .val (.int y2), .val (.int y3), .val (.int y4), .val (.int y5), .val (.ref a11), .val (.int (3 : Int32)), .val (.int (3 : Int32)), .val (.ref ar127), .val (.ref a129)] [(.int (1 : Int32)), (.ref ar127)])) (fun t k => XT.iconstV X154.here hx rfl (1 : Int32) (hb hby at_144) (by decide) k) ?_
    refine own_to (T154.setTop (mkF m 147 #[.val (.int y0), .val (.int y1), .val (.int y2), .val (.int y3), .val (.int y4), .val (.int y5), .val (.ref a11), .val (.int (3 : Int32)), .val (.int (3 : Int32)), .val (.ref ar127), .val (.ref a129)] [(.int (3 : Int32)), (.int (1 : Int32)), (.ref ar127)])) (fun t k => XS.iload X154.here hx rfl (hb hby at_145) rfl k) ?_
    refine own_to (T154.setTop (mkF m 149 #[.val (.int y0), .val (.int y1), .val (.int y2), .val (.int y3), .val (.int y4), .val (.int y5), .val (.ref a11), .val (.int (3 : Int32)), .val (.int (3 : Int32)), .val (.ref ar127), .val (.ref a129)] [(.ref a129), (.int (3 : Int32)), (.int (1 : Int32)), (.ref ar127)])) (fun t k => XS.aload X154.here hx rfl (hb hby at_147) rfl rfl k) ?_
    refine own_to (T154.setTop (mkF m 151 #[.val (.int y0), .val (.int y1), .val (.int y2), .val (.int y3), .val (.int y4), .val (.int y5), .val (.ref a11), .val (.int (3 : Int32)), .val (.int (3 : Int32)), .val (.ref ar127), .val (.ref a129)] [(.int y4), (.ref a129), (.int (3 : Int32)), (.int (1 : Int32)), (.ref ar127)])) (fun t k => XS.iload X154.here hx rfl (hb hby at_149) rfl k) ?_
    obtain ⟨v155, T155, L155, X155, hQ155, st155⟩ := own_callS X154 hx hZ hown (hw _ (List.mem_of_getElem? (i := 46) rfl)) (hw _ (List.mem_of_getElem? (i := 47) rfl)) (hw _ (List.mem_of_getElem? (i := 49) rfl)) (hw _ (List.mem_of_getElem? (i := 48) rfl)) (by decide) e154 (argsL := [(.ref ar127), (.int (1 : Int32)), (.int (3 : Int32)), (.ref a129), (.int y4)]) (rest := []) (rmt3 l Z a0 hw ar127 a129 (1 : Int32) (3 : Int32) y4 c152 c153 y1 h147 n0 Z151 (by decide) (by decide) r152 (inb_of z152 ⟨by decide, by decide⟩) (j152.at (inb_of z152 ⟨by decide, by decide⟩) rfl) r153 (inb_of z153 ⟨by decide, by decide⟩) (j153.at (inb_of z153 ⟨by decide, by decide⟩) rfl)) (by decide) (W := 0) (by decide) (by decide) (by decide) pd_8 rfl (pc := 151) (Ls := #[.val (.int y0), .val (.int y1), .val (.int y2), .val (.int y3), .val (.int y4), .val (.int y5), .val (.ref a11), .val (.int (3 : Int32)), .val (.int (3 : Int32)), .val (.ref ar127), .val (.ref a129)]) (by rw [hml]; rfl) (Nat.le_of_eq rfl) (hb hby at_151)
    obtain ⟨rfl, M155, e155⟩ := hQ155
    have N155 := Fr.app N154 M155
    refine own_to (T155.setTop (mkF m 154 #[.val (.int y0), .val (.int y1), .val (.int y2), .val (.int y3), .val (.int y4), .val (.int y5), .val (.ref a11), .val (.int (3 : Int32)), .val (.int (3 : Int32)), .val (.ref ar127), .val (.ref a129)] [(.int (1 : Int32))])) (fun t k => st155 t k) ?_
    refine own_to (T155.setTop (mkF m 157 #[.val (.int y0), .val (.int y1), .val (.int y2), .val (.int y3), .val (.int y4), .val (.int y5), .val (.ref a11), .val (.int (3 : Int32)), .val (.int (3 : Int32)), .val (.ref ar127), .val (.ref a129)] [])) (fun t k => XS.ifNo X155.here hx rfl (hb hby at_154) rfl ((if0 _ _).trans (feq (by decide)).1) k) ?_
    refine own_to (T155.setTop (mkF m 159 #[.val (.int y0), .val (.int y1), .val (.int y2), .val (.int y3), .val (.int y4), .val (.int y5), .val (.ref a11), .val (.int (3 : Int32)), .val (.int (3 : Int32)), .val (.ref ar127), .val (.ref a129)] [(.ref ar127)])) (fun t k => XS.aload X155.here hx rfl (hb hby at_157) rfl rfl k) ?_
    refine own_to (T155.setTop (mkF m 160 #[.val (.int y0), .val (.int y1), .val (.int y2), .val (.int y3), .val (.int y4), .val (.int y5), .val (.ref a11), .val (.int (3 : Int32)), .val (.int (3 : Int32)), .val (.ref ar127), .val (.ref a129)] [(.int (2 : Int32)), (.ref ar127)])) (fun t k => XT.iconstV X155.here hx rfl (2 : Int32) (hb hby at_159) (by decide) k) ?_
    refine own_to (T155.setTop (mkF m 162 #[.val (.int y0), .val (.int y1), .val (.int y2), .val (.int y3), .val (.int y4), .val (.int y5), .val (.ref a11), .val (.int (3 : Int32)), .val (.int (3 : Int32)), .val (.ref ar127), .val (.ref a129)] [(.int (3 : Int32)), (.int (2 : Int32)), (.ref ar127)])) (fun t k => XS.iload X155.here hx rfl (hb hby at_160) rfl k) ?_
    refine own_to (T155.setTop (mkF m 164 #[.val (.int y0), .val (.int y1), .val (.int y2), .val (.int y3), .val (.int y4), .val (.int y5), .val (.ref a11), .val (.int (3 : Int32)), .val (.int (3 : Int32)), .val (.ref ar127), .val (.ref a129)] [(.ref a129), (.int (3 : Int32)), (.int (2 : Int32)), (.ref ar127)])) (fun t k => XS.aload X155.here hx rfl (hb hby at_162) rfl rfl k) ?_
    refine own_to (T155.setTop (mkF m 166 #[.val (.int y0), .val (.int y1), .val (.int y2), .val (.int y3), .val (.int y4), .val (.int y5), .val (.ref a11), .val (.int (3 : Int32)), .val (.int (3 : Int32)), .val (.ref ar127), .val (.ref a129)] [(.int y4), (.ref a129), (.int (3 : Int32)), (.int (2 : Int32)), (.ref ar127)])) (fun t k => XS.iload X155.here hx rfl (hb hby at_164) rfl k) ?_
    obtain ⟨v156, T156, L156, X156, hQ156, st156⟩ := own_callS X155 hx hZ hown (hw _ (List.mem_of_getElem? (i := 46) rfl)) (hw _ (List.mem_of_getElem? (i := 47) rfl)) (hw _ (List.mem_of_getElem? (i := 49) rfl)) (hw _ (List.mem_of_getElem? (i := 48) rfl)) (by decide) e155 (argsL := [(.ref ar127), (.int (2 : Int32)), (.int (3 : Int32)), (.ref a129), (.int y4)]) (rest := []) (rmt3 l Z a0 hw ar127 a129 (2 : Int32) (3 : Int32) y4 c152 c153 y2 h147 n0 Z151 (by decide) (by decide) r152 (inb_of z152 ⟨by decide, by decide⟩) (j152.at (inb_of z152 ⟨by decide, by decide⟩) rfl) r153 (inb_of z153 ⟨by decide, by decide⟩) (j153.at (inb_of z153 ⟨by decide, by decide⟩) rfl)) (by decide) (W := 0) (by decide) (by decide) (by decide) pd_8 rfl (pc := 166) (Ls := #[.val (.int y0), .val (.int y1), .val (.int y2), .val (.int y3), .val (.int y4), .val (.int y5), .val (.ref a11), .val (.int (3 : Int32)), .val (.int (3 : Int32)), .val (.ref ar127), .val (.ref a129)]) (by rw [hml]; rfl) (Nat.le_of_eq rfl) (hb hby at_166)
    obtain ⟨rfl, M156, e156⟩ := hQ156
    have N156 := Fr.app N155 M156
    refine own_to (T156.setTop (mkF m 169 #[.val (.int y0), .val (.int y1), .val (.int y2), .val (.int y3), .val (.int y4), .val (.int y5), .val (.ref a11), .val (.int (3 : Int32)), .val (.int (3 : Int32)), .val (.ref ar127), .val (.ref a129)] [(.int (1 : Int32))])) (fun t k => st156 t k) ?_
    refine own_to (T156.setTop (mkF m 172 #[.val (.int y0), .val (.int y1), .val (.int y2), .val (.int y3), .val (.int y4), .val (.int y5), .val (.ref a11), .val (.int (3 : Int32)), .val (.int (3 : Int32)), .val (.ref ar127), .val (.ref a129)] [])) (fun t k => XS.ifNo X156.here hx rfl (hb hby at_169) rfl ((if0 _ _).trans (feq (by decide)).1) k) ?_
    refine own_to (T156.setTop (mkF m 174 #[.val (.int y0), .val (.int y1), .val (.int y2), .val (.int y3), .val (.int y4), .val (.int y5), .val (.ref a11), .val (.int (3 : Int32)), .val (.int (3 : Int32)), .val (.ref ar127), .val (.ref a129)] [(.ref ar127)])) (fun t k => XS.aload X156.here hx rfl (hb hby at_172) rfl rfl k) ?_
    refine own_to (T156.setTop (mkF m 175 #[.val (.int y0), .val (.int y1), .val (.int y2), .val (.int y3), .val (.int y4), .val (.int y5), .val (.ref a11), .val (.int (3 : Int32)), .val (.int (3 : Int32)), .val (.ref ar127), .val (.ref a129)] [(.int (3 : Int32)), (.ref ar127)])) (fun t k => XT.iconstV X156.here hx rfl (3 : Int32) (hb hby at_174) (by decide) k) ?_
    refine own_to (T156.setTop (mkF m 177 #[.val (.int y0), .val (.int y1), .val (.int y2), .val (.int y3), .val (.int y4), .val (.int y5), .val (.ref a11), .val (.int (3 : Int32)), .val (.int (3 : Int32)), .val (.ref ar127), .val (.ref a129)] [(.int (3 : Int32)), (.int (3 : Int32)), (.ref ar127)])) (fun t k => XS.iload X156.here hx rfl (hb hby at_175) rfl k) ?_
    refine own_to (T156.setTop (mkF m 179 #[.val (.int y0), .val (.int y1), .val (.int y2), .val (.int y3), .val (.int y4), .val (.int y5), .val (.ref a11), .val (.int (3 : Int32)), .val (.int (3 : Int32)), .val (.ref ar127), .val (.ref a129)] [(.ref a129), (.int (3 : Int32)), (.int (3 : Int32)), (.ref ar127)])) (fun t k => XS.aload X156.here hx rfl (hb hby at_177) rfl rfl k) ?_
    refine own_to (T156.setTop (mkF m 181 #[.val (.int y0), .val (.int y1), .val (.int y2), .val (.int y3), .val (.int y4), .val (.int y5), .val (.ref a11), .val (.int (3 : Int32)), .val (.int (3 : Int32)), .val (.ref ar127), .val (.ref a129)] [(.int y4), (.ref a129), (.int (3 : Int32)), (.int (3 : Int32)), (.ref ar127)])) (fun t k => XS.iload X156.here hx rfl (hb hby at_179) rfl k) ?_
    obtain ⟨v157, T157, L157, X157, hQ157, st157⟩ := own_callS X156 hx hZ hown (hw _ (List.mem_of_getElem? (i := 46) rfl)) (hw _ (List.mem_of_getElem? (i := 47) rfl)) (hw _ (List.mem_of_getElem? (i := 49) rfl)) (hw _ (List.mem_of_getElem? (i := 48) rfl)) (by decide) e156 (argsL := [(.ref ar127), (.int (3 : Int32)), (.int (3 : Int32)), (.ref a129), (.int y4)]) (rest := []) (rmt2 l Z a0 hw ar127 a129 (3 : Int32) (3 : Int32) y4 c152 h147 n0 Z151 (by decide) (by decide) r152 (inb_of z152 ⟨by decide, by decide⟩) (j152.at (inb_of z152 ⟨by decide, by decide⟩) rfl)) (by decide) (W := 0) (by decide) (by decide) (by decide) pd_8 rfl (pc := 181) (Ls := #[.val (.int y0), .val (.int y1), .val (.int y2), .val (.int y3), .val (.int y4), .val (.int y5), .val (.ref a11), .val (.int (3 : Int32)), .val (.int (3 : Int32)), .val (.ref ar127), .val (.ref a129)]) (by rw [hml]; rfl) (Nat.le_of_eq rfl) (hb hby at_181)
    obtain ⟨rfl, M157, e157⟩ := hQ157
    have N157 := Fr.app N156 M157
    refine own_to (T157.setTop (mkF m 184 #[.val (.int y0), .val (.int y1), .val (.int y2), .val (.int y3), .val (.int y4), .val (.int y5), .val (.ref a11), .val (.int (3 : Int32)), .val (.int (3 : Int32)), .val (.ref ar127), .val (.ref a129)] [(.int (1 : Int32))])) (fun t k => st157 t k) ?_
    refine own_to (T157.setTop (mkF m 187 #[.val (.int y0), .val (.int y1), .val (.int y2), .val (.int y3), .val (.int y4), .val (.int y5), .val (.ref a11), .val (.int (3 : Int32)), .val (.int (3 : Int32)), .val (.ref ar127), .val (.ref a129)] [])) (fun t k => XS.ifNo X157.here hx rfl (hb hby at_184) rfl ((if0 _ _).trans (feq (by decide)).1) k) ?_
    refine own_to (T157.setTop (mkF m 189 #[.val (.int y0), .val (.int y1), .val (.int y2), .val (.int y3), .val (.int y4), .val (.int y5), .val (.ref a11), .val (.int (3 : Int32)), .val (.int (3 : Int32)), .val (.ref ar127), .val (.ref a129)] [(.ref ar127)])) (fun t k => XS.aload X157.here hx rfl (hb hby at_187) rfl rfl k) ?_
    refine own_to (T157.setTop (mkF m 190 #[.val (.int y0), .val (.int y1), .val (.int y2), .val (.int y3), .val (.int y4), .val (.int y5), .val (.ref a11), .val (.int (3 : Int32)), .val (.int (3 : Int32)), .val (.ref ar127), .val (.ref a129)] [(.int (4 : Int32)), (.ref ar127)])) (fun t k => XT.iconstV X157.here hx rfl (4 : Int32) (hb hby at_189) (by decide) k) ?_
    refine own_to (T157.setTop (mkF m 192 #[.val (.int y0), .val (.int y1), .val (.int y2), .val (.int y3), .val (.int y4), .val (.int y5), .val (.ref a11), .val (.int (3 : Int32)), .val (.int (3 : Int32)), .val (.ref ar127), .val (.ref a129)] [(.int (3 : Int32)), (.int (4 : Int32)), (.ref ar127)])) (fun t k => XS.iload X157.here hx rfl (hb hby at_190) rfl k) ?_
    refine own_to (T157.setTop (mkF m 194 #[.val (.int y0), .val (.int y1), .val (.int y2), .val (.int y3), .val (.int y4), .val (.int y5), .val (.ref a11), .val (.int (3 : Int32)), .val (.int (3 : Int32)), .val (.ref ar127), .val (.ref a129)] [(.ref a129), (.int (3 : Int32)), (.int (4 : Int32)), (.ref ar127)])) (fun t k => XS.aload X157.here hx rfl (hb hby at_192) rfl rfl k) ?_
    refine own_to (T157.setTop (mkF m 196 #[.val (.int y0), .val (.int y1), .val (.int y2), .val (.int y3), .val (.int y4), .val (.int y5), .val (.ref a11), .val (.int (3 : Int32)), .val (.int (3 : Int32)), .val (.ref ar127), .val (.ref a129)] [(.int y4), (.ref a129), (.int (3 : Int32)), (.int (4 : Int32)), (.ref ar127)])) (fun t k => XS.iload X157.here hx rfl (hb hby at_194) rfl k) ?_
    obtain ⟨v158, T158, L158, X158, hQ158, st158⟩ := own_callS X157 hx hZ hown (hw _ (List.mem_of_getElem? (i := 46) rfl)) (hw _ (List.mem_of_getElem? (i := 47) rfl)) (hw _ (List.mem_of_getElem? (i := 49) rfl)) (hw _ (List.mem_of_getElem? (i := 48) rfl)) (by decide) e157 (argsL := [(.ref ar127), (.int (4 : Int32)), (.int (3 : Int32)), (.ref a129), (.int y4)]) (rest := []) (rmt1 l Z a0 hw ar127 a129 (4 : Int32) (3 : Int32) y4 h147 n0 Z151 (by decide)) (by decide) (W := 0) (by decide) (by decide) (by decide) pd_8 rfl (pc := 196) (Ls := #[.val (.int y0), .val (.int y1), .val (.int y2), .val (.int y3), .val (.int y4), .val (.int y5), .val (.ref a11), .val (.int (3 : Int32)), .val (.int (3 : Int32)), .val (.ref ar127), .val (.ref a129)]) (by rw [hml]; rfl) (Nat.le_of_eq rfl) (hb hby at_196)
    obtain ⟨rfl, M158, e158⟩ := hQ158
    have N158 := Fr.app N157 M158
    refine own_to (T158.setTop (mkF m 199 #[.val (.int y0), .val (.int y1), .val (.int y2), .val (.int y3), .val (.int y4), .val (.int y5), .val (.ref a11), .val (.int (3 : Int32)), .val (.int (3 : Int32)), .val (.ref ar127), .val (.ref a129)] [(.int (1 : Int32))])) (fun t k => st158 t k) ?_
    refine own_to (T158.setTop (mkF m 202 #[.val (.int y0), .val (.int y1), .val (.int y2), .val (.int y3), .val (.int y4), .val (.int y5), .val (.ref a11), .val (.int (3 : Int32)), .val (.int (3 : Int32)), .val (.ref ar127), .val (.ref a129)] [])) (fun t k => XS.ifNo X158.here hx rfl (hb hby at_199) rfl ((if0 _ _).trans (feq (by decide)).1) k) ?_
    refine own_to (T158.setTop (mkF m 203 #[.val (.int y0), .val (.int y1), .val (.int y2), .val (.int y3), .val (.int y4), .val (.int y5), .val (.ref a11), .val (.int (3 : Int32)), .val (.int (3 : Int32)), .val (.ref ar127), .val (.ref a129)] [(.int (1 : Int32))])) (fun t k => XT.iconstV X158.here hx rfl (1 : Int32) (hb hby at_202) (by decide) k) ?_
    refine own_to (T158.setTop (mkF m 207 #[.val (.int y0), .val (.int y1), .val (.int y2), .val (.int y3), .val (.int y4), .val (.int y5), .val (.ref a11), .val (.int (3 : Int32)), .val (.int (3 : Int32)), .val (.ref ar127), .val (.ref a129)] [(.int (1 : Int32))])) (fun t k => XS.goto X158.here hx rfl (pc0 := 203) (pc' := 207) rfl (hb hby at_203) (by decide) (by decide) k) ?_
    exact own_retZ X158 hx hret hk (i' := (1 : Int32)) (hb hby at_207) (by decide) (by decide) (by decide) ⟨rfl, N158⟩
  · -- k = 4
    refine own_to (T18.setTop (mkF m 44 #[.val (.int y0), .val (.int y1), .val (.int y2), .val (.int y3), .val (.int y4), .val (.int y5), .val (.ref a11), .unset, .unset, .unset, .unset] [(.int (4 : Int32))])) (fun t k => iremM X18 hx rfl (hb hby at_43) rfl (by decide) (by rw [h5]; exact k)) ?_
    refine own_to (T18.setTop (mkF m 46 #[.val (.int y0), .val (.int y1), .val (.int y2), .val (.int y3), .val (.int y4), .val (.int y5), .val (.ref a11), .val (.int (4 : Int32)), .unset, .unset, .unset] [])) (fun t k => XS.istore X18.here hx rfl (hb hby at_44) rfl (l' := #[.val (.int y0), .val (.int y1), .val (.int y2), .val (.int y3), .val (.int y4), .val (.int y5), .val (.ref a11), .val (.int (4 : Int32)), .unset, .unset, .unset]) rfl k) ?_
    refine own_to (T18.setTop (mkF m 48 #[.val (.int y0), .val (.int y1), .val (.int y2), .val (.int y3), .val (.int y4), .val (.int y5), .val (.ref a11), .val (.int (4 : Int32)), .unset, .unset, .unset] [(.ref a11)])) (fun t k => XS.aload X18.here hx rfl (hb hby at_46) rfl rfl k) ?_
    refine own_to (T18.setTop (mkF m 50 #[.val (.int y0), .val (.int y1), .val (.int y2), .val (.int y3), .val (.int y4), .val (.int y5), .val (.ref a11), .val (.int (4 : Int32)), .unset, .unset, .unset] [(.int (4 : Int32)), (.ref a11)])) (fun t k => XS.iload X18.here hx rfl (hb hby at_48) rfl k) ?_
    obtain ⟨v159, T159, L159, X159, hQ159, st159⟩ := own_callV X18 hx hZ hown (hw _ (List.mem_of_getElem? (i := 23) rfl)) (hw _ (List.mem_of_getElem? (i := 24) rfl)) (hw _ (List.mem_of_getElem? (i := 26) rfl)) (notFace_of_selects (args := #[]) (mvT hZ (hw _ (List.mem_of_getElem? (i := 26) rfl)))) (hw _ (List.mem_of_getElem? (i := 25) rfl)) (hw _ (List.mem_of_getElem? (i := 27) rfl)) (hw _ (List.mem_of_getElem? (i := 2) rfl)) (by decide) e18 St18.1 (argsL := [(.int (4 : Int32))]) (rest := []) (rmTK l Z a0 hw a11 pg14 bk15 kp14 kb15 y0 y1 y2 y3 0 4 h18 n0 Z18 (by decide) St18 Na14 Nb15) (by decide) (W := 0) (by decide) (by decide) (by decide) pd_4 rfl (pc := 50) (Ls := #[.val (.int y0), .val (.int y1), .val (.int y2), .val (.int y3), .val (.int y4), .val (.int y5), .val (.ref a11), .val (.int (4 : Int32)), .unset, .unset, .unset]) (by rw [hml]; rfl) (Nat.le_of_eq rfl) (hb hby at_50)
    obtain ⟨h159, e159⟩ : ∃ z, T159.heap = z := ⟨_, rfl⟩
    rw [e159] at hQ159
    obtain ⟨rfl, M159, St159, Z159⟩ := hQ159
    have N159 := Fr.app N18 M159
    refine own_to (T159.setTop (mkF m 53 #[.val (.int y0), .val (.int y1), .val (.int y2), .val (.int y3), .val (.int y4), .val (.int y5), .val (.ref a11), .val (.int (4 : Int32)), .unset, .unset, .unset] [])) (fun t k => st159 t k) ?_
    refine own_to (T159.setTop (mkF m 55 #[.val (.int y0), .val (.int y1), .val (.int y2), .val (.int y3), .val (.int y4), .val (.int y5), .val (.ref a11), .val (.int (4 : Int32)), .unset, .unset, .unset] [(.ref a11)])) (fun t k => XS.aload X159.here hx rfl (hb hby at_53) rfl rfl k) ?_
    obtain ⟨v160, T160, L160, X160, hQ160, st160⟩ := own_callV X159 hx hZ hown (hw _ (List.mem_of_getElem? (i := 28) rfl)) (hw _ (List.mem_of_getElem? (i := 29) rfl)) (hw _ (List.mem_of_getElem? (i := 31) rfl)) (notFace_of_selects (args := #[]) (mvT hZ (hw _ (List.mem_of_getElem? (i := 31) rfl)))) (hw _ (List.mem_of_getElem? (i := 30) rfl)) (hw _ (List.mem_of_getElem? (i := 32) rfl)) (hw _ (List.mem_of_getElem? (i := 2) rfl)) (by decide) e159 St159.1 (argsL := []) (rest := []) (rmS l Z a0 hw a11 4 h159 n0 Z159 St159.2.2.1) (by decide) (W := 0) (by decide) (by decide) (by decide) pd_5 rfl (pc := 55) (Ls := #[.val (.int y0), .val (.int y1), .val (.int y2), .val (.int y3), .val (.int y4), .val (.int y5), .val (.ref a11), .val (.int (4 : Int32)), .unset, .unset, .unset]) (by rw [hml]; rfl) (Nat.le_of_eq rfl) (hb hby at_55)
    obtain ⟨rfl, M160, e160⟩ := hQ160
    have N160 := Fr.app N159 M160
    refine own_to (T160.setTop (mkF m 58 #[.val (.int y0), .val (.int y1), .val (.int y2), .val (.int y3), .val (.int y4), .val (.int y5), .val (.ref a11), .val (.int (4 : Int32)), .unset, .unset, .unset] [(.int (4 : Int32))])) (fun t k => st160 t k) ?_
    refine own_to (T160.setTop (mkF m 60 #[.val (.int y0), .val (.int y1), .val (.int y2), .val (.int y3), .val (.int y4), .val (.int y5), .val (.ref a11), .val (.int (4 : Int32)), .unset, .unset, .unset] [(.int (4 : Int32)), (.int (4 : Int32))])) (fun t k => XS.iload X160.here hx rfl (hb hby at_58) rfl k) ?_
    refine own_to (T160.setTop (mkF m 65 #[.val (.int y0), .val (.int y1), .val (.int y2), .val (.int y3), .val (.int y4), .val (.int y5), .val (.ref a11), .val (.int (4 : Int32)), .unset, .unset, .unset] [])) (fun t k => XS.icmpYes X160.here hx rfl (pc0 := 60) (pc' := 65) rfl (hb hby at_60) rfl (teq rfl).1 (by decide) (by decide) k) ?_
    refine own_to (T160.setTop (mkF m 67 #[.val (.int y0), .val (.int y1), .val (.int y2), .val (.int y3), .val (.int y4), .val (.int y5), .val (.ref a11), .val (.int (4 : Int32)), .unset, .unset, .unset] [(.ref a11)])) (fun t k => XS.aload X160.here hx rfl (hb hby at_65) rfl rfl k) ?_
    refine own_to (T160.setTop (mkF m 69 #[.val (.int y0), .val (.int y1), .val (.int y2), .val (.int y3), .val (.int y4), .val (.int y5), .val (.ref a11), .val (.int (4 : Int32)), .unset, .unset, .unset] [(.int y4), (.ref a11)])) (fun t k => XS.iload X160.here hx rfl (hb hby at_67) rfl k) ?_
    obtain ⟨v161, T161, L161, X161, hQ161, st161⟩ := own_callV X160 hx hZ hown (hw _ (List.mem_of_getElem? (i := 13) rfl)) (hw _ (List.mem_of_getElem? (i := 14) rfl)) (hw _ (List.mem_of_getElem? (i := 16) rfl)) (notFace_of_selects (args := #[]) (mvT hZ (hw _ (List.mem_of_getElem? (i := 16) rfl)))) (hw _ (List.mem_of_getElem? (i := 15) rfl)) (hw _ (List.mem_of_getElem? (i := 17) rfl)) (hw _ (List.mem_of_getElem? (i := 2) rfl)) (by decide) e160 St159.1 (argsL := [(.int y4)]) (rest := []) (rmA4 l Z a0 hw a11 pg14 bk15 kp14 kb15 y0 y1 y2 y3 0 y4 h159 n0 Z159 St159 Na14 Nb15) (by decide) (W := 0) (by decide) (by decide) (by decide) pd_3 rfl (pc := 69) (Ls := #[.val (.int y0), .val (.int y1), .val (.int y2), .val (.int y3), .val (.int y4), .val (.int y5), .val (.ref a11), .val (.int (4 : Int32)), .unset, .unset, .unset]) (by rw [hml]; rfl) (Nat.le_of_eq rfl) (hb hby at_69)
    obtain ⟨h161, e161⟩ : ∃ z, T161.heap = z := ⟨_, rfl⟩
    rw [e161] at hQ161
    obtain ⟨rfl, M161, St161, Z161⟩ := hQ161
    have N161 := Fr.app N160 M161
    refine own_to (T161.setTop (mkF m 72 #[.val (.int y0), .val (.int y1), .val (.int y2), .val (.int y3), .val (.int y4), .val (.int y5), .val (.ref a11), .val (.int (4 : Int32)), .unset, .unset, .unset] [(.int (4 : Int32))])) (fun t k => st161 t k) ?_
    refine own_to (T161.setTop (mkF m 74 #[.val (.int y0), .val (.int y1), .val (.int y2), .val (.int y3), .val (.int y4), .val (.int y5), .val (.ref a11), .val (.int (4 : Int32)), .val (.int (4 : Int32)), .unset, .unset] [])) (fun t k => XS.istore X161.here hx rfl (hb hby at_72) rfl (l' := #[.val (.int y0), .val (.int y1), .val (.int y2), .val (.int y3), .val (.int y4), .val (.int y5), .val (.ref a11), .val (.int (4 : Int32)), .val (.int (4 : Int32)), .unset, .unset]) rfl k) ?_
    refine own_to (T161.setTop (mkF m 76 #[.val (.int y0), .val (.int y1), .val (.int y2), .val (.int y3), .val (.int y4), .val (.int y5), .val (.ref a11), .val (.int (4 : Int32)), .val (.int (4 : Int32)), .unset, .unset] [(.int (4 : Int32))])) (fun t k => XS.iload X161.here hx rfl (hb hby at_74) rfl k) ?_
    refine own_to (T161.setTop (mkF m 78 #[.val (.int y0), .val (.int y1), .val (.int y2), .val (.int y3), .val (.int y4), .val (.int y5), .val (.ref a11), .val (.int (4 : Int32)), .val (.int (4 : Int32)), .unset, .unset] [(.int (4 : Int32)), (.int (4 : Int32))])) (fun t k => XS.iload X161.here hx rfl (hb hby at_76) rfl k) ?_
    refine own_to (T161.setTop (mkF m 83 #[.val (.int y0), .val (.int y1), .val (.int y2), .val (.int y3), .val (.int y4), .val (.int y5), .val (.ref a11), .val (.int (4 : Int32)), .val (.int (4 : Int32)), .unset, .unset] [])) (fun t k => XS.icmpYes X161.here hx rfl (pc0 := 78) (pc' := 83) rfl (hb hby at_78) rfl (teq rfl).1 (by decide) (by decide) k) ?_
    refine own_to (T161.setTop (mkF m 85 #[.val (.int y0), .val (.int y1), .val (.int y2), .val (.int y3), .val (.int y4), .val (.int y5), .val (.ref a11), .val (.int (4 : Int32)), .val (.int (4 : Int32)), .unset, .unset] [(.ref a11)])) (fun t k => XS.aload X161.here hx rfl (hb hby at_83) rfl rfl k) ?_
    obtain ⟨v162, T162, L162, X162, hQ162, st162⟩ := own_callV X161 hx hZ hown (hw _ (List.mem_of_getElem? (i := 33) rfl)) (hw _ (List.mem_of_getElem? (i := 34) rfl)) (hw _ (List.mem_of_getElem? (i := 36) rfl)) (notFace_of_selects (args := #[]) (mvT hZ (hw _ (List.mem_of_getElem? (i := 36) rfl)))) (hw _ (List.mem_of_getElem? (i := 35) rfl)) (hw _ (List.mem_of_getElem? (i := 37) rfl)) (hw _ (List.mem_of_getElem? (i := 2) rfl)) (by decide) e161 St161.1 (argsL := []) (rest := []) (rmY5 l Z a0 hw a11 pg14 bk15 kp14 kb15 y0 y1 y2 y3 y4 h161 n0 Z161 St161 Na14 Nb15) (by decide) (W := 0) (by decide) (by decide) (by decide) pd_6 rfl (pc := 85) (Ls := #[.val (.int y0), .val (.int y1), .val (.int y2), .val (.int y3), .val (.int y4), .val (.int y5), .val (.ref a11), .val (.int (4 : Int32)), .val (.int (4 : Int32)), .unset, .unset]) (by rw [hml]; rfl) (Nat.le_of_eq rfl) (hb hby at_85)
    obtain ⟨h162, e162⟩ : ∃ z, T162.heap = z := ⟨_, rfl⟩
    rw [e162] at hQ162
    obtain ⟨ar162, ka162, rfl, M162, V162, Z162⟩ := hQ162
    have N162 := Fr.app N161 M162
    refine own_to (T162.setTop (mkF m 88 #[.val (.int y0), .val (.int y1), .val (.int y2), .val (.int y3), .val (.int y4), .val (.int y5), .val (.ref a11), .val (.int (4 : Int32)), .val (.int (4 : Int32)), .unset, .unset] [(.ref ar162)])) (fun t k => st162 t k) ?_
    refine own_to (T162.setTop (mkF m 90 #[.val (.int y0), .val (.int y1), .val (.int y2), .val (.int y3), .val (.int y4), .val (.int y5), .val (.ref a11), .val (.int (4 : Int32)), .val (.int (4 : Int32)), .val (.ref ar162), .unset] [])) (fun t k => XS.astore X162.here hx rfl (hb hby at_88) rfl rfl (l' := #[.val (.int y0), .val (.int y1), .val (.int y2), .val (.int y3), .val (.int y4), .val (.int y5), .val (.ref a11), .val (.int (4 : Int32)), .val (.int (4 : Int32)), .val (.ref ar162), .unset]) rfl k) ?_
    refine own_to (T162.setTop (mkF m 92 #[.val (.int y0), .val (.int y1), .val (.int y2), .val (.int y3), .val (.int y4), .val (.int y5), .val (.ref a11), .val (.int (4 : Int32)), .val (.int (4 : Int32)), .val (.ref ar162), .unset] [(.ref ar162)])) (fun t k => XS.aload X162.here hx rfl (hb hby at_90) rfl rfl k) ?_
    obtain ⟨c163, r163, q163, z163, p163, j163, f163⟩ := id V162
    refine own_to (T162.setTop (mkF m 93 #[.val (.int y0), .val (.int y1), .val (.int y2), .val (.int y3), .val (.int y4), .val (.int y5), .val (.ref a11), .val (.int (4 : Int32)), .val (.int (4 : Int32)), .val (.ref ar162), .unset] [(.int (5 : Int32))])) (fun t k => X162.arraylength hx (by rw [e162]; exact r163.1) (State.isArrayOf_alike hZ.alike r163.2.1) (g := (mkF m 92 #[.val (.int y0), .val (.int y1), .val (.int y2), .val (.int y3), .val (.int y4), .val (.int y5), .val (.ref a11), .val (.int (4 : Int32)), .val (.int (4 : Int32)), .val (.ref ar162), .unset] [(.ref ar162)])) rfl rfl (hb hby at_92) t (by rw [len_of z163 p163]; exact k)) ?_
    refine own_to (T162.setTop (mkF m 95 #[.val (.int y0), .val (.int y1), .val (.int y2), .val (.int y3), .val (.int y4), .val (.int y5), .val (.ref a11), .val (.int (4 : Int32)), .val (.int (4 : Int32)), .val (.ref ar162), .unset] [(.int (4 : Int32)), (.int (5 : Int32))])) (fun t k => XS.iload X162.here hx rfl (hb hby at_93) rfl k) ?_
    refine own_to (T162.setTop (mkF m 96 #[.val (.int y0), .val (.int y1), .val (.int y2), .val (.int y3), .val (.int y4), .val (.int y5), .val (.ref a11), .val (.int (4 : Int32)), .val (.int (4 : Int32)), .val (.ref ar162), .unset] [(.int (1 : Int32)), (.int (4 : Int32)), (.int (5 : Int32))])) (fun t k => XT.iconstV X162.here hx rfl (1 : Int32) (hb hby at_95) (by decide) k) ?_
    refine own_to (T162.setTop (mkF m 97 #[.val (.int y0), .val (.int y1), .val (.int y2), .val (.int y3), .val (.int y4), .val (.int y5), .val (.ref a11), .val (.int (4 : Int32)), .val (.int (4 : Int32)), .val (.ref ar162), .unset] [(.int (5 : Int32)), (.int (5 : Int32))])) (fun t k => XS.iadd X162.here hx rfl (hb hby at_96) rfl (by rw [show ((4 : Int32) + (1 : Int32)) = (5 : Int32) from by decide]; exact k)) ?_
    refine own_to (T162.setTop (mkF m 102 #[.val (.int y0), .val (.int y1), .val (.int y2), .val (.int y3), .val (.int y4), .val (.int y5), .val (.ref a11), .val (.int (4 : Int32)), .val (.int (4 : Int32)), .val (.ref ar162), .unset] [])) (fun t k => XS.icmpYes X162.here hx rfl (pc0 := 97) (pc' := 102) rfl (hb hby at_97) rfl (teq rfl).1 (by decide) (by decide) k) ?_
    refine own_to (T162.setTop (mkF m 103 #[.val (.int y0), .val (.int y1), .val (.int y2), .val (.int y3), .val (.int y4), .val (.int y5), .val (.ref a11), .val (.int (4 : Int32)), .val (.int (4 : Int32)), .val (.ref ar162), .unset] [(.int (4 : Int32))])) (fun t k => XT.iconstV X162.here hx rfl (4 : Int32) (hb hby at_102) (by decide) k) ?_
    obtain ⟨T164, h164, k164, X164, e164, E164, A164, B164, st164⟩ := newPE X162 hx hZ (hw _ (List.mem_of_getElem? (i := 20) rfl)) e162 (g := (mkF m 103 #[.val (.int y0), .val (.int y1), .val (.int y2), .val (.int y3), .val (.int y4), .val (.int y5), .val (.ref a11), .val (.int (4 : Int32)), .val (.int (4 : Int32)), .val (.ref ar162), .unset] [(.int (4 : Int32))])) rfl (hb hby at_103) rfl (by decide) (cap := 4) (by decide) (by decide) (by decide) (by decide) (ad := "[I") (by decide)
    obtain ⟨a164, g164⟩ : ∃ z, z = h162.size := ⟨_, rfl⟩
    rw [← g164] at A164 B164 st164
    have ne_ar162_a164 : ar162 ≠ a164 := Nat.ne_of_lt (g164 ▸ V162.lt)
    have Z164 : n0 ≤ h164.size := Nat.le_trans Z162 E164.1
    have ge164 : n0 ≤ a164 := Nat.le_trans Z162 (Nat.le_of_eq g164.symm)
    have F165 := V162.ext E164
    have V166 : Arv Z h164 a164 k164 .int (4 : Int32) [(.int (0 : Int32)), (.int (0 : Int32)), (.int (0 : Int32)), (.int (0 : Int32))] (.int (0 : Int32)) := (Arv.new A164 (by decide)).pad (pad_rep [] _ 4)
    refine own_to (T164.setTop (mkF m 105 #[.val (.int y0), .val (.int y1), .val (.int y2), .val (.int y3), .val (.int y4), .val (.int y5), .val (.ref a11), .val (.int (4 : Int32)), .val (.int (4 : Int32)), .val (.ref ar162), .unset] [(.ref a164)])) (fun t k => st164 t k) ?_
    refine own_to (T164.setTop (mkF m 107 #[.val (.int y0), .val (.int y1), .val (.int y2), .val (.int y3), .val (.int y4), .val (.int y5), .val (.ref a11), .val (.int (4 : Int32)), .val (.int (4 : Int32)), .val (.ref ar162), .val (.ref a164)] [])) (fun t k => XS.astore X164.here hx rfl (hb hby at_105) rfl rfl (l' := #[.val (.int y0), .val (.int y1), .val (.int y2), .val (.int y3), .val (.int y4), .val (.int y5), .val (.ref a11), .val (.int (4 : Int32)), .val (.int (4 : Int32)), .val (.ref ar162), .val (.ref a164)]) rfl k) ?_
    refine own_to (T164.setTop (mkF m 109 #[.val (.int y0), .val (.int y1), .val (.int y2), .val (.int y3), .val (.int y4), .val (.int y5), .val (.ref a11), .val (.int (4 : Int32)), .val (.int (4 : Int32)), .val (.ref ar162), .val (.ref a164)] [(.ref a164)])) (fun t k => XS.aload X164.here hx rfl (hb hby at_107) rfl rfl k) ?_
    refine own_to (T164.setTop (mkF m 110 #[.val (.int y0), .val (.int y1), .val (.int y2), .val (.int y3), .val (.int y4), .val (.int y5), .val (.ref a11), .val (.int (4 : Int32)), .val (.int (4 : Int32)), .val (.ref ar162), .val (.ref a164)] [(.int (0 : Int32)), (.ref a164)])) (fun t k => XT.iconstV X164.here hx rfl (0 : Int32) (hb hby at_109) (by decide) k) ?_
    refine own_to (T164.setTop (mkF m 111 #[.val (.int y0), .val (.int y1), .val (.int y2), .val (.int y3), .val (.int y4), .val (.int y5), .val (.ref a11), .val (.int (4 : Int32)), .val (.int (4 : Int32)), .val (.ref ar162), .val (.ref a164)] [(.int y0), (.int (0 : Int32)), (.ref a164)])) (fun t k => XS.iloadN X164.here hx rfl (hb hby at_110) rfl k) ?_
    obtain ⟨c167, r167, q167, z167, p167, j167, f167⟩ := id V166
    have u167 := inb_of z167 (j := (0 : Int32)) ⟨by decide, by decide⟩
    obtain ⟨T167, h167, X167, e167, W167, st167⟩ := stI X164 hx hZ e164 r167 u167 (g := (mkF m 111 #[.val (.int y0), .val (.int y1), .val (.int y2), .val (.int y3), .val (.int y4), .val (.int y5), .val (.ref a11), .val (.int (4 : Int32)), .val (.int (4 : Int32)), .val (.ref ar162), .val (.ref a164)] [(.int y0), (.int (0 : Int32)), (.ref a164)])) rfl rfl (hb hby at_111)
    have N167 := Fr.snoc X167 N162 ge164
    have F168 := F165.other W167 ne_ar162_a164
    have F169 := B164.wr W167
    have V170 : Arv Z h167 a164 k164 .int (4 : Int32) [(.int y0), (.int (0 : Int32)), (.int (0 : Int32)), (.int (0 : Int32))] (.int (0 : Int32)) := Arv.set r167 q167 z167 p167 j167 f167 rfl W167 0 rfl (Nat.le_of_ble_eq_true rfl)
    have Z171 : n0 ≤ h167.size := by rw [W167.size]; exact Z164
    refine own_to (T167.setTop (mkF m 112 #[.val (.int y0), .val (.int y1), .val (.int y2), .val (.int y3), .val (.int y4), .val (.int y5), .val (.ref a11), .val (.int (4 : Int32)), .val (.int (4 : Int32)), .val (.ref ar162), .val (.ref a164)] [])) (fun t k => st167 t k) ?_
    refine own_to (T167.setTop (mkF m 114 #[.val (.int y0), .val (.int y1), .val (.int y2), .val (.int y3), .val (.int y4), .val (.int y5), .val (.ref a11), .val (.int (4 : Int32)), .val (.int (4 : Int32)), .val (.ref ar162), .val (.ref a164)] [(.ref a164)])) (fun t k => XS.aload X167.here hx rfl (hb hby at_112) rfl rfl k) ?_
    refine own_to (T167.setTop (mkF m 115 #[.val (.int y0), .val (.int y1), .val (.int y2), .val (.int y3), .val (.int y4), .val (.int y5), .val (.ref a11), .val (.int (4 : Int32)), .val (.int (4 : Int32)), .val (.ref ar162), .val (.ref a164)] [(.int (1 : Int32)), (.ref a164)])) (fun t k => XT.iconstV X167.here hx rfl (1 : Int32) (hb hby at_114) (by decide) k) ?_
    refine own_to (T167.setTop (mkF m 116 #[.val (.int y0), .val (.int y1), .val (.int y2), .val (.int y3), .val (.int y4), .val (.int y5), .val (.ref a11), .val (.int (4 : Int32)), .val (.int (4 : Int32)), .val (.ref ar162), .val (.ref a164)] [(.int y1), (.int (1 : Int32)), (.ref a164)])) (fun t k => XS.iloadN X167.here hx rfl (hb hby at_115) rfl k) ?_
    obtain ⟨c172, r172, q172, z172, p172, j172, f172⟩ := id V170
    have u172 := inb_of z172 (j := (1 : Int32)) ⟨by decide, by decide⟩
    obtain ⟨T172, h172, X172, e172, W172, st172⟩ := stI X167 hx hZ e167 r172 u172 (g := (mkF m 116 #[.val (.int y0), .val (.int y1), .val (.int y2), .val (.int y3), .val (.int y4), .val (.int y5), .val (.ref a11), .val (.int (4 : Int32)), .val (.int (4 : Int32)), .val (.ref ar162), .val (.ref a164)] [(.int y1), (.int (1 : Int32)), (.ref a164)])) rfl rfl (hb hby at_116)
    have N172 := Fr.snoc X172 N167 ge164
    have F173 := F168.other W172 ne_ar162_a164
    have F174 := F169.wr W172
    have V175 : Arv Z h172 a164 k164 .int (4 : Int32) [(.int y0), (.int y1), (.int (0 : Int32)), (.int (0 : Int32))] (.int (0 : Int32)) := Arv.set r172 q172 z172 p172 j172 f172 rfl W172 1 rfl (Nat.le_of_ble_eq_true rfl)
    have Z176 : n0 ≤ h172.size := by rw [W172.size]; exact Z171
    refine own_to (T172.setTop (mkF m 117 #[.val (.int y0), .val (.int y1), .val (.int y2), .val (.int y3), .val (.int y4), .val (.int y5), .val (.ref a11), .val (.int (4 : Int32)), .val (.int (4 : Int32)), .val (.ref ar162), .val (.ref a164)] [])) (fun t k => st172 t k) ?_
    refine own_to (T172.setTop (mkF m 119 #[.val (.int y0), .val (.int y1), .val (.int y2), .val (.int y3), .val (.int y4), .val (.int y5), .val (.ref a11), .val (.int (4 : Int32)), .val (.int (4 : Int32)), .val (.ref ar162), .val (.ref a164)] [(.ref a164)])) (fun t k => XS.aload X172.here hx rfl (hb hby at_117) rfl rfl k) ?_
    refine own_to (T172.setTop (mkF m 120 #[.val (.int y0), .val (.int y1), .val (.int y2), .val (.int y3), .val (.int y4), .val (.int y5), .val (.ref a11), .val (.int (4 : Int32)), .val (.int (4 : Int32)), .val (.ref ar162), .val (.ref a164)] [(.int (2 : Int32)), (.ref a164)])) (fun t k => XT.iconstV X172.here hx rfl (2 : Int32) (hb hby at_119) (by decide) k) ?_
    refine own_to (T172.setTop (mkF m 121 #[.val (.int y0), .val (.int y1), .val (.int y2), .val (.int y3), .val (.int y4), .val (.int y5), .val (.ref a11), .val (.int (4 : Int32)), .val (.int (4 : Int32)), .val (.ref ar162), .val (.ref a164)] [(.int y2), (.int (2 : Int32)), (.ref a164)])) (fun t k => XS.iloadN X172.here hx rfl (hb hby at_120) rfl k) ?_
    obtain ⟨c177, r177, q177, z177, p177, j177, f177⟩ := id V175
    have u177 := inb_of z177 (j := (2 : Int32)) ⟨by decide, by decide⟩
    obtain ⟨T177, h177, X177, e177, W177, st177⟩ := stI X172 hx hZ e172 r177 u177 (g := (mkF m 121 #[.val (.int y0), .val (.int y1), .val (.int y2), .val (.int y3), .val (.int y4), .val (.int y5), .val (.ref a11), .val (.int (4 : Int32)), .val (.int (4 : Int32)), .val (.ref ar162), .val (.ref a164)] [(.int y2), (.int (2 : Int32)), (.ref a164)])) rfl rfl (hb hby at_121)
    have N177 := Fr.snoc X177 N172 ge164
    have F178 := F173.other W177 ne_ar162_a164
    have F179 := F174.wr W177
    have V180 : Arv Z h177 a164 k164 .int (4 : Int32) [(.int y0), (.int y1), (.int y2), (.int (0 : Int32))] (.int (0 : Int32)) := Arv.set r177 q177 z177 p177 j177 f177 rfl W177 2 rfl (Nat.le_of_ble_eq_true rfl)
    have Z181 : n0 ≤ h177.size := by rw [W177.size]; exact Z176
    refine own_to (T177.setTop (mkF m 122 #[.val (.int y0), .val (.int y1), .val (.int y2), .val (.int y3), .val (.int y4), .val (.int y5), .val (.ref a11), .val (.int (4 : Int32)), .val (.int (4 : Int32)), .val (.ref ar162), .val (.ref a164)] [])) (fun t k => st177 t k) ?_
    refine own_to (T177.setTop (mkF m 124 #[.val (.int y0), .val (.int y1), .val (.int y2), .val (.int y3), .val (.int y4), .val (.int y5), .val (.ref a11), .val (.int (4 : Int32)), .val (.int (4 : Int32)), .val (.ref ar162), .val (.ref a164)] [(.ref a164)])) (fun t k => XS.aload X177.here hx rfl (hb hby at_122) rfl rfl k) ?_
    refine own_to (T177.setTop (mkF m 125 #[.val (.int y0), .val (.int y1), .val (.int y2), .val (.int y3), .val (.int y4), .val (.int y5), .val (.ref a11), .val (.int (4 : Int32)), .val (.int (4 : Int32)), .val (.ref ar162), .val (.ref a164)] [(.int (3 : Int32)), (.ref a164)])) (fun t k => XT.iconstV X177.here hx rfl (3 : Int32) (hb hby at_124) (by decide) k) ?_
    refine own_to (T177.setTop (mkF m 126 #[.val (.int y0), .val (.int y1), .val (.int y2), .val (.int y3), .val (.int y4), .val (.int y5), .val (.ref a11), .val (.int (4 : Int32)), .val (.int (4 : Int32)), .val (.ref ar162), .val (.ref a164)] [(.int y3), (.int (3 : Int32)), (.ref a164)])) (fun t k => XS.iloadN X177.here hx rfl (hb hby at_125) rfl k) ?_
    obtain ⟨c182, r182, q182, z182, p182, j182, f182⟩ := id V180
    have u182 := inb_of z182 (j := (3 : Int32)) ⟨by decide, by decide⟩
    obtain ⟨T182, h182, X182, e182, W182, st182⟩ := stI X177 hx hZ e177 r182 u182 (g := (mkF m 126 #[.val (.int y0), .val (.int y1), .val (.int y2), .val (.int y3), .val (.int y4), .val (.int y5), .val (.ref a11), .val (.int (4 : Int32)), .val (.int (4 : Int32)), .val (.ref ar162), .val (.ref a164)] [(.int y3), (.int (3 : Int32)), (.ref a164)])) rfl rfl (hb hby at_126)
    have N182 := Fr.snoc X182 N177 ge164
    have F183 := F178.other W182 ne_ar162_a164
    have F184 := F179.wr W182
    have V185 : Arv Z h182 a164 k164 .int (4 : Int32) [(.int y0), (.int y1), (.int y2), (.int y3)] (.int (0 : Int32)) := Arv.set r182 q182 z182 p182 j182 f182 rfl W182 3 rfl (Nat.le_of_ble_eq_true rfl)
    have Z186 : n0 ≤ h182.size := by rw [W182.size]; exact Z181
    refine own_to (T182.setTop (mkF m 127 #[.val (.int y0), .val (.int y1), .val (.int y2), .val (.int y3), .val (.int y4), .val (.int y5), .val (.ref a11), .val (.int (4 : Int32)), .val (.int (4 : Int32)), .val (.ref ar162), .val (.ref a164)] [])) (fun t k => st182 t k) ?_
    refine own_to (T182.setTop (mkF m 129 #[.val (.int y0), .val (.int y1), .val (.int y2), .val (.int y3), .val (.int y4), .val (.int y5), .val (.ref a11), .val (.int (4 : Int32)), .val (.int (4 : Int32)), .val (.ref ar162), .val (.ref a164)] [(.ref ar162)])) (fun t k => XS.aload X182.here hx rfl (hb hby at_127) rfl rfl k) ?_
    refine own_to (T182.setTop (mkF m 130 #[.val (.int y0), .val (.int y1), .val (.int y2), .val (.int y3), .val (.int y4), .val (.int y5), .val (.ref a11), .val (.int (4 : Int32)), .val (.int (4 : Int32)), .val (.ref ar162), .val (.ref a164)] [(.int (0 : Int32)), (.ref ar162)])) (fun t k => XT.iconstV X182.here hx rfl (0 : Int32) (hb hby at_129) (by decide) k) ?_
    refine own_to (T182.setTop (mkF m 132 #[.val (.int y0), .val (.int y1), .val (.int y2), .val (.int y3), .val (.int y4), .val (.int y5), .val (.ref a11), .val (.int (4 : Int32)), .val (.int (4 : Int32)), .val (.ref ar162), .val (.ref a164)] [(.int (4 : Int32)), (.int (0 : Int32)), (.ref ar162)])) (fun t k => XS.iload X182.here hx rfl (hb hby at_130) rfl k) ?_
    refine own_to (T182.setTop (mkF m 134 #[.val (.int y0), .val (.int y1), .val (.int y2), .val (.int y3), .val (.int y4), .val (.int y5), .val (.ref a11), .val (.int (4 : Int32)), .val (.int (4 : Int32)), .val (.ref ar162), .val (.ref a164)] [(.ref a164), (.int (4 : Int32)), (.int (0 : Int32)), (.ref ar162)])) (fun t k => XS.aload X182.here hx rfl (hb hby at_132) rfl rfl k) ?_
    refine own_to (T182.setTop (mkF m 136 #[.val (.int y0), .val (.int y1), .val (.int y2), .val (.int y3), .val (.int y4), .val (.int y5), .val (.ref a11), .val (.int (4 : Int32)), .val (.int (4 : Int32)), .val (.ref ar162), .val (.ref a164)] [(.int y4), (.ref a164), (.int (4 : Int32)), (.int (0 : Int32)), (.ref ar162)])) (fun t k => XS.iload X182.here hx rfl (hb hby at_134) rfl k) ?_
    obtain ⟨c187, r187, q187, z187, p187, j187, f187⟩ := id F183
    obtain ⟨c188, r188, q188, z188, p188, j188, f188⟩ := id V185
    obtain ⟨v189, T189, L189, X189, hQ189, st189⟩ := own_callS X182 hx hZ hown (hw _ (List.mem_of_getElem? (i := 46) rfl)) (hw _ (List.mem_of_getElem? (i := 47) rfl)) (hw _ (List.mem_of_getElem? (i := 49) rfl)) (hw _ (List.mem_of_getElem? (i := 48) rfl)) (by decide) e182 (argsL := [(.ref ar162), (.int (0 : Int32)), (.int (4 : Int32)), (.ref a164), (.int y4)]) (rest := []) (rmt3 l Z a0 hw ar162 a164 (0 : Int32) (4 : Int32) y4 c187 c188 y0 h182 n0 Z186 (by decide) (by decide) r187 (inb_of z187 ⟨by decide, by decide⟩) (j187.at (inb_of z187 ⟨by decide, by decide⟩) rfl) r188 (inb_of z188 ⟨by decide, by decide⟩) (j188.at (inb_of z188 ⟨by decide, by decide⟩) rfl)) (by decide) (W := 0) (by decide) (by decide) (by decide) pd_8 rfl (pc := 136) (Ls := #[.val (.int y0), .val (.int y1), .val (.int y2), .val (.int y3), .val (.int y4), .val (.int y5), .val (.ref a11), .val (.int (4 : Int32)), .val (.int (4 : Int32)), .val (.ref ar162), .val (.ref a164)]) (by rw [hml]; rfl) (Nat.le_of_eq rfl) (hb hby at_136)
    obtain ⟨rfl, M189, e189⟩ := hQ189
    have N189 := Fr.app N182 M189
    refine own_to (T189.setTop (mkF m 139 #[.val (.int y0), .val (.int y1), .val (.int y2), .val (.int y3), .val (.int y4), .val (.int y5), .val (.ref a11), .val (.int (4 : Int32)), .val (.int (4 : Int32)), .val (.ref ar162), .val (.ref a164)] [(.int (1 : Int32))])) (fun t k => st189 t k) ?_
    refine own_to (T189.setTop (mkF m 142 #[.val (.int y0), .val (.int y1), .val (.int y2), .val (.int y3), .val (.int y4), .val (.int y5), .val (.ref a11), .val (.int (4 : Int32)), .val (.int (4 : Int32)), .val (.ref ar162), .val (.ref a164)] [])) (fun t k => XS.ifNo X189.here hx rfl (hb hby at_139) rfl ((if0 _ _).trans (feq (by decide)).1) k) ?_
    refine own_to (T189.setTop (mkF m 144 #[.val (.int y0), .val (.int y1), .val (.int y2), .val (.int y3), .val (.int y4), .val (.int y5), .val (.ref a11), .val (.int (4 : Int32)), .val (.int (4 : Int32)), .val (.ref ar162), .val (.ref a164)] [(.ref ar162)])) (fun t k => XS.aload X189.here hx rfl (hb hby at_142) rfl rfl k) ?_
    refine own_to (T189.setTop (mkF m 145 #[.val (.int y0), .val (.int y1), .val (.int y2), .val (.int y3), .val (.int y4), .val (.int y5), .val (.ref a11), .val (.int (4 : Int32)), .val (.int (4 : Int32)), .val (.ref ar162), .val (.ref a164)] [(.int (1 : Int32)), (.ref ar162)])) (fun t k => XT.iconstV X189.here hx rfl (1 : Int32) (hb hby at_144) (by decide) k) ?_
    refine own_to (T189.setTop (mkF m 147 #[.val (.int y0), .val (.int y1), .val (.int y2), .val (.int y3), .val (.int y4), .val (.int y5), .val (.ref a11), .val (.int (4 : Int32)), .val (.int (4 : Int32)), .val (.ref ar162), .val (.ref a164)] [(.int (4 : Int32)), (.int (1 : Int32)), (.ref ar162)])) (fun t k => XS.iload X189.here hx rfl (hb hby at_145) rfl k) ?_
    refine own_to (T189.setTop (mkF m 149 #[.val (.int y0), .val (.int y1), .val (.int y2), .val (.int y3), .val (.int y4), .val (.int y5), .val (.ref a11), .val (.int (4 : Int32)), .val (.int (4 : Int32)), .val (.ref ar162), .val (.ref a164)] [(.ref a164), (.int (4 : Int32)), (.int (1 : Int32)), (.ref ar162)])) (fun t k => XS.aload X189.here hx rfl (hb hby at_147) rfl rfl k) ?_
    refine own_to (T189.setTop (mkF m 151 #[.val (.int y0), .val (.int y1), .val (.int y2), .val (.int y3), .val (.int y4), .val (.int y5), .val (.ref a11), .val (.int (4 : Int32)), .val (.int (4 : Int32)), .val (.ref ar162), .val (.ref a164)] [(.int y4), (.ref a164), (.int (4 : Int32)), (.int (1 : Int32)), (.ref ar162)])) (fun t k => XS.iload X189.here hx rfl (hb hby at_149) rfl k) ?_
    obtain ⟨v190, T190, L190, X190, hQ190, st190⟩ := own_callS X189 hx hZ hown (hw _ (List.mem_of_getElem? (i := 46) rfl)) (hw _ (List.mem_of_getElem? (i := 47) rfl)) (hw _ (List.mem_of_getElem? (i := 49) rfl)) (hw _ (List.mem_of_getElem? (i := 48) rfl)) (by decide) e189 (argsL := [(.ref ar162), (.int (1 : Int32)), (.int (4 : Int32)), (.ref a164), (.int y4)]) (rest := []) (rmt3 l Z a0 hw ar162 a164 (1 : Int32) (4 : Int32) y4 c187 c188 y1 h182 n0 Z186 (by decide) (by decide) r187 (inb_of z187 ⟨by decide, by decide⟩) (j187.at (inb_of z187 ⟨by decide, by decide⟩) rfl) r188 (inb_of z188 ⟨by decide, by decide⟩) (j188.at (inb_of z188 ⟨by decide, by decide⟩) rfl)) (by decide) (W := 0) (by decide) (by decide) (by decide) pd_8 rfl (pc := 151) (Ls := #[.val (.int y0), .val (.int y1), .val (.int y2), .val (.int y3), .val (.int y4), .val (.int y5), .val (.ref a11), .val (.int (4 : Int32)), .val (.int (4 : Int32)), .val (.ref ar162), .val (.ref a164)]) (by rw [hml]; rfl) (Nat.le_of_eq rfl) (hb hby at_151)
    obtain ⟨rfl, M190, e190⟩ := hQ190
    have N190 := Fr.app N189 M190
    refine own_to (T190.setTop (mkF m 154 #[.val (.int y0), .val (.int y1), .val (.int y2), .val (.int y3), .val (.int y4), .val (.int y5), .val (.ref a11), .val (.int (4 : Int32)), .val (.int (4 : Int32)), .val (.ref ar162), .val (.ref a164)] [(.int (1 : Int32))])) (fun t k => st190 t k) ?_
    refine own_to (T190.setTop (mkF m 157 #[.val (.int y0), .val (.int y1), .val (.int y2), .val (.int y3), .val (.int y4), .val (.int y5), .val (.ref a11), .val (.int (4 : Int32)), .val (.int (4 : Int32)), .val (.ref ar162), .val (.ref a164)] [])) (fun t k => XS.ifNo X190.here hx rfl (hb hby at_154) rfl ((if0 _ _).trans (feq (by decide)).1) k) ?_
    refine own_to (T190.setTop (mkF m 159 #[.val (.int y0), .val (.int y1), .val (.int y2), .val (.int y3), .val (.int y4), .val (.int y5), .val (.ref a11), .val (.int (4 : Int32)), .val (.int (4 : Int32)), .val (.ref ar162), .val (.ref a164)] [(.ref ar162)])) (fun t k => XS.aload X190.here hx rfl (hb hby at_157) rfl rfl k) ?_
    refine own_to (T190.setTop (mkF m 160 #[.val (.int y0), .val (.int y1), .val (.int y2), .val (.int y3), .val (.int y4), .val (.int y5), .val (.ref a11), .val (.int (4 : Int32)), .val (.int (4 : Int32)), .val (.ref ar162), .val (.ref a164)] [(.int (2 : Int32)), (.ref ar162)])) (fun t k => XT.iconstV X190.here hx rfl (2 : Int32) (hb hby at_159) (by decide) k) ?_
    refine own_to (T190.setTop (mkF m 162 #[.val (.int y0), .val (.int y1), .val (.int y2), .val (.int y3), .val (.int y4), .val (.int y5), .val (.ref a11), .val (.int (4 : Int32)), .val (.int (4 : Int32)), .val (.ref ar162), .val (.ref a164)] [(.int (4 : Int32)), (.int (2 : Int32)), (.ref ar162)])) (fun t k => XS.iload X190.here hx rfl (hb hby at_160) rfl k) ?_
    refine own_to (T190.setTop (mkF m 164 #[.val (.int y0), .val (.int y1), .val (.int y2), .val (.int y3), .val (.int y4), .val (.int y5), .val (.ref a11), .val (.int (4 : Int32)), .val (.int (4 : Int32)), .val (.ref ar162), .val (.ref a164)] [(.ref a164), (.int (4 : Int32)), (.int (2 : Int32)), (.ref ar162)])) (fun t k => XS.aload X190.here hx rfl (hb hby at_162) rfl rfl k) ?_
    refine own_to (T190.setTop (mkF m 166 #[.val (.int y0), .val (.int y1), .val (.int y2), .val (.int y3), .val (.int y4), .val (.int y5), .val (.ref a11), .val (.int (4 : Int32)), .val (.int (4 : Int32)), .val (.ref ar162), .val (.ref a164)] [(.int y4), (.ref a164), (.int (4 : Int32)), (.int (2 : Int32)), (.ref ar162)])) (fun t k => XS.iload X190.here hx rfl (hb hby at_164) rfl k) ?_
    obtain ⟨v191, T191, L191, X191, hQ191, st191⟩ := own_callS X190 hx hZ hown (hw _ (List.mem_of_getElem? (i := 46) rfl)) (hw _ (List.mem_of_getElem? (i := 47) rfl)) (hw _ (List.mem_of_getElem? (i := 49) rfl)) (hw _ (List.mem_of_getElem? (i := 48) rfl)) (by decide) e190 (argsL := [(.ref ar162), (.int (2 : Int32)), (.int (4 : Int32)), (.ref a164), (.int y4)]) (rest := []) (rmt3 l Z a0 hw ar162 a164 (2 : Int32) (4 : Int32) y4 c187 c188 y2 h182 n0 Z186 (by decide) (by decide) r187 (inb_of z187 ⟨by decide, by decide⟩) (j187.at (inb_of z187 ⟨by decide, by decide⟩) rfl) r188 (inb_of z188 ⟨by decide, by decide⟩) (j188.at (inb_of z188 ⟨by decide, by decide⟩) rfl)) (by decide) (W := 0) (by decide) (by decide) (by decide) pd_8 rfl (pc := 166) (Ls := #[.val (.int y0), .val (.int y1), .val (.int y2), .val (.int y3), .val (.int y4), .val (.int y5), .val (.ref a11), .val (.int (4 : Int32)), .val (.int (4 : Int32)), .val (.ref ar162), .val (.ref a164)]) (by rw [hml]; rfl) (Nat.le_of_eq rfl) (hb hby at_166)
    obtain ⟨rfl, M191, e191⟩ := hQ191
    have N191 := Fr.app N190 M191
    refine own_to (T191.setTop (mkF m 169 #[.val (.int y0), .val (.int y1), .val (.int y2), .val (.int y3), .val (.int y4), .val (.int y5), .val (.ref a11), .val (.int (4 : Int32)), .val (.int (4 : Int32)), .val (.ref ar162), .val (.ref a164)] [(.int (1 : Int32))])) (fun t k => st191 t k) ?_
    refine own_to (T191.setTop (mkF m 172 #[.val (.int y0), .val (.int y1), .val (.int y2), .val (.int y3), .val (.int y4), .val (.int y5), .val (.ref a11), .val (.int (4 : Int32)), .val (.int (4 : Int32)), .val (.ref ar162), .val (.ref a164)] [])) (fun t k => XS.ifNo X191.here hx rfl (hb hby at_169) rfl ((if0 _ _).trans (feq (by decide)).1) k) ?_
    refine own_to (T191.setTop (mkF m 174 #[.val (.int y0), .val (.int y1), .val (.int y2), .val (.int y3), .val (.int y4), .val (.int y5), .val (.ref a11), .val (.int (4 : Int32)), .val (.int (4 : Int32)), .val (.ref ar162), .val (.ref a164)] [(.ref ar162)])) (fun t k => XS.aload X191.here hx rfl (hb hby at_172) rfl rfl k) ?_
    refine own_to (T191.setTop (mkF m 175 #[.val (.int y0), .val (.int y1), .val (.int y2), .val (.int y3), .val (.int y4), .val (.int y5), .val (.ref a11), .val (.int (4 : Int32)), .val (.int (4 : Int32)), .val (.ref ar162), .val (.ref a164)] [(.int (3 : Int32)), (.ref ar162)])) (fun t k => XT.iconstV X191.here hx rfl (3 : Int32) (hb hby at_174) (by decide) k) ?_
    refine own_to (T191.setTop (mkF m 177 #[.val (.int y0), .val (.int y1), .val (.int y2), .val (.int y3), .val (.int y4), .val (.int y5), .val (.ref a11), .val (.int (4 : Int32)), .val (.int (4 : Int32)), .val (.ref ar162), .val (.ref a164)] [(.int (4 : Int32)), (.int (3 : Int32)), (.ref ar162)])) (fun t k => XS.iload X191.here hx rfl (hb hby at_175) rfl k) ?_
    refine own_to (T191.setTop (mkF m 179 #[.val (.int y0), .val (.int y1), .val (.int y2), .val (.int y3), .val (.int y4), .val (.int y5), .val (.ref a11), .val (.int (4 : Int32)), .val (.int (4 : Int32)), .val (.ref ar162), .val (.ref a164)] [(.ref a164), (.int (4 : Int32)), (.int (3 : Int32)), (.ref ar162)])) (fun t k => XS.aload X191.here hx rfl (hb hby at_177) rfl rfl k) ?_
    refine own_to (T191.setTop (mkF m 181 #[.val (.int y0), .val (.int y1), .val (.int y2), .val (.int y3), .val (.int y4), .val (.int y5), .val (.ref a11), .val (.int (4 : Int32)), .val (.int (4 : Int32)), .val (.ref ar162), .val (.ref a164)] [(.int y4), (.ref a164), (.int (4 : Int32)), (.int (3 : Int32)), (.ref ar162)])) (fun t k => XS.iload X191.here hx rfl (hb hby at_179) rfl k) ?_
    obtain ⟨v192, T192, L192, X192, hQ192, st192⟩ := own_callS X191 hx hZ hown (hw _ (List.mem_of_getElem? (i := 46) rfl)) (hw _ (List.mem_of_getElem? (i := 47) rfl)) (hw _ (List.mem_of_getElem? (i := 49) rfl)) (hw _ (List.mem_of_getElem? (i := 48) rfl)) (by decide) e191 (argsL := [(.ref ar162), (.int (3 : Int32)), (.int (4 : Int32)), (.ref a164), (.int y4)]) (rest := []) (rmt3 l Z a0 hw ar162 a164 (3 : Int32) (4 : Int32) y4 c187 c188 y3 h182 n0 Z186 (by decide) (by decide) r187 (inb_of z187 ⟨by decide, by decide⟩) (j187.at (inb_of z187 ⟨by decide, by decide⟩) rfl) r188 (inb_of z188 ⟨by decide, by decide⟩) (j188.at (inb_of z188 ⟨by decide, by decide⟩) rfl)) (by decide) (W := 0) (by decide) (by decide) (by decide) pd_8 rfl (pc := 181) (Ls := #[.val (.int y0), .val (.int y1), .val (.int y2), .val (.int y3), .val (.int y4), .val (.int y5), .val (.ref a11), .val (.int (4 : Int32)), .val (.int (4 : Int32)), .val (.ref ar162), .val (.ref a164)]) (by rw [hml]; rfl) (Nat.le_of_eq rfl) (hb hby at_181)
    obtain ⟨rfl, M192, e192⟩ := hQ192
    have N192 := Fr.app N191 M192
    refine own_to (T192.setTop (mkF m 184 #[.val (.int y0), .val (.int y1), .val (.int y2), .val (.int y3), .val (.int y4), .val (.int y5), .val (.ref a11), .val (.int (4 : Int32)), .val (.int (4 : Int32)), .val (.ref ar162), .val (.ref a164)] [(.int (1 : Int32))])) (fun t k => st192 t k) ?_
    refine own_to (T192.setTop (mkF m 187 #[.val (.int y0), .val (.int y1), .val (.int y2), .val (.int y3), .val (.int y4), .val (.int y5), .val (.ref a11), .val (.int (4 : Int32)), .val (.int (4 : Int32)), .val (.ref ar162), .val (.ref a164)] [])) (fun t k => XS.ifNo X192.here hx rfl (hb hby at_184) rfl ((if0 _ _).trans (feq (by decide)).1) k) ?_
    refine own_to (T192.setTop (mkF m 189 #[.val (.int y0), .val (.int y1), .val (.int y2), .val (.int y3), .val (.int y4), .val (.int y5), .val (.ref a11), .val (.int (4 : Int32)), .val (.int (4 : Int32)), .val (.ref ar162), .val (.ref a164)] [(.ref ar162)])) (fun t k => XS.aload X192.here hx rfl (hb hby at_187) rfl rfl k) ?_
    refine own_to (T192.setTop (mkF m 190 #[.val (.int y0), .val (.int y1), .val (.int y2), .val (.int y3), .val (.int y4), .val (.int y5), .val (.ref a11), .val (.int (4 : Int32)), .val (.int (4 : Int32)), .val (.ref ar162), .val (.ref a164)] [(.int (4 : Int32)), (.ref ar162)])) (fun t k => XT.iconstV X192.here hx rfl (4 : Int32) (hb hby at_189) (by decide) k) ?_
    refine own_to (T192.setTop (mkF m 192 #[.val (.int y0), .val (.int y1), .val (.int y2), .val (.int y3), .val (.int y4), .val (.int y5), .val (.ref a11), .val (.int (4 : Int32)), .val (.int (4 : Int32)), .val (.ref ar162), .val (.ref a164)] [(.int (4 : Int32)), (.int (4 : Int32)), (.ref ar162)])) (fun t k => XS.iload X192.here hx rfl (hb hby at_190) rfl k) ?_
    refine own_to (T192.setTop (mkF m 194 #[.val (.int y0), .val (.int y1), .val (.int y2), .val (.int y3), .val (.int y4), .val (.int y5), .val (.ref a11), .val (.int (4 : Int32)), .val (.int (4 : Int32)), .val (.ref ar162), .val (.ref a164)] [(.ref a164), (.int (4 : Int32)), (.int (4 : Int32)), (.ref ar162)])) (fun t k => XS.aload X192.here hx rfl (hb hby at_192) rfl rfl k) ?_
    refine own_to (T192.setTop (mkF m 196 #[.val (.int y0), .val (.int y1), .val (.int y2), .val (.int y3), .val (.int y4), .val (.int y5), .val (.ref a11), .val (.int (4 : Int32)), .val (.int (4 : Int32)), .val (.ref ar162), .val (.ref a164)] [(.int y4), (.ref a164), (.int (4 : Int32)), (.int (4 : Int32)), (.ref ar162)])) (fun t k => XS.iload X192.here hx rfl (hb hby at_194) rfl k) ?_
    obtain ⟨v193, T193, L193, X193, hQ193, st193⟩ := own_callS X192 hx hZ hown (hw _ (List.mem_of_getElem? (i := 46) rfl)) (hw _ (List.mem_of_getElem? (i := 47) rfl)) (hw _ (List.mem_of_getElem? (i := 49) rfl)) (hw _ (List.mem_of_getElem? (i := 48) rfl)) (by decide) e192 (argsL := [(.ref ar162), (.int (4 : Int32)), (.int (4 : Int32)), (.ref a164), (.int y4)]) (rest := []) (rmt2 l Z a0 hw ar162 a164 (4 : Int32) (4 : Int32) y4 c187 h182 n0 Z186 (by decide) (by decide) r187 (inb_of z187 ⟨by decide, by decide⟩) (j187.at (inb_of z187 ⟨by decide, by decide⟩) rfl)) (by decide) (W := 0) (by decide) (by decide) (by decide) pd_8 rfl (pc := 196) (Ls := #[.val (.int y0), .val (.int y1), .val (.int y2), .val (.int y3), .val (.int y4), .val (.int y5), .val (.ref a11), .val (.int (4 : Int32)), .val (.int (4 : Int32)), .val (.ref ar162), .val (.ref a164)]) (by rw [hml]; rfl) (Nat.le_of_eq rfl) (hb hby at_196)
    obtain ⟨rfl, M193, e193⟩ := hQ193
    have N193 := Fr.app N192 M193
    refine own_to (T193.setTop (mkF m 199 #[.val (.int y0), .val (.int y1), .val (.int y2), .val (.int y3), .val (.int y4), .val (.int y5), .val (.ref a11), .val (.int (4 : Int32)), .val (.int (4 : Int32)), .val (.ref ar162), .val (.ref a164)] [(.int (1 : Int32))])) (fun t k => st193 t k) ?_
    refine own_to (T193.setTop (mkF m 202 #[.val (.int y0), .val (.int y1), .val (.int y2), .val (.int y3), .val (.int y4), .val (.int y5), .val (.ref a11), .val (.int (4 : Int32)), .val (.int (4 : Int32)), .val (.ref ar162), .val (.ref a164)] [])) (fun t k => XS.ifNo X193.here hx rfl (hb hby at_199) rfl ((if0 _ _).trans (feq (by decide)).1) k) ?_
    refine own_to (T193.setTop (mkF m 203 #[.val (.int y0), .val (.int y1), .val (.int y2), .val (.int y3), .val (.int y4), .val (.int y5), .val (.ref a11), .val (.int (4 : Int32)), .val (.int (4 : Int32)), .val (.ref ar162), .val (.ref a164)] [(.int (1 : Int32))])) (fun t k => XT.iconstV X193.here hx rfl (1 : Int32) (hb hby at_202) (by decide) k) ?_
    refine own_to (T193.setTop (mkF m 207 #[.val (.int y0), .val (.int y1), .val (.int y2), .val (.int y3), .val (.int y4), .val (.int y5), .val (.ref a11), .val (.int (4 : Int32)), .val (.int (4 : Int32)), .val (.ref ar162), .val (.ref a164)] [(.int (1 : Int32))])) (fun t k => XS.goto X193.here hx rfl (pc0 := 203) (pc' := 207) rfl (hb hby at_203) (by decide) (by decide) k) ?_
    exact own_retZ X193 hx hret hk (i' := (1 : Int32)) (hb hby at_207) (by decide) (by decide) (by decide) ⟨rfl, N193⟩
set_option maxRecDepth 65536 in
set_option maxHeartbeats 40000000 in
theorem comes_1 {Post : Tables → Env → Array Value → State → Outcome → State → Prop} (hpost : ∀ tb e args s v u, (limb_1_1.after args s (.returned v) u = true ∧ limb_1_2.after args s (.returned v) u = true ∧ True) → FrameEnd s (.returned v) u (Jvm.fieldLocs frame_1_writes args s ++ Jvm.arrayLocs frame_1_arrays args s ++ Jvm.staticLocs frame_1_statics s) 24 65664 → Post tb e args s (.returned v) u) :
    ArmFor flags0 classFile x code maxLocals ret World_1 tables_1 room_1 Calls_1 rest_1 Pre_1 Post := by
  intro l hfl _ _ p e ha hc hk s m args below hf hA hF happ hP
  obtain ⟨hcalls, hrest, hpre⟩ := hP
  obtain ⟨-, -, -, hnamed, -, -, -, hat⟩ := (Spec.applies_iff hf).mp happ
  obtain ⟨hg, hn⟩ := and_e (Cond.before_iff.mp (show (Jvm.Cond.and given_1 narrow_1).before args s = true from hpre))
  obtain ⟨g0, k0⟩ := and_e hg
  obtain ⟨w0, w1, w2, w3, w4, w5, rfl⟩ : ∃ w0 w1 w2 w3 w4 w5 : Value, args = #[w0, w1, w2, w3, w4, w5] := by
    have hs : args.size = 6 := by simpa [Cond.value, given_1] using g0
    obtain ⟨L⟩ := args
    match L, hs with
    | [w0, w1, w2, w3, w4, w5], _ => exact ⟨w0, w1, w2, w3, w4, w5, rfl⟩
  have hw := fun d (hd : d ∈ tables_1) => atoms_spec (ws := Jvm.Cond.code x code maxLocals ret :: tables_1) hat d (List.mem_cons_of_mem _ hd)
  have hfit : Fit s := fun {y c} hc i hi => by
    obtain ⟨ha, rfl⟩ := Array.getElem?_eq_some_iff.mp hc
    have q := List.all_eq_true.mp ((Array.all_eq_true_iff_forall_mem.mp hF) _ (Array.getElem_mem ha)) i (List.mem_range.mpr hi)
    simpa [Array.getElem?_eq_getElem hi] using q
  obtain ⟨g1, k1⟩ := and_e k0
  obtain ⟨i0, ei0⟩ := is_v g1
  obtain rfl : w0 = (.int i0) := Option.some.inj ei0
  obtain ⟨g2, k2⟩ := and_e k1
  obtain ⟨i1, ei1⟩ := is_v g2
  obtain rfl : w1 = (.int i1) := Option.some.inj ei1
  obtain ⟨g3, k3⟩ := and_e k2
  obtain ⟨i2, ei2⟩ := is_v g3
  obtain rfl : w2 = (.int i2) := Option.some.inj ei2
  obtain ⟨g4, k4⟩ := and_e k3
  obtain ⟨i3, ei3⟩ := is_v g4
  obtain rfl : w3 = (.int i3) := Option.some.inj ei3
  obtain ⟨g5, k5⟩ := and_e k4
  obtain ⟨i4, ei4⟩ := is_v g5
  obtain rfl : w4 = (.int i4) := Option.some.inj ei4
  obtain ⟨i5, ei5⟩ := is_v k5
  obtain rfl : w5 = (.int i5) := Option.some.inj ei5
  obtain ⟨n, o, h1, h2, h3, _, L, rfl, ⟨rfl, N⟩, hq⟩ := rm0 l s _ hw i0 i1 i2 i3 i4 i5 s.heap s.heap.size (Nat.le_refl _) tables_1 p e ha hc hk s m _ below hf ((Spec.applies_iff_loose hf).mp happ).1 ⟨rfl, State.Warmed39.refl s, rfl⟩ trivial
  refine ⟨n, _, h1, h2, h3, hpost _ _ _ _ _ _ ⟨Cond.after_iff.mpr rfl, Cond.after_iff.mpr (eq_i res_at (Term.int_eval (1)) rfl), trivial⟩ ⟨hq.1, hq.2.1, (hq.2.2.sift fun y hy => Or.inr (N y hy)).mono (by decide) (by decide)⟩⟩
theorem main_1_1 : Claimed_1_1 := comes_1 fun _ _ _ _ _ _ h hF => ⟨h.1, hF⟩
theorem main_1_2 : Claimed_1_2 := comes_1 fun _ _ _ _ _ _ h hF => ⟨h.2.1, hF⟩
end Jvm.Pilot.@@N@@
namespace Jvm.Pilot.@@N@@
open Jvm Jvm.ClassFile Sem Op Lib Jvm.Free Jvm.Stand Jvm.Pilot.@@N@@.Jvm.D
/-! MADE BY PROGRAM (witnessworld.py) out of the Statement's table words and the real class files: 11 classes; the members and pool entries that the words name. The judged class is class 1, her method 1. -/
namespace start1
open Jvm.ClassFile
def u (s : String) : CpInfo := .utf8 (stringToUtf16 s)
/-- a pool by its gaps: so many unusable entries, then the entry; so many at the end -/
def gap : Nat → List CpInfo → List CpInfo
  | 0, r => r
  | n + 1, r => .unusable :: gap n r
def poolList (es : List (Nat × CpInfo)) (last : Nat) : List CpInfo := es.foldr (fun e r => gap e.1 (e.2 :: r)) (gap last [])
def pool (es : List (Nat × CpInfo)) (last : Nat) : Array CpInfo := ⟨poolList es last⟩
def fileOf (pool : Array CpInfo) (this : Nat) (attrs : Array Attribute := #[]) (ms : Array MethodInfo := #[]) (fl : Nat := 33) (sup : Nat := 0) (ifs : Array Nat := #[]) (fds : Array FieldInfo := #[]) : ClassFile where
  minorVersion := 0
  majorVersion := 65
  constantPool := pool
  accessFlags := fl
  thisClass := this
  superClass := sup
  interfaces := ifs
  fields := fds
  methods := ms
  attributes := attrs
def plain (name : String) (sup : Option ClassId) : Class where
  name := name
  kind := .ordinary
  loader := none
  accessFlags := 33
  super := sup
  interfaces := #[]
  cf := none
  fields := #[]
  methods := #[]
  instanceTypes := #[]
  staticTypes := #[]
  resolved := #[]
  callSites := []
  init := .initialized
  statics := none
  mirror := none

def pool0 : Array CpInfo := pool [(5, u "<init>"), (0, u "()V"), (1, .class_ 10), (1, u "java/lang/Object")] 113

def k0c0 : Code := { maxStack := 0, maxLocals := 1, code := object_method_1_code, exceptionTable := #[], attributes := #[] }
def k0m0 : Method := { name := "<init>", desc := "()V", sig := { parameters := [], returnType := none }, accessFlags := 1, code := some k0c0 }
/-- java/lang/Object -/
def k0 : Class := { plain "java/lang/Object" none with
  accessFlags := 33
  interfaces := #[]
  cf := some (fileOf pool0 8 #[] #[{ accessFlags := 1, nameIndex := 5, descriptorIndex := 6, attributes := #[] }] 33 0 #[] #[])
  fields := #[]
  methods := #[k0m0]
  instanceTypes := #[]
  staticTypes := #[]
  resolved := Array.replicate 124 none
  statics := none }

def pool1 : Array CpInfo := pool [(2, .class_ 4), (0, .nameAndType 5 6), (0, u "java/lang/Object"), (0, u "<init>"), (0, u "()V"), (0, .class_ 8), (0, u "com/example/clearance/clearance/IntColumn"), (0, .methodref 7 3), (0, .methodref 7 11), (0, .nameAndType 12 13), (0, u "add"), (0, u "(I)I"), (0, .integer 2147483647), (0, .methodref 7 16), (0, .nameAndType 17 18), (0, u "truncate"), (0, u "(I)V"), (0, .methodref 7 20), (0, .nameAndType 21 22), (0, u "size"), (0, u "()I"), (0, .methodref 7 24), (0, .nameAndType 25 26), (0, u "toArray"), (0, u "()[I"), (0, .methodref 28 29), (0, .class_ 30), (0, .nameAndType 31 32), (0, u "com/example/clearance/clearance/IntColumnTruncatePinLaw"), (0, u "at"), (0, u "([III[II)Z"), (2, u "law"), (0, u "(IIIIII)Z")] 5

def k1m0 : Method := { name := "<init>", desc := "()V", sig := { parameters := [], returnType := none }, accessFlags := 1, code := none }
def k1c1 : Code := { maxStack := 5, maxLocals := 11, code := code, exceptionTable := #[], attributes := #[] }
def k1m1 : Method := { name := "law", desc := "(IIIIII)Z", sig := { parameters := [.int, .int, .int, .int, .int, .int], returnType := some .boolean }, accessFlags := 9, code := some k1c1 }
def k1c2 : Code := { maxStack := 2, maxLocals := 6, code := method_3_code, exceptionTable := #[], attributes := #[] }
def k1m2 : Method := { name := "at", desc := "([III[II)Z", sig := { parameters := [(.array .int), .int, .int, (.array .int), .int], returnType := some .boolean }, accessFlags := 10, code := some k1c2 }
/-- com/example/clearance/clearance/IntColumnTruncatePinLaw -/
def k1 : Class := { plain "com/example/clearance/clearance/IntColumnTruncatePinLaw" (some 0) with
  accessFlags := 49
  interfaces := #[]
  cf := some (fileOf pool1 28 #[] #[{ accessFlags := 1, nameIndex := 5, descriptorIndex := 6, attributes := #[] }, { accessFlags := 9, nameIndex := 35, descriptorIndex := 36, attributes := #[] }, { accessFlags := 10, nameIndex := 31, descriptorIndex := 32, attributes := #[] }] 49 2 #[] #[])
  fields := #[]
  methods := #[k1m0, k1m1, k1m2]
  instanceTypes := #[]
  staticTypes := #[]
  resolved := Array.replicate 42 none
  statics := none }

def pool2 : Array CpInfo := pool [(1, .class_ 2), (0, u "com/example/clearance/clearance/IntColumn"), (0, .methodref 4 5), (0, .class_ 6), (0, .nameAndType 7 8), (0, u "java/lang/Object"), (0, u "<init>"), (0, u "()V"), (0, .class_ 10), (0, u "[I"), (0, .fieldref 1 12), (0, .nameAndType 13 14), (0, u "blocks"), (0, u "[[I"), (0, .fieldref 1 16), (0, .nameAndType 17 18), (0, u "size"), (0, u "I"), (7, .methodref 27 28), (0, .class_ 29), (0, .nameAndType 30 31), (0, u "java/lang/Math"), (0, u "min"), (0, u "(II)I"), (0, .methodref 33 34), (0, .class_ 35), (0, .nameAndType 36 37), (0, u "java/lang/System"), (0, u "arraycopy"), (0, u "(Ljava/lang/Object;ILjava/lang/Object;II)V"), (0, u "BLOCK_BITS"), (2, u "BLOCK"), (3, u "()I"), (0, u "add"), (0, u "(I)I"), (4, u "truncate"), (0, u "(I)V"), (0, u "toArray"), (0, u "()[I")] 2

def k2c0 : Code := { maxStack := 2, maxLocals := 1, code := prog_22_method_1_code, exceptionTable := #[], attributes := #[] }
def k2m0 : Method := { name := "<init>", desc := "()V", sig := { parameters := [], returnType := none }, accessFlags := 0, code := some k2c0 }
def k2c1 : Code := { maxStack := 1, maxLocals := 1, code := prog_22_method_2_code, exceptionTable := #[], attributes := #[] }
def k2m1 : Method := { name := "size", desc := "()I", sig := { parameters := [], returnType := some .int }, accessFlags := 0, code := some k2c1 }
def k2c2 : Code := { maxStack := 4, maxLocals := 3, code := prog_22_method_3_code, exceptionTable := #[], attributes := #[] }
def k2m2 : Method := { name := "add", desc := "(I)I", sig := { parameters := [.int], returnType := some .int }, accessFlags := 0, code := some k2c2 }
def k2c3 : Code := { maxStack := 3, maxLocals := 3, code := prog_22_method_6_code, exceptionTable := #[], attributes := #[] }
def k2m3 : Method := { name := "truncate", desc := "(I)V", sig := { parameters := [.int], returnType := none }, accessFlags := 0, code := some k2c3 }
def k2c4 : Code := { maxStack := 7, maxLocals := 3, code := prog_22_method_7_code, exceptionTable := #[], attributes := #[] }
def k2m4 : Method := { name := "toArray", desc := "()[I", sig := { parameters := [], returnType := some (.array .int) }, accessFlags := 0, code := some k2c4 }
/-- com/example/clearance/clearance/IntColumn -/
def k2 : Class := { plain "com/example/clearance/clearance/IntColumn" (some 0) with
  accessFlags := 48
  interfaces := #[]
  cf := some (fileOf pool2 1 #[] #[{ accessFlags := 0, nameIndex := 7, descriptorIndex := 8, attributes := #[] }, { accessFlags := 0, nameIndex := 17, descriptorIndex := 45, attributes := #[] }, { accessFlags := 0, nameIndex := 46, descriptorIndex := 47, attributes := #[] }, { accessFlags := 0, nameIndex := 52, descriptorIndex := 53, attributes := #[] }, { accessFlags := 0, nameIndex := 54, descriptorIndex := 55, attributes := #[] }] 48 4 #[] #[{ accessFlags := 26, nameIndex := 38, descriptorIndex := 18, attributes := #[] }, { accessFlags := 26, nameIndex := 41, descriptorIndex := 18, attributes := #[] }, { accessFlags := 2, nameIndex := 13, descriptorIndex := 14, attributes := #[] }, { accessFlags := 2, nameIndex := 17, descriptorIndex := 18, attributes := #[] }])
  fields := #[{ name := "BLOCK_BITS", type := .int, accessFlags := 26, slot := 0, constantValue := 0 }, { name := "BLOCK", type := .int, accessFlags := 26, slot := 1, constantValue := 0 }, { name := "blocks", type := (.array (.array .int)), accessFlags := 2, slot := 0, constantValue := 0 }, { name := "size", type := .int, accessFlags := 2, slot := 1, constantValue := 0 }]
  methods := #[k2m0, k2m1, k2m2, k2m3, k2m4]
  instanceTypes := #[(.array (.array .int)), .int]
  staticTypes := #[.int, .int]
  resolved := Array.replicate 58 none
  statics := none }

def pool3 : Array CpInfo := pool [(1, .class_ 2), (0, u "java/lang/Math"), (1, .class_ 6), (1, u "java/lang/Object"), (0, u "<init>"), (0, u "()V"), (89, .class_ 100), (1, u "java/lang/Math$RandomNumberGeneratorHolder"), (71, u "negativeZeroFloatBits"), (0, u "J"), (2, u "negativeZeroDoubleBits"), (24, u "min"), (43, u "$assertionsDisabled"), (0, u "Z"), (88, u "(II)I"), (2, u "twoToTheDoubleScaleDown"), (0, u "D"), (4, u "twoToTheDoubleScaleUp"), (9, u "E"), (3, u "PI"), (2, u "TAU"), (2, u "DEGREES_TO_RADIANS"), (0, u "RADIANS_TO_DEGREES")] 94

def k3m0 : Method := { name := "<init>", desc := "()V", sig := { parameters := [], returnType := none }, accessFlags := 2, code := none }
def k3c1 : Code := { maxStack := 2, maxLocals := 2, code := jdk_29_method_69_code, exceptionTable := #[], attributes := #[] }
def k3m1 : Method := { name := "min", desc := "(II)I", sig := { parameters := [.int, .int], returnType := some .int }, accessFlags := 9, code := some k3c1 }
/-- java/lang/Math -/
def k3 : Class := { plain "java/lang/Math" (some 0) with
  accessFlags := 49
  interfaces := #[]
  cf := some (fileOf pool3 1 #[.nestMembers #[98]] #[{ accessFlags := 2, nameIndex := 7, descriptorIndex := 8, attributes := #[] }, { accessFlags := 9, nameIndex := 201, descriptorIndex := 335, attributes := #[] }] 49 4 #[] #[{ accessFlags := 25, nameIndex := 354, descriptorIndex := 339, attributes := #[] }, { accessFlags := 25, nameIndex := 358, descriptorIndex := 339, attributes := #[] }, { accessFlags := 25, nameIndex := 361, descriptorIndex := 339, attributes := #[] }, { accessFlags := 26, nameIndex := 364, descriptorIndex := 339, attributes := #[] }, { accessFlags := 26, nameIndex := 365, descriptorIndex := 339, attributes := #[] }, { accessFlags := 26, nameIndex := 172, descriptorIndex := 173, attributes := #[] }, { accessFlags := 26, nameIndex := 176, descriptorIndex := 173, attributes := #[] }, { accessFlags := 8, nameIndex := 344, descriptorIndex := 339, attributes := #[] }, { accessFlags := 8, nameIndex := 338, descriptorIndex := 339, attributes := #[] }, { accessFlags := 4120, nameIndex := 245, descriptorIndex := 246, attributes := #[] }])
  fields := #[{ name := "E", type := .double, accessFlags := 25, slot := 0, constantValue := 0 }, { name := "PI", type := .double, accessFlags := 25, slot := 1, constantValue := 0 }, { name := "TAU", type := .double, accessFlags := 25, slot := 2, constantValue := 0 }, { name := "DEGREES_TO_RADIANS", type := .double, accessFlags := 26, slot := 3, constantValue := 0 }, { name := "RADIANS_TO_DEGREES", type := .double, accessFlags := 26, slot := 4, constantValue := 0 }, { name := "negativeZeroFloatBits", type := .long, accessFlags := 26, slot := 5, constantValue := 0 }, { name := "negativeZeroDoubleBits", type := .long, accessFlags := 26, slot := 6, constantValue := 0 }, { name := "twoToTheDoubleScaleUp", type := .double, accessFlags := 8, slot := 7, constantValue := 0 }, { name := "twoToTheDoubleScaleDown", type := .double, accessFlags := 8, slot := 8, constantValue := 0 }, { name := "$assertionsDisabled", type := .boolean, accessFlags := 4120, slot := 9, constantValue := 0 }]
  methods := #[k3m0, k3m1]
  instanceTypes := #[]
  staticTypes := #[.double, .double, .double, .double, .double, .long, .long, .double, .double, .boolean]
  resolved := Array.replicate 460 none
  statics := none }

def pool4 : Array CpInfo := pool [(2, .class_ 4), (1, u "java/lang/Object"), (0, u "<init>"), (0, u "()V"), (1, .class_ 10), (1, u "java/lang/System"), (0, u "allowSecurityManager"), (0, u "I"), (16, u "cons"), (0, u "Ljava/io/Console;"), (77, .class_ 110), (1, u "java/lang/System$CallersHolder"), (43, u "initialErrStream"), (0, u "Ljava/io/PrintStream;"), (19, u "security"), (0, u "Ljava/lang/SecurityManager;"), (31, .class_ 209), (0, u "java/lang/System$1"), (7, u "props"), (0, u "Ljava/util/Properties;"), (2, u "lineSeparator"), (0, u "Ljava/lang/String;"), (96, .class_ 321), (1, u "java/lang/System$LoggerFinder"), (5, .class_ 328), (0, u "java/lang/System$Logger"), (67, u "err"), (2, u "out"), (91, u "notSupportedJnuEncoding"), (15, u "in"), (17, u "initialIn"), (0, u "Ljava/io/InputStream;"), (35, u "bootLayer"), (0, u "Ljava/lang/ModuleLayer;"), (99, .class_ 664), (0, u "java/lang/System$2"), (9, u "NEVER"), (2, u "MAYBE"), (49, u "arraycopy"), (0, u "(Ljava/lang/Object;ILjava/lang/Object;II)V"), (72, .class_ 802), (0, u "java/lang/System$Logger$Level")] 31

def k4m0 : Method := { name := "<init>", desc := "()V", sig := { parameters := [], returnType := none }, accessFlags := 2, code := none }
def k4m1 : Method := { name := "arraycopy", desc := "(Ljava/lang/Object;ILjava/lang/Object;II)V", sig := { parameters := [(.object "java/lang/Object"), .int, (.object "java/lang/Object"), .int, .int], returnType := none }, accessFlags := 265, code := none }
/-- java/lang/System -/
def k4 : Class := { plain "java/lang/System" (some 0) with
  accessFlags := 49
  interfaces := #[]
  cf := some (fileOf pool4 8 #[.nestMembers #[319, 327, 801, 108, 663, 208]] #[{ accessFlags := 2, nameIndex := 5, descriptorIndex := 6, attributes := #[] }, { accessFlags := 265, nameIndex := 727, descriptorIndex := 728, attributes := #[] }] 49 2 #[] #[{ accessFlags := 25, nameIndex := 507, descriptorIndex := 526, attributes := #[] }, { accessFlags := 25, nameIndex := 399, descriptorIndex := 155, attributes := #[] }, { accessFlags := 25, nameIndex := 396, descriptorIndex := 155, attributes := #[] }, { accessFlags := 10, nameIndex := 525, descriptorIndex := 526, attributes := #[] }, { accessFlags := 26, nameIndex := 674, descriptorIndex := 12, attributes := #[] }, { accessFlags := 26, nameIndex := 677, descriptorIndex := 12, attributes := #[] }, { accessFlags := 10, nameIndex := 11, descriptorIndex := 12, attributes := #[] }, { accessFlags := 74, nameIndex := 175, descriptorIndex := 176, attributes := #[] }, { accessFlags := 10, nameIndex := 491, descriptorIndex := 222, attributes := #[] }, { accessFlags := 74, nameIndex := 29, descriptorIndex := 30, attributes := #[] }, { accessFlags := 74, nameIndex := 154, descriptorIndex := 155, attributes := #[] }, { accessFlags := 10, nameIndex := 217, descriptorIndex := 218, attributes := #[] }, { accessFlags := 10, nameIndex := 221, descriptorIndex := 222, attributes := #[] }, { accessFlags := 8, nameIndex := 562, descriptorIndex := 563, attributes := #[] }])
  fields := #[{ name := "in", type := (.object "java/io/InputStream"), accessFlags := 25, slot := 0, constantValue := 0 }, { name := "out", type := (.object "java/io/PrintStream"), accessFlags := 25, slot := 1, constantValue := 0 }, { name := "err", type := (.object "java/io/PrintStream"), accessFlags := 25, slot := 2, constantValue := 0 }, { name := "initialIn", type := (.object "java/io/InputStream"), accessFlags := 10, slot := 3, constantValue := 0 }, { name := "NEVER", type := .int, accessFlags := 26, slot := 4, constantValue := 0 }, { name := "MAYBE", type := .int, accessFlags := 26, slot := 5, constantValue := 0 }, { name := "allowSecurityManager", type := .int, accessFlags := 10, slot := 6, constantValue := 0 }, { name := "security", type := (.object "java/lang/SecurityManager"), accessFlags := 74, slot := 7, constantValue := 0 }, { name := "notSupportedJnuEncoding", type := (.object "java/lang/String"), accessFlags := 10, slot := 8, constantValue := 0 }, { name := "cons", type := (.object "java/io/Console"), accessFlags := 74, slot := 9, constantValue := 0 }, { name := "initialErrStream", type := (.object "java/io/PrintStream"), accessFlags := 74, slot := 10, constantValue := 0 }, { name := "props", type := (.object "java/util/Properties"), accessFlags := 10, slot := 11, constantValue := 0 }, { name := "lineSeparator", type := (.object "java/lang/String"), accessFlags := 10, slot := 12, constantValue := 0 }, { name := "bootLayer", type := (.object "java/lang/ModuleLayer"), accessFlags := 8, slot := 13, constantValue := 0 }]
  methods := #[k4m0, k4m1]
  instanceTypes := #[]
  staticTypes := #[(.object "java/io/InputStream"), (.object "java/io/PrintStream"), (.object "java/io/PrintStream"), (.object "java/io/InputStream"), .int, .int, .int, (.object "java/lang/SecurityManager"), (.object "java/lang/String"), (.object "java/io/Console"), (.object "java/io/PrintStream"), (.object "java/util/Properties"), (.object "java/lang/String"), (.object "java/lang/ModuleLayer")]
  resolved := Array.replicate 834 none
  statics := none }

def pool5 : Array CpInfo := pool [(1, u "java/lang/Cloneable"), (0, .class_ 1), (0, u "java/lang/Object"), (0, .class_ 3)] 3

/-- java/lang/Cloneable -/
def k5 : Class := { plain "java/lang/Cloneable" (some 0) with
  accessFlags := 1537
  interfaces := #[]
  cf := some (fileOf pool5 2 #[] #[] 1537 4 #[] #[])
  fields := #[]
  methods := #[]
  instanceTypes := #[]
  staticTypes := #[]
  resolved := Array.replicate 8 none
  statics := none }

def pool6 : Array CpInfo := pool [(1, u "java/io/Serializable"), (0, .class_ 1), (0, u "java/lang/Object"), (0, .class_ 3)] 3

/-- java/io/Serializable -/
def k6 : Class := { plain "java/io/Serializable" (some 0) with
  accessFlags := 1537
  interfaces := #[]
  cf := some (fileOf pool6 2 #[] #[] 1537 4 #[] #[])
  fields := #[]
  methods := #[]
  instanceTypes := #[]
  staticTypes := #[]
  resolved := Array.replicate 8 none
  statics := none }

/-- the primitive byte -/
def k7 : Class := { plain "byte" none with kind := .primitive 'B', accessFlags := 0x411 }
/-- [B -/
def k8 : Class := { plain "[B" (some 0) with kind := .array 7 .byte, interfaces := #[5, 6], accessFlags := 1041 }

/-- the primitive int -/
def k9 : Class := { plain "int" none with kind := .primitive 'I', accessFlags := 0x411 }
/-- [I -/
def k10 : Class := { plain "[I" (some 0) with kind := .array 9 .int, interfaces := #[5, 6], accessFlags := 1041 }

/-- [[I -/
def k11 : Class := { plain "[[I" (some 0) with kind := .array 10 (.array .int), interfaces := #[5, 6], accessFlags := 1041 }

def heap : Heap := #[]
def classes : Array Class := #[k0, k1, k2, k3, k4, k5, k6, k7, k8, k9, k10, k11]
def interned : List (Array UInt16 × Addr) := []
def slotsUsed : Nat := 0
def theMethod : MethodId := ⟨1, 1⟩
def args0 : Array Value := #[.int 5, .int 7, .int 8, .int 9, .int 10, .int 3]
def aboutOver (below : List Frame) : State where
  vm := { classes := classes, interned := interned.toArray }
  heap := heap
  slotsUsed := slotsUsed
  threads := #[{ frames := .invoking theMethod args0 :: below }]
def below0 : List Frame := [.native { method := ⟨0, 0⟩, args := #[] }]
def about1 : State := aboutOver below0
def p0 : Program := .bare "" "" ""
def e0 : Env := launch0.env 0 0 0
theorem w_frames : about1.frames = Frame.invoking theMethod args0 :: below0 := rfl
set_option maxRecDepth 65536 in
theorem w_args : argsFit about1.vm theMethod args0 = true := by decide +kernel
set_option maxRecDepth 65536 in
theorem w_heap : heapFits about1 = true := by decide +kernel
set_option maxRecDepth 65536 in
theorem w_runnable : about1.curStatus? = some .runnable := by decide +kernel
set_option maxRecDepth 65536 in
theorem w_alone : about1.alone = true := by decide +kernel
set_option maxRecDepth 65536 in
theorem w_named : about1.methodNamed? x = some theMethod := by decide +kernel
set_option maxRecDepth 65536 in
theorem w_hears : about1.hears theMethod below0 = true := by decide +kernel
set_option maxRecDepth 65536 in
theorem w_ripe : about1.ripe theMethod args0 below0 = true := by decide +kernel
theorem w_running : about1.status = .running := rfl
set_option maxRecDepth 65536 in
theorem w_room : about1.hasRoom e0.platform room_1 = true :=
  launch0.hasRoom_least _ room_1 (by decide +kernel) (by decide +kernel) (by decide +kernel) (by decide +kernel) (by decide +kernel) (by decide +kernel)
theorem allAtoms_all (ts : List Jvm.Cond) (a : Array Jvm.Value) (st : Jvm.State) : (allAtoms ts).before a st = ts.all (fun c => c.before a st) := by
  induction ts with
  | nil => rfl
  | cons c t ih =>
    show (Jvm.Cond.and c (allAtoms t)).before a st = _
    rw [Jvm.Cond.before_and, ih, List.all_cons]
def words1 : List Jvm.Cond := Jvm.Cond.code x code maxLocals ret :: tables_1
/-- a 'code' word, met by the world's own term for the bytes: nothing is compared byte by byte -/
theorem code_word {y : MethodName} {bytes : ByteArray} {mx : Nat} {rt : Option FieldType} {a : Array Value} {s : State} {m : MethodId} {meth : Method} {c : Code} (h1 : s.methodNamed? y = some m) (h2 : s.vm.method? m = some meth) (h3 : meth.code = some c) (h4 : c.code = bytes)
    (h5 : (c.maxLocals == mx && c.exceptionTable.isEmpty && decide (c.maxStack ≤ mostOperands) && decide (meth.sig.returnType = rt) && !meth.locks && decide (parseMethodDescriptor y.desc = some meth.sig)) = true) : (Jvm.Cond.code y bytes mx rt).before a s = true := by
  simp only [Bool.and_eq_true, beq_iff_eq, Bool.not_eq_true', decide_eq_true_eq] at h5
  obtain ⟨⟨⟨⟨⟨g1, g2⟩, g3⟩, g4⟩, g5⟩, g6⟩ := h5
  simp [Cond.before, Cond.holds, Cond.value, h1, h2, h3, h4, g1, g2, g3, g4, g5, g6]
def isCode : Jvm.Cond → Bool
  | .code _ _ _ _ => true
  | _ => false
theorem all_split {L : List Jvm.Cond} {P : Jvm.Cond → Bool} (h1 : L.all (fun c => isCode c || P c) = true) (h2 : ∀ c ∈ L.filter isCode, P c = true) : L.all P = true := by
  refine List.all_eq_true.mpr fun c hc => ?_
  have h := List.all_eq_true.mp h1 c hc
  rcases Bool.eq_false_or_eq_true (isCode c) with hi | hi
  · exact h2 c (List.mem_filter.mpr ⟨hc, hi⟩)
  · simpa [hi] using h
set_option maxRecDepth 65536 in
theorem w_c0 : (Jvm.Cond.code x code maxLocals ret).before args0 about1 = true := code_word (m := ⟨1, 1⟩) (meth := k1m1) (c := k1c1) (by decide +kernel) rfl rfl rfl (by decide +kernel)
set_option maxRecDepth 65536 in
theorem w_c1 : (Jvm.Cond.code ({ cls := "com/example/clearance/clearance/IntColumn", name := "<init>", desc := "()V" } : Jvm.MethodName) prog_22_method_1_code (1 : Nat) (Option.none : Option Jvm.ClassFile.FieldType)).before args0 about1 = true := code_word (m := ⟨2, 0⟩) (meth := k2m0) (c := k2c0) (by decide +kernel) rfl rfl rfl (by decide +kernel)
set_option maxRecDepth 65536 in
theorem w_c2 : (Jvm.Cond.code ({ cls := "java/lang/Object", name := "<init>", desc := "()V" } : Jvm.MethodName) object_method_1_code (1 : Nat) (Option.none : Option Jvm.ClassFile.FieldType)).before args0 about1 = true := code_word (m := ⟨0, 0⟩) (meth := k0m0) (c := k0c0) (by decide +kernel) rfl rfl rfl (by decide +kernel)
set_option maxRecDepth 65536 in
theorem w_c3 : (Jvm.Cond.code ({ cls := "com/example/clearance/clearance/IntColumn", name := "add", desc := "(I)I" } : Jvm.MethodName) prog_22_method_3_code (3 : Nat) (Option.some Jvm.ClassFile.FieldType.int)).before args0 about1 = true := code_word (m := ⟨2, 2⟩) (meth := k2m2) (c := k2c2) (by decide +kernel) rfl rfl rfl (by decide +kernel)
set_option maxRecDepth 65536 in
theorem w_c4 : (Jvm.Cond.code ({ cls := "com/example/clearance/clearance/IntColumn", name := "truncate", desc := "(I)V" } : Jvm.MethodName) prog_22_method_6_code (3 : Nat) (Option.none : Option Jvm.ClassFile.FieldType)).before args0 about1 = true := code_word (m := ⟨2, 3⟩) (meth := k2m3) (c := k2c3) (by decide +kernel) rfl rfl rfl (by decide +kernel)
set_option maxRecDepth 65536 in
theorem w_c5 : (Jvm.Cond.code ({ cls := "com/example/clearance/clearance/IntColumn", name := "size", desc := "()I" } : Jvm.MethodName) prog_22_method_2_code (1 : Nat) (Option.some Jvm.ClassFile.FieldType.int)).before args0 about1 = true := code_word (m := ⟨2, 1⟩) (meth := k2m1) (c := k2c1) (by decide +kernel) rfl rfl rfl (by decide +kernel)
set_option maxRecDepth 65536 in
theorem w_c6 : (Jvm.Cond.code ({ cls := "com/example/clearance/clearance/IntColumn", name := "toArray", desc := "()[I" } : Jvm.MethodName) prog_22_method_7_code (3 : Nat) (Option.some (Jvm.ClassFile.FieldType.array Jvm.ClassFile.FieldType.int))).before args0 about1 = true := code_word (m := ⟨2, 4⟩) (meth := k2m4) (c := k2c4) (by decide +kernel) rfl rfl rfl (by decide +kernel)
set_option maxRecDepth 65536 in
theorem w_c7 : (Jvm.Cond.code ({ cls := "java/lang/Math", name := "min", desc := "(II)I" } : Jvm.MethodName) jdk_29_method_69_code (2 : Nat) (Option.some Jvm.ClassFile.FieldType.int)).before args0 about1 = true := code_word (m := ⟨3, 1⟩) (meth := k3m1) (c := k3c1) (by decide +kernel) rfl rfl rfl (by decide +kernel)
set_option maxRecDepth 65536 in
theorem w_c8 : (Jvm.Cond.code ({ cls := "com/example/clearance/clearance/IntColumnTruncatePinLaw", name := "at", desc := "([III[II)Z" } : Jvm.MethodName) method_3_code (6 : Nat) (Option.some Jvm.ClassFile.FieldType.boolean)).before args0 about1 = true := code_word (m := ⟨1, 2⟩) (meth := k1m2) (c := k1c2) (by decide +kernel) rfl rfl rfl (by decide +kernel)
def codes1 : List Jvm.Cond := [Jvm.Cond.code x code maxLocals ret, Jvm.Cond.code ({ cls := "com/example/clearance/clearance/IntColumn", name := "<init>", desc := "()V" } : Jvm.MethodName) prog_22_method_1_code (1 : Nat) (Option.none : Option Jvm.ClassFile.FieldType), Jvm.Cond.code ({ cls := "java/lang/Object", name := "<init>", desc := "()V" } : Jvm.MethodName) object_method_1_code (1 : Nat) (Option.none : Option Jvm.ClassFile.FieldType), Jvm.Cond.code ({ cls := "com/example/clearance/clearance/IntColumn", name := "add", desc := "(I)I" } : Jvm.MethodName) prog_22_method_3_code (3 : Nat) (Option.some Jvm.ClassFile.FieldType.int), Jvm.Cond.code ({ cls := "com/example/clearance/clearance/IntColumn", name := "truncate", desc := "(I)V" } : Jvm.MethodName) prog_22_method_6_code (3 : Nat) (Option.none : Option Jvm.ClassFile.FieldType), Jvm.Cond.code ({ cls := "com/example/clearance/clearance/IntColumn", name := "size", desc := "()I" } : Jvm.MethodName) prog_22_method_2_code (1 : Nat) (Option.some Jvm.ClassFile.FieldType.int), Jvm.Cond.code ({ cls := "com/example/clearance/clearance/IntColumn", name := "toArray", desc := "()[I" } : Jvm.MethodName) prog_22_method_7_code (3 : Nat) (Option.some (Jvm.ClassFile.FieldType.array Jvm.ClassFile.FieldType.int)), Jvm.Cond.code ({ cls := "java/lang/Math", name := "min", desc := "(II)I" } : Jvm.MethodName) jdk_29_method_69_code (2 : Nat) (Option.some Jvm.ClassFile.FieldType.int), Jvm.Cond.code ({ cls := "com/example/clearance/clearance/IntColumnTruncatePinLaw", name := "at", desc := "([III[II)Z" } : Jvm.MethodName) method_3_code (6 : Nat) (Option.some Jvm.ClassFile.FieldType.boolean)]
set_option maxRecDepth 65536 in
theorem codes_eq : words1.filter isCode = codes1 := rfl
theorem w_codes : ∀ c ∈ words1.filter isCode, c.before args0 about1 = true := by
  rw [codes_eq]
  intro c hc
  simp only [codes1, List.mem_cons, List.not_mem_nil, or_false] at hc
  rcases hc with rfl | rfl | rfl | rfl | rfl | rfl | rfl | rfl | rfl
  · exact w_c0
  · exact w_c1
  · exact w_c2
  · exact w_c3
  · exact w_c4
  · exact w_c5
  · exact w_c6
  · exact w_c7
  · exact w_c8
set_option maxRecDepth 65536 in
theorem w_t1 : (words1.take 24).all (fun c => isCode c || c.before args0 about1) = true := by decide +kernel
set_option maxRecDepth 65536 in
theorem w_t2 : ((words1.drop 24).take 24).all (fun c => isCode c || c.before args0 about1) = true := by decide +kernel
set_option maxRecDepth 65536 in
theorem w_t3 : ((words1.drop 24).drop 24).all (fun c => isCode c || c.before args0 about1) = true := by decide +kernel
theorem w_tables : (allAtoms (Jvm.Cond.code x code maxLocals ret :: tables_1)).before args0 about1 = true := by
  rw [allAtoms_all]
  show words1.all (fun c => c.before args0 about1) = true
  refine all_split ?_ w_codes
  rw [← List.take_append_drop 24 words1, List.all_append, w_t1, ← List.take_append_drop 24 (words1.drop 24), List.all_append, w_t2, w_t3]
  rfl
set_option maxRecDepth 65536 in
theorem w_case : (Jvm.Cond.and given_1 narrow_1).before args0 about1 = true := by decide +kernel
theorem w_applies : (headSpec (Jvm.Cond.code x code maxLocals ret :: tables_1) room_1).applies x e0.platform about1 = true :=
  (Spec.applies_iff w_frames).mpr ⟨w_running, w_runnable, w_alone, w_named, w_hears, w_ripe, w_room, w_tables⟩
theorem atStart : AtStart classFile x code maxLocals ret World_1 tables_1 room_1 Calls_1 rest_1 Pre_1 launch0 p0 e0 about1 theMethod args0 below0 :=
  ⟨lists_1, trivial, launch0.admits_env _ _ _, launch0.least_env, fairChoices_fair.cas, fairChoices_fair.clock, w_frames, w_args, w_heap, w_applies, trivial, trivial, w_case⟩
end start1
theorem witness_1 : WitnessClaimed_1 := ⟨start1.p0, start1.e0, start1.about1, start1.theMethod, start1.args0, start1.below0, start1.atStart⟩
end Jvm.Pilot.@@N@@
