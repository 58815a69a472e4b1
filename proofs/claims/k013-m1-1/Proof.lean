import JvmDerived
import JvmDerived.Pilot.@@N@@Statement
import JvmDerived.Pilot.@@N@@Code
set_option linter.unusedVariables false
set_option linter.unusedSimpArgs false
namespace Jvm.Pilot.@@N@@
open Jvm Jvm.ClassFile Sem Op Lib Jvm.Free Jvm.Stand Jvm.LawKit Jvm.RoadKit Bundle Jvm.Pilot.@@N@@.Jvm.D
/-! The shared layer of these proofs (own text): a contract of one body (own_Ct), how a walk goes on and ends (own_Fin), one lemma a kind of call and of return. -/
section OwnLayer
variable {p : Program} {l : Launch} {e : Env} {R rm : Room} {s Z : State} {m : MethodId} {args as' a0 : Array Value} {below : List Frame} {meth : Method} {c : Code} {T : State} {locs : List Loc} {cells slots : Nat} {h : Heap}
  {Q : Option Value → Heap → List Loc → Prop} {y z : MethodName} {bytes : ByteArray} {maxL : Nat} {ret : Option FieldType} {own C : String} {index : Nat}
def own_Ct (l : Launch) (Z : State) (y : MethodName) (bytes : ByteArray) (maxL : Nat) (ret : Option FieldType) (rm : Room) (as' : Array Value) (h0 : Heap) (Q : Option Value → Heap → List Loc → Prop) : Prop :=
  ∀ ws : List Jvm.Cond, MetFree l y (head1 (Jvm.Cond.code y bytes maxL ret :: ws) rm) (fun a U => a = as' ∧ Z.Warmed39 U.vm ∧ U.heap = h0) (fun _ _ _ _ _ => True) (fun _ U o U' => ∃ v L, o = .returned v ∧ Q v U'.heap L ∧ FrameEnd U o U' L rm.cells rm.slots)
def own_Fin (p : Program) (e : Env) (s : State) (below : List Frame) (R : Room) (Q : Option Value → Heap → List Loc → Prop) (A : State) : Prop :=
  ∃ n o, Steps p.tables e below A n ∧ n.status = .running ∧ Ended n below o ∧ ∃ v L, o = .returned v ∧ Q v n.heap L ∧ FrameEnd s o n L R.cells R.slots
theorem own_to {A : State} (B : State) (st : ∀ t, Steps p.tables e below B t → Steps p.tables e below A t) (k : own_Fin p e s below R Q B) : own_Fin p e s below R Q A := by
  obtain ⟨n, o, h1, r⟩ := k
  exact ⟨n, o, st _ h1, r⟩
theorem own_body {h0 : Heap} (hp : plainFor y = true)
    (k : ∀ p e s m below meth c s₁, p.tables.exec = Jvm.exec → Z.Warmed39 s.vm → c.code = bytes → c.maxLocals = maxL → s.vm.findClass y.cls = some m.cls → meth.name = y.name → meth.sig.returnType = ret → meth.locks = false →
      Stand p l e rm s m as' below meth c s₁ [] 0 0 → s₁.heap = h0 → own_Fin p e s below rm Q (s₁.setTop (entryFrame m as' maxL))) : own_Ct l Z y bytes maxL ret rm as' h0 Q := by
  intro ws
  refine MetFree.of_bodySF hp hisR ?_
  intro p e s m args below meth c s₁ Bd hml0 hP hK
  obtain ⟨ha, hZ, hh⟩ := hP
  subst ha
  obtain ⟨n, o, h1, h2, h3, h4⟩ := k p e s m below meth c s₁ Bd.exec hZ Bd.bytes hml0 (findClass_of_methodNamed Bd.named) (name_of_methodNamed Bd.named Bd.method).1 Bd.returns Bd.notSynchronized (Stand.of_body Bd) (by rw [← hh, Bd.state]; rfl)
  exact ⟨n, o, h1, h2, h3, h4⟩
theorem own_retI (X : Stand p l e R s m args below meth c T locs cells slots) (hx : p.tables.exec = Jvm.exec) (hret : meth.sig.returnType = some .int) (hk : meth.locks = false) {pc : Nat} {Ls : Array Slot} {i : Int32} {rest : List Value}
    (hd : decode c.code pc = .ok (.ireturn, 1)) (hc : cells ≤ R.cells) (hs : slots ≤ R.slots) (hq : Q (some (.int i)) T.heap locs) : own_Fin p e s below R Q (T.setTop (mkF m pc Ls (.int i :: rest))) := by
  obtain ⟨fs, hr, hrun, hended, hW, hsame⟩ := X.leave (v := some (.int i)) (fun h => by rw [hret] at h; cases h) hk
  exact ⟨_, _, retOut X hx hret rfl (Or.inl ⟨rfl, Or.inl rfl, _, rfl⟩) hd hr, hrun, hended, _, _, rfl, hq, ⟨_, rfl⟩, hW, hsame.mono hc hs⟩
theorem own_retZ (X : Stand p l e R s m args below meth c T locs cells slots) (hx : p.tables.exec = Jvm.exec) (hret : meth.sig.returnType = some .boolean) (hk : meth.locks = false) {pc : Nat} {Ls : Array Slot} {i i' : Int32} {rest : List Value}
    (hd : decode c.code pc = .ok (.ireturn, 1)) (hc : cells ≤ R.cells) (hs : slots ≤ R.slots) (hi : nar .boolean i = i') (hq : Q (some (.int i')) T.heap locs) : own_Fin p e s below R Q (T.setTop (mkF m pc Ls (.int i :: rest))) := by
  subst hi
  obtain ⟨fs, hr, hrun, hended, hW, hsame⟩ := X.leave (v := some (.int (nar .boolean i))) (fun h => by rw [hret] at h; cases h) hk
  exact ⟨_, _, retN X hx (t := .boolean) hret (by simp) hd hr, hrun, hended, _, _, rfl, hq, ⟨_, rfl⟩, hW, hsame.mono hc hs⟩
theorem own_retJ (X : Stand p l e R s m args below meth c T locs cells slots) (hx : p.tables.exec = Jvm.exec) (hret : meth.sig.returnType = some .long) (hk : meth.locks = false) {pc : Nat} {Ls : Array Slot} {i : Int64} {rest : List Value}
    (hd : decode c.code pc = .ok (.lreturn, 1)) (hc : cells ≤ R.cells) (hs : slots ≤ R.slots) (hq : Q (some (.long i)) T.heap locs) : own_Fin p e s below R Q (T.setTop (mkF m pc Ls (.long i :: rest))) := by
  obtain ⟨fs, hr, hrun, hended, hW, hsame⟩ := X.leave (v := some (.long i)) (fun h => by rw [hret] at h; cases h) hk
  exact ⟨_, _, retOut X hx hret rfl (Or.inr (Or.inl ⟨rfl, rfl, _, rfl⟩)) hd hr, hrun, hended, _, _, rfl, hq, ⟨_, rfl⟩, hW, hsame.mono hc hs⟩
theorem own_retA (X : Stand p l e R s m args below meth c T locs cells slots) (hx : p.tables.exec = Jvm.exec) {t : FieldType} (hret : meth.sig.returnType = some t) (ht : t.isReference = true) (hk : meth.locks = false) {pc : Nat} {Ls : Array Slot} {v : Value} (hv : v.isRef = true) (hn : narrow t v = v) {rest : List Value}
    (hd : decode c.code pc = .ok (.areturn, 1)) (hc : cells ≤ R.cells) (hs : slots ≤ R.slots) (hq : Q (some v) T.heap locs) : own_Fin p e s below R Q (T.setTop (mkF m pc Ls (v :: rest))) := by
  obtain ⟨fs, hr, hrun, hended, hW, hsame⟩ := X.leave (v := some v) (fun h => by rw [hret] at h; cases h) hk
  exact ⟨_, _, retOut X hx hret hn (Or.inr (Or.inr (Or.inr (Or.inr ⟨rfl, ht, hv⟩)))) hd hr, hrun, hended, _, _, rfl, hq, ⟨_, rfl⟩, hW, hsame.mono hc hs⟩
theorem own_retV (X : Stand p l e R s m args below meth c T locs cells slots) (hx : p.tables.exec = Jvm.exec) (hret : meth.sig.returnType = none) (hk : meth.locks = false) {pc : Nat} {Ls : Array Slot}
    (hd : decode c.code pc = .ok (.return_, 1)) (hc : cells ≤ R.cells) (hs : slots ≤ R.slots) (hq : Q none T.heap locs) : own_Fin p e s below R Q (T.setTop (mkF m pc Ls [])) := by
  obtain ⟨fs, hr, hrun, hended, hW, hsame⟩ := X.leave (v := none) (fun _ => rfl) hk
  exact ⟨_, _, X.returnOut hx hret hd hr, hrun, hended, _, _, rfl, hq, ⟨_, rfl⟩, hW, hsame.mono hc hs⟩
theorem own_callV (X : Stand p l e R s m args below meth c T locs cells slots) (hx : p.tables.exec = Jvm.exec) (hZ : Z.Warmed39 s.vm) (hown : s.vm.findClass own = some m.cls) (w1 : (Cond.methodLink own index y).before a0 Z = true) (w2 : (Cond.declares y).before a0 Z = true)
    (w3 : (Cond.selects C y z).before a0 Z = true) (nf : NotFace s y) (w4 : (Cond.instanceMethod z).before a0 Z = true) (w5 : (Cond.code z bytes maxL ret).before a0 Z = true) (w6 : (Cond.initialized z.cls).before a0 Z = true) (hy : y.cls ≠ "java/lang/invoke/MethodHandle" ∧ y.cls ≠ "java/lang/invoke/VarHandle")
    (eT : T.heap = h) {b : Addr} (E : Exa Z h b C) {argsL rest : List Value} (ct : own_Ct l Z z bytes maxL ret rm (.ref b :: argsL).toArray h Q) (hf : rm.frames + 1 ≤ R.frames) {W : Nat} (hl : W + (maxL + 11) + rm.locals ≤ R.locals) (hc : cells + rm.cells ≤ R.cells) (hs : slots + rm.slots ≤ R.slots)
    {ps : List FieldType} {r : Option FieldType} (hpd : parseMethodDescriptor y.desc = some ⟨ps, r⟩) (hll : argsL.length = ps.length) {pc : Nat} {Ls : Array Slot} (hsz : Ls.size = c.maxLocals) (hW : (rest.map fun v => v.category).sum ≤ W) (hd : decode c.code pc = .ok (.invokevirtual index, 3)) :
    ∃ v T' L, Stand p l e R s m args below meth c T' (locs ++ L) (cells + rm.cells) (slots + rm.slots) ∧ Q v T'.heap L ∧ ∀ t, Steps p.tables e below (T'.setTop (mkF m (pc + 3) Ls (v.toList ++ rest))) t → Steps p.tables e below (T.setTop (mkF m pc Ls (argsL.reverse ++ .ref b :: rest))) t := by
  obtain ⟨cB, kB, q1, q2, q3⟩ := isOf hZ eT E
  obtain ⟨v, _, ⟨T', L', k', n'⟩, -, X', ⟨L, hQ, l1, y1, z1⟩, st⟩ := X.virtualBack hx (y := y) (z := z) hown (mvT hZ w1) (mvT hZ w2) nf (mvT hZ w3) (mvT hZ w4) hy (backOf (W := W) (ct []) hZ w5 w6 hf hl) q1 q3
    (g := mkF m pc Ls (argsL.reverse ++ .ref b :: rest)) rfl hsz (Steps.refl _) (argsL := argsL) (rest := rest) (lenOf hpd hll) rfl (by show 2 * 0 + _ ≤ _; rw [Nat.mul_zero, Nat.zero_add]; exact hW) hd (fun _ _ => ⟨rfl, eT, hc, hs⟩)
  dsimp only [Pt.U, Pt.locs, Pt.cells, Pt.slots] at X' l1 y1 z1 st hQ
  subst l1 y1 z1
  exact ⟨v, T', L, X', hQ, fun t k => st.trans k⟩
theorem own_callS (X : Stand p l e R s m args below meth c T locs cells slots) (hx : p.tables.exec = Jvm.exec) (hZ : Z.Warmed39 s.vm) (hown : s.vm.findClass own = some m.cls) (w1 : (Cond.methodLink own index y).before a0 Z = true) (w2 : (Cond.static y).before a0 Z = true)
    (w5 : (Cond.code y bytes maxL ret).before a0 Z = true) (w6 : (Cond.initialized y.cls).before a0 Z = true) (hy : y.cls ≠ "java/lang/invoke/MethodHandle" ∧ y.cls ≠ "java/lang/invoke/VarHandle")
    (eT : T.heap = h) {argsL rest : List Value} (ct : own_Ct l Z y bytes maxL ret rm argsL.toArray h Q) (hf : rm.frames + 1 ≤ R.frames) {W : Nat} (hl : W + (maxL + 11) + rm.locals ≤ R.locals) (hc : cells + rm.cells ≤ R.cells) (hs : slots + rm.slots ≤ R.slots)
    {ps : List FieldType} {r : Option FieldType} (hpd : parseMethodDescriptor y.desc = some ⟨ps, r⟩) (hll : argsL.length = ps.length) {pc : Nat} {Ls : Array Slot} (hsz : Ls.size = c.maxLocals) (hW : (rest.map fun v => v.category).sum ≤ W) (hd : decode c.code pc = .ok (.invokestatic index, 3)) :
    ∃ v T' L, Stand p l e R s m args below meth c T' (locs ++ L) (cells + rm.cells) (slots + rm.slots) ∧ Q v T'.heap L ∧ ∀ t, Steps p.tables e below (T'.setTop (mkF m (pc + 3) Ls (v.toList ++ rest))) t → Steps p.tables e below (T.setTop (mkF m pc Ls (argsL.reverse ++ rest))) t := by
  obtain ⟨v, _, ⟨T', L', k', n'⟩, -, X', ⟨L, hQ, l1, y1, z1⟩, st⟩ := Jvm.LawKit.callS X hx (y := y) hown (mvT hZ w1) (mvT hZ w2) (mvT hZ w6) (mvT hZ w5) hy (backOf (W := W) (ct []) hZ w5 w6 hf hl)
    (g := mkF m pc Ls (argsL.reverse ++ rest)) rfl hsz (argsL := argsL) (rest := rest) (lenOf hpd hll) rfl (by show 2 * 0 + _ ≤ _; rw [Nat.mul_zero, Nat.zero_add]; exact hW) hd (fun _ _ => ⟨rfl, eT, hc, hs⟩)
  dsimp only [Pt.U, Pt.locs, Pt.cells, Pt.slots] at X' l1 y1 z1 st hQ
  subst l1 y1 z1
  exact ⟨v, T', L, X', hQ, fun t k => st t k⟩
theorem own_callN (X : Stand p l e R s m args below meth c T locs cells slots) (hx : p.tables.exec = Jvm.exec) (hZ : Z.Warmed39 s.vm) (hown : s.vm.findClass own = some m.cls) (hn : y.name = "<init>") (w1 : (Cond.methodLink own index y).before a0 Z = true) (w2 : (Cond.instanceMethod y).before a0 Z = true)
    (w5 : (Cond.code y bytes maxL none).before a0 Z = true) (w6 : (Cond.initialized y.cls).before a0 Z = true) (hy : y.cls ≠ "java/lang/invoke/MethodHandle" ∧ y.cls ≠ "java/lang/invoke/VarHandle")
    (eT : T.heap = h) {b : Addr} {argsL rest : List Value} (ct : own_Ct l Z y bytes maxL none rm (.ref b :: argsL).toArray h Q) (hf : rm.frames + 1 ≤ R.frames) {W : Nat} (hl : W + (maxL + 11) + rm.locals ≤ R.locals) (hc : cells + rm.cells ≤ R.cells) (hs : slots + rm.slots ≤ R.slots)
    {ps : List FieldType} {r : Option FieldType} (hpd : parseMethodDescriptor y.desc = some ⟨ps, r⟩) (hll : argsL.length = ps.length) {pc : Nat} {Ls : Array Slot} (hsz : Ls.size = c.maxLocals) (hW : (rest.map fun v => v.category).sum ≤ W) (hd : decode c.code pc = .ok (.invokespecial index, 3)) :
    ∃ v T' L, Stand p l e R s m args below meth c T' (locs ++ L) (cells + rm.cells) (slots + rm.slots) ∧ Q v T'.heap L ∧ ∀ t, Steps p.tables e below (T'.setTop (mkF m (pc + 3) Ls (v.toList ++ rest))) t → Steps p.tables e below (T.setTop (mkF m pc Ls (argsL.reverse ++ .ref b :: rest))) t := by
  obtain ⟨v, _, ⟨T', L', k', n'⟩, -, X', ⟨L, hQ, l1, y1, z1⟩, st⟩ := X.specialBack hx (y := y) hn hown (mvT hZ w1) (mvT hZ w2) (mvT hZ w5) hy (backOf (W := W) (ct []) hZ w5 w6 hf hl)
    (g := mkF m pc Ls (argsL.reverse ++ .ref b :: rest)) rfl hsz (Steps.refl _) (a := b) (argsL := argsL) (rest := rest) (lenOf hpd hll) rfl (by show 2 * 0 + _ ≤ _; rw [Nat.mul_zero, Nat.zero_add]; exact hW) hd (fun _ _ => ⟨rfl, eT, hc, hs⟩)
  dsimp only [Pt.U, Pt.locs, Pt.cells, Pt.slots] at X' l1 y1 z1 st hQ
  subst l1 y1 z1
  exact ⟨v, T', L, X', hQ, fun t k => st.trans k⟩
theorem own_staK {h' : Heap} {ws : List Addr} {n d : String} {v : Value} (F : Sta Z h C n d v) (K : Keep h h' ws) (hws : ∀ x ∈ ws, ∀ cl : Cell, h[x]? = some cl → cl.vm.isStatics = false) : Sta Z h' C n d v := by
  obtain ⟨cf, i, k, f, st, cell, h1, h2, h3, h4, h5, h6, h7⟩ := F
  refine ⟨cf, i, k, f, st, cell, h1, h2, h3, h4, K.2.1 st cell h5 (fun q => ?_), h6, h7⟩
  rw [hws st q cell h5] at h6; cases h6
theorem own_exaS {a : Addr} (E : Exa Z h a C) : ∀ cl : Cell, h[a]? = some cl → cl.vm.isStatics = false := by
  obtain ⟨cell, k, h1, -, -, h4, -⟩ := E
  intro cl q
  cases h1.symm.trans q
  exact h4
theorem own_len {t : Term} {n : Int32} {cl : Cell} {a : Addr} (hl : (Term.length t).eval args Z none [] Z = some (.int n)) (et : t.eval args Z none [] Z = some (.ref a)) (ea : Z.arrayAt? a = some cl) : cl.slots.size < 2 ^ 31 ∧ cl.slots.size.toInt32 = n := by
  simp only [Term.eval, Option.bind_eq_bind, et, Option.bind_some, ea] at hl
  by_cases q : cl.slots.size < 2 ^ 31
  · simp [q] at hl; exact ⟨q, hl⟩
  · simp [q] at hl
theorem own_subE {i j : Term} {x w : Int32} {idx : List Nat} (hi : i.eval args Z none idx Z = some (.int x)) (hj : j.eval args Z none idx Z = some (.int w)) : (Term.sub i j).eval args Z none idx Z = some (.int (x - w)) := by simp [Term.eval, hi, hj]
end OwnLayer
theorem d1_0 : decode prog_120_method_47_code 0 = .ok (.iload_n 0, 1) := by decide +kernel
theorem d1_1 : decode prog_120_method_47_code 1 = .ok (.sipush 128, 3) := by decide +kernel
theorem d1_4 : decode prog_120_method_47_code 4 = .ok (.if_icmp .ge 19, 3) := by decide +kernel
theorem d1_7 : decode prog_120_method_47_code 7 = .ok (.getstatic 809, 3) := by decide +kernel
theorem d1_10 : decode prog_120_method_47_code 10 = .ok (.iload_n 0, 1) := by decide +kernel
theorem d1_11 : decode prog_120_method_47_code 11 = .ok (.baload, 1) := by decide +kernel
theorem d1_12 : decode prog_120_method_47_code 12 = .ok (.iconst 1, 1) := by decide +kernel
theorem d1_13 : decode prog_120_method_47_code 13 = .ok (.iand, 1) := by decide +kernel
theorem d1_14 : decode prog_120_method_47_code 14 = .ok (.ifCond .eq 7, 3) := by decide +kernel
theorem d1_17 : decode prog_120_method_47_code 17 = .ok (.iconst 1, 1) := by decide +kernel
theorem d1_18 : decode prog_120_method_47_code 18 = .ok (.goto 4, 3) := by decide +kernel
theorem d1_21 : decode prog_120_method_47_code 21 = .ok (.iconst 0, 1) := by decide +kernel
theorem d1_22 : decode prog_120_method_47_code 22 = .ok (.ireturn, 1) := by decide +kernel
theorem d1_23 : decode prog_120_method_47_code 23 = .ok (.iload_n 0, 1) := by decide +kernel
theorem d1_24 : decode prog_120_method_47_code 24 = .ok (.sipush 192, 3) := by decide +kernel
theorem d1_27 : decode prog_120_method_47_code 27 = .ok (.if_icmp .lt 10, 3) := by decide +kernel
theorem d1_30 : decode prog_120_method_47_code 30 = .ok (.iload_n 0, 1) := by decide +kernel
theorem d1_31 : decode prog_120_method_47_code 31 = .ok (.sipush 214, 3) := by decide +kernel
theorem d1_34 : decode prog_120_method_47_code 34 = .ok (.if_icmp .le 156, 3) := by decide +kernel
theorem d1_37 : decode prog_120_method_47_code 37 = .ok (.iload_n 0, 1) := by decide +kernel
theorem d1_38 : decode prog_120_method_47_code 38 = .ok (.sipush 216, 3) := by decide +kernel
theorem d1_41 : decode prog_120_method_47_code 41 = .ok (.if_icmp .lt 10, 3) := by decide +kernel
theorem d1_44 : decode prog_120_method_47_code 44 = .ok (.iload_n 0, 1) := by decide +kernel
theorem d1_45 : decode prog_120_method_47_code 45 = .ok (.sipush 246, 3) := by decide +kernel
theorem d1_48 : decode prog_120_method_47_code 48 = .ok (.if_icmp .le 142, 3) := by decide +kernel
theorem d1_51 : decode prog_120_method_47_code 51 = .ok (.iload_n 0, 1) := by decide +kernel
theorem d1_52 : decode prog_120_method_47_code 52 = .ok (.sipush 248, 3) := by decide +kernel
theorem d1_55 : decode prog_120_method_47_code 55 = .ok (.if_icmp .lt 10, 3) := by decide +kernel
theorem d1_58 : decode prog_120_method_47_code 58 = .ok (.iload_n 0, 1) := by decide +kernel
theorem d1_59 : decode prog_120_method_47_code 59 = .ok (.sipush 767, 3) := by decide +kernel
theorem d1_62 : decode prog_120_method_47_code 62 = .ok (.if_icmp .le 128, 3) := by decide +kernel
theorem d1_65 : decode prog_120_method_47_code 65 = .ok (.iload_n 0, 1) := by decide +kernel
theorem d1_66 : decode prog_120_method_47_code 66 = .ok (.sipush 880, 3) := by decide +kernel
theorem d1_69 : decode prog_120_method_47_code 69 = .ok (.if_icmp .lt 10, 3) := by decide +kernel
theorem d1_72 : decode prog_120_method_47_code 72 = .ok (.iload_n 0, 1) := by decide +kernel
theorem d1_73 : decode prog_120_method_47_code 73 = .ok (.sipush 893, 3) := by decide +kernel
theorem d1_76 : decode prog_120_method_47_code 76 = .ok (.if_icmp .le 114, 3) := by decide +kernel
theorem d1_79 : decode prog_120_method_47_code 79 = .ok (.iload_n 0, 1) := by decide +kernel
theorem d1_80 : decode prog_120_method_47_code 80 = .ok (.sipush 895, 3) := by decide +kernel
theorem d1_83 : decode prog_120_method_47_code 83 = .ok (.if_icmp .lt 10, 3) := by decide +kernel
theorem d1_86 : decode prog_120_method_47_code 86 = .ok (.iload_n 0, 1) := by decide +kernel
theorem d1_87 : decode prog_120_method_47_code 87 = .ok (.sipush 8191, 3) := by decide +kernel
theorem d1_90 : decode prog_120_method_47_code 90 = .ok (.if_icmp .le 100, 3) := by decide +kernel
theorem d1_93 : decode prog_120_method_47_code 93 = .ok (.iload_n 0, 1) := by decide +kernel
theorem d1_94 : decode prog_120_method_47_code 94 = .ok (.sipush 8204, 3) := by decide +kernel
theorem d1_97 : decode prog_120_method_47_code 97 = .ok (.if_icmp .lt 10, 3) := by decide +kernel
theorem d1_100 : decode prog_120_method_47_code 100 = .ok (.iload_n 0, 1) := by decide +kernel
theorem d1_101 : decode prog_120_method_47_code 101 = .ok (.sipush 8205, 3) := by decide +kernel
theorem d1_104 : decode prog_120_method_47_code 104 = .ok (.if_icmp .le 86, 3) := by decide +kernel
theorem d1_107 : decode prog_120_method_47_code 107 = .ok (.iload_n 0, 1) := by decide +kernel
theorem d1_108 : decode prog_120_method_47_code 108 = .ok (.sipush 8304, 3) := by decide +kernel
theorem d1_111 : decode prog_120_method_47_code 111 = .ok (.if_icmp .lt 10, 3) := by decide +kernel
theorem d1_114 : decode prog_120_method_47_code 114 = .ok (.iload_n 0, 1) := by decide +kernel
theorem d1_115 : decode prog_120_method_47_code 115 = .ok (.sipush 8591, 3) := by decide +kernel
theorem d1_118 : decode prog_120_method_47_code 118 = .ok (.if_icmp .le 72, 3) := by decide +kernel
theorem d1_121 : decode prog_120_method_47_code 121 = .ok (.iload_n 0, 1) := by decide +kernel
theorem d1_122 : decode prog_120_method_47_code 122 = .ok (.sipush 11264, 3) := by decide +kernel
theorem d1_125 : decode prog_120_method_47_code 125 = .ok (.if_icmp .lt 10, 3) := by decide +kernel
theorem d1_128 : decode prog_120_method_47_code 128 = .ok (.iload_n 0, 1) := by decide +kernel
theorem d1_129 : decode prog_120_method_47_code 129 = .ok (.sipush 12271, 3) := by decide +kernel
theorem d1_132 : decode prog_120_method_47_code 132 = .ok (.if_icmp .le 58, 3) := by decide +kernel
theorem d1_135 : decode prog_120_method_47_code 135 = .ok (.iload_n 0, 1) := by decide +kernel
theorem d1_136 : decode prog_120_method_47_code 136 = .ok (.sipush 12289, 3) := by decide +kernel
theorem d1_139 : decode prog_120_method_47_code 139 = .ok (.if_icmp .lt 10, 3) := by decide +kernel
theorem d1_142 : decode prog_120_method_47_code 142 = .ok (.iload_n 0, 1) := by decide +kernel
theorem d1_143 : decode prog_120_method_47_code 143 = .ok (.ldc_w 806, 3) := by decide +kernel
theorem d1_146 : decode prog_120_method_47_code 146 = .ok (.if_icmp .le 44, 3) := by decide +kernel
theorem d1_149 : decode prog_120_method_47_code 149 = .ok (.iload_n 0, 1) := by decide +kernel
theorem d1_150 : decode prog_120_method_47_code 150 = .ok (.ldc_w 838, 3) := by decide +kernel
theorem d1_153 : decode prog_120_method_47_code 153 = .ok (.if_icmp .lt 10, 3) := by decide +kernel
theorem d1_156 : decode prog_120_method_47_code 156 = .ok (.iload_n 0, 1) := by decide +kernel
theorem d1_157 : decode prog_120_method_47_code 157 = .ok (.ldc_w 839, 3) := by decide +kernel
theorem d1_160 : decode prog_120_method_47_code 160 = .ok (.if_icmp .le 30, 3) := by decide +kernel
theorem d1_163 : decode prog_120_method_47_code 163 = .ok (.iload_n 0, 1) := by decide +kernel
theorem d1_164 : decode prog_120_method_47_code 164 = .ok (.ldc_w 840, 3) := by decide +kernel
theorem d1_167 : decode prog_120_method_47_code 167 = .ok (.if_icmp .lt 10, 3) := by decide +kernel
theorem d1_170 : decode prog_120_method_47_code 170 = .ok (.iload_n 0, 1) := by decide +kernel
theorem d1_171 : decode prog_120_method_47_code 171 = .ok (.ldc_w 808, 3) := by decide +kernel
theorem d1_174 : decode prog_120_method_47_code 174 = .ok (.if_icmp .le 16, 3) := by decide +kernel
theorem d1_177 : decode prog_120_method_47_code 177 = .ok (.iload_n 0, 1) := by decide +kernel
theorem d1_178 : decode prog_120_method_47_code 178 = .ok (.ldc 16, 2) := by decide +kernel
theorem d1_180 : decode prog_120_method_47_code 180 = .ok (.if_icmp .lt 14, 3) := by decide +kernel
theorem d1_183 : decode prog_120_method_47_code 183 = .ok (.iload_n 0, 1) := by decide +kernel
theorem d1_184 : decode prog_120_method_47_code 184 = .ok (.ldc_w 841, 3) := by decide +kernel
theorem d1_187 : decode prog_120_method_47_code 187 = .ok (.if_icmp .gt 7, 3) := by decide +kernel
theorem d1_190 : decode prog_120_method_47_code 190 = .ok (.iconst 1, 1) := by decide +kernel
theorem d1_191 : decode prog_120_method_47_code 191 = .ok (.goto 4, 3) := by decide +kernel
theorem d1_194 : decode prog_120_method_47_code 194 = .ok (.iconst 0, 1) := by decide +kernel
theorem d1_195 : decode prog_120_method_47_code 195 = .ok (.ireturn, 1) := by decide +kernel
theorem pn_1 : plainFor (⟨"com/example/cabezal/cabezal/xml/XmlParser", "isNameStart", "(I)Z"⟩ : MethodName) = true := by first | exact plainFor_of_name (by first | (simp [plainName, overriddenIn]; done) | decide +kernel) | decide +kernel
theorem pd_1 : parseMethodDescriptor "(I)Z" = some ⟨[.int], some .boolean⟩ := by decide +kernel
theorem d2_0 : decode method_3_code 0 = .ok (.iload_n 0, 1) := by decide +kernel
theorem d2_1 : decode method_3_code 1 = .ok (.sipush 128, 3) := by decide +kernel
theorem d2_4 : decode method_3_code 4 = .ok (.if_icmp .ge 45, 3) := by decide +kernel
theorem d2_7 : decode method_3_code 7 = .ok (.iload_n 0, 1) := by decide +kernel
theorem d2_8 : decode method_3_code 8 = .ok (.bipush 58, 2) := by decide +kernel
theorem d2_10 : decode method_3_code 10 = .ok (.if_icmp .eq 33, 3) := by decide +kernel
theorem d2_13 : decode method_3_code 13 = .ok (.iload_n 0, 1) := by decide +kernel
theorem d2_14 : decode method_3_code 14 = .ok (.bipush 95, 2) := by decide +kernel
theorem d2_16 : decode method_3_code 16 = .ok (.if_icmp .eq 27, 3) := by decide +kernel
theorem d2_19 : decode method_3_code 19 = .ok (.iload_n 0, 1) := by decide +kernel
theorem d2_20 : decode method_3_code 20 = .ok (.bipush 65, 2) := by decide +kernel
theorem d2_22 : decode method_3_code 22 = .ok (.if_icmp .lt 9, 3) := by decide +kernel
theorem d2_25 : decode method_3_code 25 = .ok (.iload_n 0, 1) := by decide +kernel
theorem d2_26 : decode method_3_code 26 = .ok (.bipush 90, 2) := by decide +kernel
theorem d2_28 : decode method_3_code 28 = .ok (.if_icmp .le 15, 3) := by decide +kernel
theorem d2_31 : decode method_3_code 31 = .ok (.iload_n 0, 1) := by decide +kernel
theorem d2_32 : decode method_3_code 32 = .ok (.bipush 97, 2) := by decide +kernel
theorem d2_34 : decode method_3_code 34 = .ok (.if_icmp .lt 13, 3) := by decide +kernel
theorem d2_37 : decode method_3_code 37 = .ok (.iload_n 0, 1) := by decide +kernel
theorem d2_38 : decode method_3_code 38 = .ok (.bipush 122, 2) := by decide +kernel
theorem d2_40 : decode method_3_code 40 = .ok (.if_icmp .gt 7, 3) := by decide +kernel
theorem d2_43 : decode method_3_code 43 = .ok (.iconst 1, 1) := by decide +kernel
theorem d2_44 : decode method_3_code 44 = .ok (.goto 4, 3) := by decide +kernel
theorem d2_47 : decode method_3_code 47 = .ok (.iconst 0, 1) := by decide +kernel
theorem d2_48 : decode method_3_code 48 = .ok (.ireturn, 1) := by decide +kernel
theorem d2_49 : decode method_3_code 49 = .ok (.iload_n 0, 1) := by decide +kernel
theorem d2_50 : decode method_3_code 50 = .ok (.sipush 191, 3) := by decide +kernel
theorem d2_53 : decode method_3_code 53 = .ok (.if_icmp .le 136, 3) := by decide +kernel
theorem d2_56 : decode method_3_code 56 = .ok (.iload_n 0, 1) := by decide +kernel
theorem d2_57 : decode method_3_code 57 = .ok (.sipush 215, 3) := by decide +kernel
theorem d2_60 : decode method_3_code 60 = .ok (.if_icmp .eq 129, 3) := by decide +kernel
theorem d2_63 : decode method_3_code 63 = .ok (.iload_n 0, 1) := by decide +kernel
theorem d2_64 : decode method_3_code 64 = .ok (.sipush 247, 3) := by decide +kernel
theorem d2_67 : decode method_3_code 67 = .ok (.if_icmp .eq 122, 3) := by decide +kernel
theorem d2_70 : decode method_3_code 70 = .ok (.iload_n 0, 1) := by decide +kernel
theorem d2_71 : decode method_3_code 71 = .ok (.sipush 768, 3) := by decide +kernel
theorem d2_74 : decode method_3_code 74 = .ok (.if_icmp .lt 10, 3) := by decide +kernel
theorem d2_77 : decode method_3_code 77 = .ok (.iload_n 0, 1) := by decide +kernel
theorem d2_78 : decode method_3_code 78 = .ok (.sipush 879, 3) := by decide +kernel
theorem d2_81 : decode method_3_code 81 = .ok (.if_icmp .le 108, 3) := by decide +kernel
theorem d2_84 : decode method_3_code 84 = .ok (.iload_n 0, 1) := by decide +kernel
theorem d2_85 : decode method_3_code 85 = .ok (.sipush 894, 3) := by decide +kernel
theorem d2_88 : decode method_3_code 88 = .ok (.if_icmp .eq 101, 3) := by decide +kernel
theorem d2_91 : decode method_3_code 91 = .ok (.iload_n 0, 1) := by decide +kernel
theorem d2_92 : decode method_3_code 92 = .ok (.sipush 8192, 3) := by decide +kernel
theorem d2_95 : decode method_3_code 95 = .ok (.if_icmp .lt 10, 3) := by decide +kernel
theorem d2_98 : decode method_3_code 98 = .ok (.iload_n 0, 1) := by decide +kernel
theorem d2_99 : decode method_3_code 99 = .ok (.sipush 8203, 3) := by decide +kernel
theorem d2_102 : decode method_3_code 102 = .ok (.if_icmp .le 87, 3) := by decide +kernel
theorem d2_105 : decode method_3_code 105 = .ok (.iload_n 0, 1) := by decide +kernel
theorem d2_106 : decode method_3_code 106 = .ok (.sipush 8206, 3) := by decide +kernel
theorem d2_109 : decode method_3_code 109 = .ok (.if_icmp .lt 10, 3) := by decide +kernel
theorem d2_112 : decode method_3_code 112 = .ok (.iload_n 0, 1) := by decide +kernel
theorem d2_113 : decode method_3_code 113 = .ok (.sipush 8303, 3) := by decide +kernel
theorem d2_116 : decode method_3_code 116 = .ok (.if_icmp .le 73, 3) := by decide +kernel
theorem d2_119 : decode method_3_code 119 = .ok (.iload_n 0, 1) := by decide +kernel
theorem d2_120 : decode method_3_code 120 = .ok (.sipush 8592, 3) := by decide +kernel
theorem d2_123 : decode method_3_code 123 = .ok (.if_icmp .lt 10, 3) := by decide +kernel
theorem d2_126 : decode method_3_code 126 = .ok (.iload_n 0, 1) := by decide +kernel
theorem d2_127 : decode method_3_code 127 = .ok (.sipush 11263, 3) := by decide +kernel
theorem d2_130 : decode method_3_code 130 = .ok (.if_icmp .le 59, 3) := by decide +kernel
theorem d2_133 : decode method_3_code 133 = .ok (.iload_n 0, 1) := by decide +kernel
theorem d2_134 : decode method_3_code 134 = .ok (.sipush 12272, 3) := by decide +kernel
theorem d2_137 : decode method_3_code 137 = .ok (.if_icmp .lt 10, 3) := by decide +kernel
theorem d2_140 : decode method_3_code 140 = .ok (.iload_n 0, 1) := by decide +kernel
theorem d2_141 : decode method_3_code 141 = .ok (.sipush 12288, 3) := by decide +kernel
theorem d2_144 : decode method_3_code 144 = .ok (.if_icmp .le 45, 3) := by decide +kernel
theorem d2_147 : decode method_3_code 147 = .ok (.iload_n 0, 1) := by decide +kernel
theorem d2_148 : decode method_3_code 148 = .ok (.ldc 21, 2) := by decide +kernel
theorem d2_150 : decode method_3_code 150 = .ok (.if_icmp .lt 9, 3) := by decide +kernel
theorem d2_153 : decode method_3_code 153 = .ok (.iload_n 0, 1) := by decide +kernel
theorem d2_154 : decode method_3_code 154 = .ok (.ldc 22, 2) := by decide +kernel
theorem d2_156 : decode method_3_code 156 = .ok (.if_icmp .le 33, 3) := by decide +kernel
theorem d2_159 : decode method_3_code 159 = .ok (.iload_n 0, 1) := by decide +kernel
theorem d2_160 : decode method_3_code 160 = .ok (.ldc 23, 2) := by decide +kernel
theorem d2_162 : decode method_3_code 162 = .ok (.if_icmp .lt 9, 3) := by decide +kernel
theorem d2_165 : decode method_3_code 165 = .ok (.iload_n 0, 1) := by decide +kernel
theorem d2_166 : decode method_3_code 166 = .ok (.ldc 24, 2) := by decide +kernel
theorem d2_168 : decode method_3_code 168 = .ok (.if_icmp .le 21, 3) := by decide +kernel
theorem d2_171 : decode method_3_code 171 = .ok (.iload_n 0, 1) := by decide +kernel
theorem d2_172 : decode method_3_code 172 = .ok (.ldc 25, 2) := by decide +kernel
theorem d2_174 : decode method_3_code 174 = .ok (.if_icmp .eq 15, 3) := by decide +kernel
theorem d2_177 : decode method_3_code 177 = .ok (.iload_n 0, 1) := by decide +kernel
theorem d2_178 : decode method_3_code 178 = .ok (.ldc 7, 2) := by decide +kernel
theorem d2_180 : decode method_3_code 180 = .ok (.if_icmp .eq 9, 3) := by decide +kernel
theorem d2_183 : decode method_3_code 183 = .ok (.iload_n 0, 1) := by decide +kernel
theorem d2_184 : decode method_3_code 184 = .ok (.ldc 26, 2) := by decide +kernel
theorem d2_186 : decode method_3_code 186 = .ok (.if_icmp .lt 7, 3) := by decide +kernel
theorem d2_189 : decode method_3_code 189 = .ok (.iconst 1, 1) := by decide +kernel
theorem d2_190 : decode method_3_code 190 = .ok (.goto 4, 3) := by decide +kernel
theorem d2_193 : decode method_3_code 193 = .ok (.iconst 0, 1) := by decide +kernel
theorem d2_194 : decode method_3_code 194 = .ok (.istore_n 1, 1) := by decide +kernel
theorem d2_195 : decode method_3_code 195 = .ok (.iload_n 1, 1) := by decide +kernel
theorem d2_196 : decode method_3_code 196 = .ok (.ifCond .ne 7, 3) := by decide +kernel
theorem d2_199 : decode method_3_code 199 = .ok (.iconst 1, 1) := by decide +kernel
theorem d2_200 : decode method_3_code 200 = .ok (.goto 4, 3) := by decide +kernel
theorem d2_203 : decode method_3_code 203 = .ok (.iconst 0, 1) := by decide +kernel
theorem d2_204 : decode method_3_code 204 = .ok (.ireturn, 1) := by decide +kernel
theorem pn_2 : plainFor (⟨"com/example/cabezal/cabezal/xml/XmlParserIsNameStartPinLaw", "expected", "(I)Z"⟩ : MethodName) = true := by first | exact plainFor_of_name (by first | (simp [plainName, overriddenIn]; done) | decide +kernel) | decide +kernel
theorem pd_2 : parseMethodDescriptor "(I)Z" = some ⟨[.int], some .boolean⟩ := by decide +kernel
theorem pn_0 : plainFor (⟨"com/example/cabezal/cabezal/xml/XmlParserIsNameStartPinLaw", "law", "(II)Z"⟩ : MethodName) = true := by first | exact plainFor_of_name (by first | (simp [plainName, overriddenIn]; done) | decide +kernel) | decide +kernel
theorem pd_0 : parseMethodDescriptor "(II)Z" = some ⟨[.int, .int], some .boolean⟩ := by decide +kernel
def own_nk (j : Int32) : Int32 := if j < 45 then 0 else if j < 47 then 2 else if j < 48 then 0 else if j < 58 then 2 else if j < 59 then 3 else if j < 65 then 0 else if j < 91 then 3 else if j < 95 then 0 else if j < 96 then 3 else if j < 97 then 0 else if j < 123 then 3 else 0
def own_2_193 (c : Int32) : Int32 := (1 : Int32)
def own_2_189 (c : Int32) : Int32 := (0 : Int32)
def own_2_183 (c : Int32) : Int32 := if c < (983040 : Int32) then own_2_193 c else own_2_189 c
def own_2_177 (c : Int32) : Int32 := if c = (65535 : Int32) then own_2_189 c else own_2_183 c
def own_2_171 (c : Int32) : Int32 := if c = (65534 : Int32) then own_2_189 c else own_2_177 c
def own_2_165 (c : Int32) : Int32 := if (65007 : Int32) < c then own_2_171 c else own_2_189 c
def own_2_159 (c : Int32) : Int32 := if c < (64976 : Int32) then own_2_171 c else own_2_165 c
def own_2_153 (c : Int32) : Int32 := if (63743 : Int32) < c then own_2_159 c else own_2_189 c
def own_2_147 (c : Int32) : Int32 := if c < (55296 : Int32) then own_2_159 c else own_2_153 c
def own_2_140 (c : Int32) : Int32 := if (12288 : Int32) < c then own_2_147 c else own_2_189 c
def own_2_133 (c : Int32) : Int32 := if c < (12272 : Int32) then own_2_147 c else own_2_140 c
def own_2_126 (c : Int32) : Int32 := if (11263 : Int32) < c then own_2_133 c else own_2_189 c
def own_2_119 (c : Int32) : Int32 := if c < (8592 : Int32) then own_2_133 c else own_2_126 c
def own_2_112 (c : Int32) : Int32 := if (8303 : Int32) < c then own_2_119 c else own_2_189 c
def own_2_105 (c : Int32) : Int32 := if c < (8206 : Int32) then own_2_119 c else own_2_112 c
def own_2_98 (c : Int32) : Int32 := if (8203 : Int32) < c then own_2_105 c else own_2_189 c
def own_2_91 (c : Int32) : Int32 := if c < (8192 : Int32) then own_2_105 c else own_2_98 c
def own_2_84 (c : Int32) : Int32 := if c = (894 : Int32) then own_2_189 c else own_2_91 c
def own_2_77 (c : Int32) : Int32 := if (879 : Int32) < c then own_2_84 c else own_2_189 c
def own_2_70 (c : Int32) : Int32 := if c < (768 : Int32) then own_2_84 c else own_2_77 c
def own_2_63 (c : Int32) : Int32 := if c = (247 : Int32) then own_2_189 c else own_2_70 c
def own_2_56 (c : Int32) : Int32 := if c = (215 : Int32) then own_2_189 c else own_2_63 c
def own_2_49 (c : Int32) : Int32 := if (191 : Int32) < c then own_2_56 c else own_2_189 c
def own_2_47 (c : Int32) : Int32 := (0 : Int32)
def own_2_43 (c : Int32) : Int32 := (1 : Int32)
def own_2_37 (c : Int32) : Int32 := if (122 : Int32) < c then own_2_47 c else own_2_43 c
def own_2_31 (c : Int32) : Int32 := if c < (97 : Int32) then own_2_47 c else own_2_37 c
def own_2_25 (c : Int32) : Int32 := if (90 : Int32) < c then own_2_31 c else own_2_43 c
def own_2_19 (c : Int32) : Int32 := if c < (65 : Int32) then own_2_31 c else own_2_25 c
def own_2_13 (c : Int32) : Int32 := if c = (95 : Int32) then own_2_43 c else own_2_19 c
def own_2_7 (c : Int32) : Int32 := if c = (58 : Int32) then own_2_43 c else own_2_13 c
def own_2_0 (c : Int32) : Int32 := if c < (128 : Int32) then own_2_7 c else own_2_49 c
theorem ef_2 (m : MethodId) (x0 : Int32) : entryFrame m #[(.int x0)] 2 = mkF m 0 #[.val (.int x0), .unset] [] := by first | (simp [entryFrame, mkF, argsToLocals, Value.category]; done) | rfl
def Q2 (Z : State) (c : Int32) (h0 : Heap) (n0 : Nat) (v : Option Value) (h : Heap) (L : List Loc) : Prop := v = some (.int (own_2_0 c)) ∧ Fr n0 L ∧ h = h0
set_option maxRecDepth 65536 in
set_option maxHeartbeats 40000000 in
theorem rm2 (l : Launch) (Z : State) (a0 : Array Value) (hw : ∀ d ∈ tables_1, d.before a0 Z = true) (c : Int32) (h0 : Heap) (n0 : Nat) (Z0 : n0 ≤ h0.size)  :
    own_Ct l Z (⟨"com/example/cabezal/cabezal/xml/XmlParserIsNameStartPinLaw", "expected", "(I)Z"⟩ : MethodName) method_3_code 2 (some .boolean) ({ frames := 0, cells := 0, slots := 0, locals := 0 } : Room) #[(.int c)] h0 (Q2 Z c h0 n0) := by
  refine own_body pn_2 ?_
  intro p e s m below meth cd s₁ hx hZ hby hml hown hnm hret hk X0 e0
  have N0 := Fr.nil n0
  have b193 : own_2_0 c = own_2_193 c → own_Fin p e s below ({ frames := 0, cells := 0, slots := 0, locals := 0 } : Room) (Q2 Z c h0 n0) (s₁.setTop (mkF m 193 #[.val (.int c), .unset] [])) := by
    intro hr
    refine own_to (s₁.setTop (mkF m 194 #[.val (.int c), .unset] [(.int (0 : Int32))])) (fun t k => XT.iconstV X0.here hx rfl (0 : Int32) (hb hby d2_193) (by decide) k) ?_
    refine own_to (s₁.setTop (mkF m 195 #[.val (.int c), .val (.int (0 : Int32))] [])) (fun t k => XS.istoreN X0.here hx rfl (hb hby d2_194) rfl (l' := #[.val (.int c), .val (.int (0 : Int32))]) rfl k) ?_
    refine own_to (s₁.setTop (mkF m 196 #[.val (.int c), .val (.int (0 : Int32))] [(.int (0 : Int32))])) (fun t k => XS.iloadN X0.here hx rfl (hb hby d2_195) rfl k) ?_
    refine own_to (s₁.setTop (mkF m 199 #[.val (.int c), .val (.int (0 : Int32))] [])) (fun t k => XS.ifNo X0.here hx rfl (hb hby d2_196) rfl ((if0 _ _).trans (teq (by decide)).2) k) ?_
    refine own_to (s₁.setTop (mkF m 200 #[.val (.int c), .val (.int (0 : Int32))] [(.int (1 : Int32))])) (fun t k => XT.iconstV X0.here hx rfl (1 : Int32) (hb hby d2_199) (by decide) k) ?_
    refine own_to (s₁.setTop (mkF m 204 #[.val (.int c), .val (.int (0 : Int32))] [(.int (1 : Int32))])) (fun t k => XS.goto X0.here hx rfl (pc0 := 200) (pc' := 204) rfl (hb hby d2_200) (by decide) (by decide) k) ?_
    exact own_retZ X0 hx hret hk (i' := (1 : Int32)) (hb hby d2_204) (by decide) (by decide) (by decide) ⟨by rw [hr, own_2_193], N0, e0⟩
  have b189 : own_2_0 c = own_2_189 c → own_Fin p e s below ({ frames := 0, cells := 0, slots := 0, locals := 0 } : Room) (Q2 Z c h0 n0) (s₁.setTop (mkF m 189 #[.val (.int c), .unset] [])) := by
    intro hr
    refine own_to (s₁.setTop (mkF m 190 #[.val (.int c), .unset] [(.int (1 : Int32))])) (fun t k => XT.iconstV X0.here hx rfl (1 : Int32) (hb hby d2_189) (by decide) k) ?_
    refine own_to (s₁.setTop (mkF m 194 #[.val (.int c), .unset] [(.int (1 : Int32))])) (fun t k => XS.goto X0.here hx rfl (pc0 := 190) (pc' := 194) rfl (hb hby d2_190) (by decide) (by decide) k) ?_
    refine own_to (s₁.setTop (mkF m 195 #[.val (.int c), .val (.int (1 : Int32))] [])) (fun t k => XS.istoreN X0.here hx rfl (hb hby d2_194) rfl (l' := #[.val (.int c), .val (.int (1 : Int32))]) rfl k) ?_
    refine own_to (s₁.setTop (mkF m 196 #[.val (.int c), .val (.int (1 : Int32))] [(.int (1 : Int32))])) (fun t k => XS.iloadN X0.here hx rfl (hb hby d2_195) rfl k) ?_
    refine own_to (s₁.setTop (mkF m 203 #[.val (.int c), .val (.int (1 : Int32))] [])) (fun t k => XS.ifYes X0.here hx rfl (pc0 := 196) (pc' := 203) rfl (hb hby d2_196) rfl ((if0 _ _).trans (feq (by decide)).2) (by decide) (by decide) k) ?_
    refine own_to (s₁.setTop (mkF m 204 #[.val (.int c), .val (.int (1 : Int32))] [(.int (0 : Int32))])) (fun t k => XT.iconstV X0.here hx rfl (0 : Int32) (hb hby d2_203) (by decide) k) ?_
    exact own_retZ X0 hx hret hk (i' := (0 : Int32)) (hb hby d2_204) (by decide) (by decide) (by decide) ⟨by rw [hr, own_2_189], N0, e0⟩
  have b183 : own_2_0 c = own_2_183 c → own_Fin p e s below ({ frames := 0, cells := 0, slots := 0, locals := 0 } : Room) (Q2 Z c h0 n0) (s₁.setTop (mkF m 183 #[.val (.int c), .unset] [])) := by
    intro hr
    refine own_to (s₁.setTop (mkF m 184 #[.val (.int c), .unset] [(.int c)])) (fun t k => XS.iloadN X0.here hx rfl (hb hby d2_183) rfl k) ?_
    refine own_to (s₁.setTop (mkF m 186 #[.val (.int c), .unset] [(.int (983040 : Int32)), (.int c)])) (fun t k => X0.ldcI hx hown (mvT hZ (hw _ (List.mem_of_getElem? (i := 22) rfl))) rfl (hb hby d2_184) k) ?_
    by_cases c11 : c < (983040 : Int32)
    · -- True
      refine own_to (s₁.setTop (mkF m 193 #[.val (.int c), .unset] [])) (fun t k => XS.icmpYes X0.here hx rfl (pc0 := 186) (pc' := 193) rfl (hb hby d2_186) rfl (tlt c11).1 (by decide) (by decide) k) ?_
      exact b193 (by rw [hr, own_2_183, if_pos c11])
    · -- False
      refine own_to (s₁.setTop (mkF m 189 #[.val (.int c), .unset] [])) (fun t k => XS.icmpNo X0.here hx rfl (hb hby d2_186) rfl (flt c11).1 k) ?_
      exact b189 (by rw [hr, own_2_183, if_neg c11])
  have b177 : own_2_0 c = own_2_177 c → own_Fin p e s below ({ frames := 0, cells := 0, slots := 0, locals := 0 } : Room) (Q2 Z c h0 n0) (s₁.setTop (mkF m 177 #[.val (.int c), .unset] [])) := by
    intro hr
    refine own_to (s₁.setTop (mkF m 178 #[.val (.int c), .unset] [(.int c)])) (fun t k => XS.iloadN X0.here hx rfl (hb hby d2_177) rfl k) ?_
    refine own_to (s₁.setTop (mkF m 180 #[.val (.int c), .unset] [(.int (65535 : Int32)), (.int c)])) (fun t k => X0.ldcI hx hown (mvT hZ (hw _ (List.mem_of_getElem? (i := 11) rfl))) rfl (hb hby d2_178) k) ?_
    by_cases c12 : c = (65535 : Int32)
    · -- True
      refine own_to (s₁.setTop (mkF m 189 #[.val (.int c), .unset] [])) (fun t k => XS.icmpYes X0.here hx rfl (pc0 := 180) (pc' := 189) rfl (hb hby d2_180) rfl (teq c12).1 (by decide) (by decide) k) ?_
      exact b189 (by rw [hr, own_2_177, if_pos c12])
    · -- False
      refine own_to (s₁.setTop (mkF m 183 #[.val (.int c), .unset] [])) (fun t k => XS.icmpNo X0.here hx rfl (hb hby d2_180) rfl (feq c12).1 k) ?_
      exact b183 (by rw [hr, own_2_177, if_neg c12])
  have b171 : own_2_0 c = own_2_171 c → own_Fin p e s below ({ frames := 0, cells := 0, slots := 0, locals := 0 } : Room) (Q2 Z c h0 n0) (s₁.setTop (mkF m 171 #[.val (.int c), .unset] [])) := by
    intro hr
    refine own_to (s₁.setTop (mkF m 172 #[.val (.int c), .unset] [(.int c)])) (fun t k => XS.iloadN X0.here hx rfl (hb hby d2_171) rfl k) ?_
    refine own_to (s₁.setTop (mkF m 174 #[.val (.int c), .unset] [(.int (65534 : Int32)), (.int c)])) (fun t k => X0.ldcI hx hown (mvT hZ (hw _ (List.mem_of_getElem? (i := 21) rfl))) rfl (hb hby d2_172) k) ?_
    by_cases c13 : c = (65534 : Int32)
    · -- True
      refine own_to (s₁.setTop (mkF m 189 #[.val (.int c), .unset] [])) (fun t k => XS.icmpYes X0.here hx rfl (pc0 := 174) (pc' := 189) rfl (hb hby d2_174) rfl (teq c13).1 (by decide) (by decide) k) ?_
      exact b189 (by rw [hr, own_2_171, if_pos c13])
    · -- False
      refine own_to (s₁.setTop (mkF m 177 #[.val (.int c), .unset] [])) (fun t k => XS.icmpNo X0.here hx rfl (hb hby d2_174) rfl (feq c13).1 k) ?_
      exact b177 (by rw [hr, own_2_171, if_neg c13])
  have b165 : own_2_0 c = own_2_165 c → own_Fin p e s below ({ frames := 0, cells := 0, slots := 0, locals := 0 } : Room) (Q2 Z c h0 n0) (s₁.setTop (mkF m 165 #[.val (.int c), .unset] [])) := by
    intro hr
    refine own_to (s₁.setTop (mkF m 166 #[.val (.int c), .unset] [(.int c)])) (fun t k => XS.iloadN X0.here hx rfl (hb hby d2_165) rfl k) ?_
    refine own_to (s₁.setTop (mkF m 168 #[.val (.int c), .unset] [(.int (65007 : Int32)), (.int c)])) (fun t k => X0.ldcI hx hown (mvT hZ (hw _ (List.mem_of_getElem? (i := 20) rfl))) rfl (hb hby d2_166) k) ?_
    by_cases c14 : (65007 : Int32) < c
    · -- True
      refine own_to (s₁.setTop (mkF m 171 #[.val (.int c), .unset] [])) (fun t k => XS.icmpNo X0.here hx rfl (hb hby d2_168) rfl (tlt c14).2.2.2 k) ?_
      exact b171 (by rw [hr, own_2_165, if_pos c14])
    · -- False
      refine own_to (s₁.setTop (mkF m 189 #[.val (.int c), .unset] [])) (fun t k => XS.icmpYes X0.here hx rfl (pc0 := 168) (pc' := 189) rfl (hb hby d2_168) rfl (flt c14).2.2.2 (by decide) (by decide) k) ?_
      exact b189 (by rw [hr, own_2_165, if_neg c14])
  have b159 : own_2_0 c = own_2_159 c → own_Fin p e s below ({ frames := 0, cells := 0, slots := 0, locals := 0 } : Room) (Q2 Z c h0 n0) (s₁.setTop (mkF m 159 #[.val (.int c), .unset] [])) := by
    intro hr
    refine own_to (s₁.setTop (mkF m 160 #[.val (.int c), .unset] [(.int c)])) (fun t k => XS.iloadN X0.here hx rfl (hb hby d2_159) rfl k) ?_
    refine own_to (s₁.setTop (mkF m 162 #[.val (.int c), .unset] [(.int (64976 : Int32)), (.int c)])) (fun t k => X0.ldcI hx hown (mvT hZ (hw _ (List.mem_of_getElem? (i := 19) rfl))) rfl (hb hby d2_160) k) ?_
    by_cases c15 : c < (64976 : Int32)
    · -- True
      refine own_to (s₁.setTop (mkF m 171 #[.val (.int c), .unset] [])) (fun t k => XS.icmpYes X0.here hx rfl (pc0 := 162) (pc' := 171) rfl (hb hby d2_162) rfl (tlt c15).1 (by decide) (by decide) k) ?_
      exact b171 (by rw [hr, own_2_159, if_pos c15])
    · -- False
      refine own_to (s₁.setTop (mkF m 165 #[.val (.int c), .unset] [])) (fun t k => XS.icmpNo X0.here hx rfl (hb hby d2_162) rfl (flt c15).1 k) ?_
      exact b165 (by rw [hr, own_2_159, if_neg c15])
  have b153 : own_2_0 c = own_2_153 c → own_Fin p e s below ({ frames := 0, cells := 0, slots := 0, locals := 0 } : Room) (Q2 Z c h0 n0) (s₁.setTop (mkF m 153 #[.val (.int c), .unset] [])) := by
    intro hr
    refine own_to (s₁.setTop (mkF m 154 #[.val (.int c), .unset] [(.int c)])) (fun t k => XS.iloadN X0.here hx rfl (hb hby d2_153) rfl k) ?_
    refine own_to (s₁.setTop (mkF m 156 #[.val (.int c), .unset] [(.int (63743 : Int32)), (.int c)])) (fun t k => X0.ldcI hx hown (mvT hZ (hw _ (List.mem_of_getElem? (i := 18) rfl))) rfl (hb hby d2_154) k) ?_
    by_cases c16 : (63743 : Int32) < c
    · -- True
      refine own_to (s₁.setTop (mkF m 159 #[.val (.int c), .unset] [])) (fun t k => XS.icmpNo X0.here hx rfl (hb hby d2_156) rfl (tlt c16).2.2.2 k) ?_
      exact b159 (by rw [hr, own_2_153, if_pos c16])
    · -- False
      refine own_to (s₁.setTop (mkF m 189 #[.val (.int c), .unset] [])) (fun t k => XS.icmpYes X0.here hx rfl (pc0 := 156) (pc' := 189) rfl (hb hby d2_156) rfl (flt c16).2.2.2 (by decide) (by decide) k) ?_
      exact b189 (by rw [hr, own_2_153, if_neg c16])
  have b147 : own_2_0 c = own_2_147 c → own_Fin p e s below ({ frames := 0, cells := 0, slots := 0, locals := 0 } : Room) (Q2 Z c h0 n0) (s₁.setTop (mkF m 147 #[.val (.int c), .unset] [])) := by
    intro hr
    refine own_to (s₁.setTop (mkF m 148 #[.val (.int c), .unset] [(.int c)])) (fun t k => XS.iloadN X0.here hx rfl (hb hby d2_147) rfl k) ?_
    refine own_to (s₁.setTop (mkF m 150 #[.val (.int c), .unset] [(.int (55296 : Int32)), (.int c)])) (fun t k => X0.ldcI hx hown (mvT hZ (hw _ (List.mem_of_getElem? (i := 17) rfl))) rfl (hb hby d2_148) k) ?_
    by_cases c17 : c < (55296 : Int32)
    · -- True
      refine own_to (s₁.setTop (mkF m 159 #[.val (.int c), .unset] [])) (fun t k => XS.icmpYes X0.here hx rfl (pc0 := 150) (pc' := 159) rfl (hb hby d2_150) rfl (tlt c17).1 (by decide) (by decide) k) ?_
      exact b159 (by rw [hr, own_2_147, if_pos c17])
    · -- False
      refine own_to (s₁.setTop (mkF m 153 #[.val (.int c), .unset] [])) (fun t k => XS.icmpNo X0.here hx rfl (hb hby d2_150) rfl (flt c17).1 k) ?_
      exact b153 (by rw [hr, own_2_147, if_neg c17])
  have b140 : own_2_0 c = own_2_140 c → own_Fin p e s below ({ frames := 0, cells := 0, slots := 0, locals := 0 } : Room) (Q2 Z c h0 n0) (s₁.setTop (mkF m 140 #[.val (.int c), .unset] [])) := by
    intro hr
    refine own_to (s₁.setTop (mkF m 141 #[.val (.int c), .unset] [(.int c)])) (fun t k => XS.iloadN X0.here hx rfl (hb hby d2_140) rfl k) ?_
    refine own_to (s₁.setTop (mkF m 144 #[.val (.int c), .unset] [(.int (12288 : Int32)), (.int c)])) (fun t k => XT.sipushV X0.here hx rfl (12288 : Int32) (hb hby d2_141) (by decide) k) ?_
    by_cases c18 : (12288 : Int32) < c
    · -- True
      refine own_to (s₁.setTop (mkF m 147 #[.val (.int c), .unset] [])) (fun t k => XS.icmpNo X0.here hx rfl (hb hby d2_144) rfl (tlt c18).2.2.2 k) ?_
      exact b147 (by rw [hr, own_2_140, if_pos c18])
    · -- False
      refine own_to (s₁.setTop (mkF m 189 #[.val (.int c), .unset] [])) (fun t k => XS.icmpYes X0.here hx rfl (pc0 := 144) (pc' := 189) rfl (hb hby d2_144) rfl (flt c18).2.2.2 (by decide) (by decide) k) ?_
      exact b189 (by rw [hr, own_2_140, if_neg c18])
  have b133 : own_2_0 c = own_2_133 c → own_Fin p e s below ({ frames := 0, cells := 0, slots := 0, locals := 0 } : Room) (Q2 Z c h0 n0) (s₁.setTop (mkF m 133 #[.val (.int c), .unset] [])) := by
    intro hr
    refine own_to (s₁.setTop (mkF m 134 #[.val (.int c), .unset] [(.int c)])) (fun t k => XS.iloadN X0.here hx rfl (hb hby d2_133) rfl k) ?_
    refine own_to (s₁.setTop (mkF m 137 #[.val (.int c), .unset] [(.int (12272 : Int32)), (.int c)])) (fun t k => XT.sipushV X0.here hx rfl (12272 : Int32) (hb hby d2_134) (by decide) k) ?_
    by_cases c19 : c < (12272 : Int32)
    · -- True
      refine own_to (s₁.setTop (mkF m 147 #[.val (.int c), .unset] [])) (fun t k => XS.icmpYes X0.here hx rfl (pc0 := 137) (pc' := 147) rfl (hb hby d2_137) rfl (tlt c19).1 (by decide) (by decide) k) ?_
      exact b147 (by rw [hr, own_2_133, if_pos c19])
    · -- False
      refine own_to (s₁.setTop (mkF m 140 #[.val (.int c), .unset] [])) (fun t k => XS.icmpNo X0.here hx rfl (hb hby d2_137) rfl (flt c19).1 k) ?_
      exact b140 (by rw [hr, own_2_133, if_neg c19])
  have b126 : own_2_0 c = own_2_126 c → own_Fin p e s below ({ frames := 0, cells := 0, slots := 0, locals := 0 } : Room) (Q2 Z c h0 n0) (s₁.setTop (mkF m 126 #[.val (.int c), .unset] [])) := by
    intro hr
    refine own_to (s₁.setTop (mkF m 127 #[.val (.int c), .unset] [(.int c)])) (fun t k => XS.iloadN X0.here hx rfl (hb hby d2_126) rfl k) ?_
    refine own_to (s₁.setTop (mkF m 130 #[.val (.int c), .unset] [(.int (11263 : Int32)), (.int c)])) (fun t k => XT.sipushV X0.here hx rfl (11263 : Int32) (hb hby d2_127) (by decide) k) ?_
    by_cases c20 : (11263 : Int32) < c
    · -- True
      refine own_to (s₁.setTop (mkF m 133 #[.val (.int c), .unset] [])) (fun t k => XS.icmpNo X0.here hx rfl (hb hby d2_130) rfl (tlt c20).2.2.2 k) ?_
      exact b133 (by rw [hr, own_2_126, if_pos c20])
    · -- False
      refine own_to (s₁.setTop (mkF m 189 #[.val (.int c), .unset] [])) (fun t k => XS.icmpYes X0.here hx rfl (pc0 := 130) (pc' := 189) rfl (hb hby d2_130) rfl (flt c20).2.2.2 (by decide) (by decide) k) ?_
      exact b189 (by rw [hr, own_2_126, if_neg c20])
  have b119 : own_2_0 c = own_2_119 c → own_Fin p e s below ({ frames := 0, cells := 0, slots := 0, locals := 0 } : Room) (Q2 Z c h0 n0) (s₁.setTop (mkF m 119 #[.val (.int c), .unset] [])) := by
    intro hr
    refine own_to (s₁.setTop (mkF m 120 #[.val (.int c), .unset] [(.int c)])) (fun t k => XS.iloadN X0.here hx rfl (hb hby d2_119) rfl k) ?_
    refine own_to (s₁.setTop (mkF m 123 #[.val (.int c), .unset] [(.int (8592 : Int32)), (.int c)])) (fun t k => XT.sipushV X0.here hx rfl (8592 : Int32) (hb hby d2_120) (by decide) k) ?_
    by_cases c21 : c < (8592 : Int32)
    · -- True
      refine own_to (s₁.setTop (mkF m 133 #[.val (.int c), .unset] [])) (fun t k => XS.icmpYes X0.here hx rfl (pc0 := 123) (pc' := 133) rfl (hb hby d2_123) rfl (tlt c21).1 (by decide) (by decide) k) ?_
      exact b133 (by rw [hr, own_2_119, if_pos c21])
    · -- False
      refine own_to (s₁.setTop (mkF m 126 #[.val (.int c), .unset] [])) (fun t k => XS.icmpNo X0.here hx rfl (hb hby d2_123) rfl (flt c21).1 k) ?_
      exact b126 (by rw [hr, own_2_119, if_neg c21])
  have b112 : own_2_0 c = own_2_112 c → own_Fin p e s below ({ frames := 0, cells := 0, slots := 0, locals := 0 } : Room) (Q2 Z c h0 n0) (s₁.setTop (mkF m 112 #[.val (.int c), .unset] [])) := by
    intro hr
    refine own_to (s₁.setTop (mkF m 113 #[.val (.int c), .unset] [(.int c)])) (fun t k => XS.iloadN X0.here hx rfl (hb hby d2_112) rfl k) ?_
    refine own_to (s₁.setTop (mkF m 116 #[.val (.int c), .unset] [(.int (8303 : Int32)), (.int c)])) (fun t k => XT.sipushV X0.here hx rfl (8303 : Int32) (hb hby d2_113) (by decide) k) ?_
    by_cases c22 : (8303 : Int32) < c
    · -- True
      refine own_to (s₁.setTop (mkF m 119 #[.val (.int c), .unset] [])) (fun t k => XS.icmpNo X0.here hx rfl (hb hby d2_116) rfl (tlt c22).2.2.2 k) ?_
      exact b119 (by rw [hr, own_2_112, if_pos c22])
    · -- False
      refine own_to (s₁.setTop (mkF m 189 #[.val (.int c), .unset] [])) (fun t k => XS.icmpYes X0.here hx rfl (pc0 := 116) (pc' := 189) rfl (hb hby d2_116) rfl (flt c22).2.2.2 (by decide) (by decide) k) ?_
      exact b189 (by rw [hr, own_2_112, if_neg c22])
  have b105 : own_2_0 c = own_2_105 c → own_Fin p e s below ({ frames := 0, cells := 0, slots := 0, locals := 0 } : Room) (Q2 Z c h0 n0) (s₁.setTop (mkF m 105 #[.val (.int c), .unset] [])) := by
    intro hr
    refine own_to (s₁.setTop (mkF m 106 #[.val (.int c), .unset] [(.int c)])) (fun t k => XS.iloadN X0.here hx rfl (hb hby d2_105) rfl k) ?_
    refine own_to (s₁.setTop (mkF m 109 #[.val (.int c), .unset] [(.int (8206 : Int32)), (.int c)])) (fun t k => XT.sipushV X0.here hx rfl (8206 : Int32) (hb hby d2_106) (by decide) k) ?_
    by_cases c23 : c < (8206 : Int32)
    · -- True
      refine own_to (s₁.setTop (mkF m 119 #[.val (.int c), .unset] [])) (fun t k => XS.icmpYes X0.here hx rfl (pc0 := 109) (pc' := 119) rfl (hb hby d2_109) rfl (tlt c23).1 (by decide) (by decide) k) ?_
      exact b119 (by rw [hr, own_2_105, if_pos c23])
    · -- False
      refine own_to (s₁.setTop (mkF m 112 #[.val (.int c), .unset] [])) (fun t k => XS.icmpNo X0.here hx rfl (hb hby d2_109) rfl (flt c23).1 k) ?_
      exact b112 (by rw [hr, own_2_105, if_neg c23])
  have b98 : own_2_0 c = own_2_98 c → own_Fin p e s below ({ frames := 0, cells := 0, slots := 0, locals := 0 } : Room) (Q2 Z c h0 n0) (s₁.setTop (mkF m 98 #[.val (.int c), .unset] [])) := by
    intro hr
    refine own_to (s₁.setTop (mkF m 99 #[.val (.int c), .unset] [(.int c)])) (fun t k => XS.iloadN X0.here hx rfl (hb hby d2_98) rfl k) ?_
    refine own_to (s₁.setTop (mkF m 102 #[.val (.int c), .unset] [(.int (8203 : Int32)), (.int c)])) (fun t k => XT.sipushV X0.here hx rfl (8203 : Int32) (hb hby d2_99) (by decide) k) ?_
    by_cases c24 : (8203 : Int32) < c
    · -- True
      refine own_to (s₁.setTop (mkF m 105 #[.val (.int c), .unset] [])) (fun t k => XS.icmpNo X0.here hx rfl (hb hby d2_102) rfl (tlt c24).2.2.2 k) ?_
      exact b105 (by rw [hr, own_2_98, if_pos c24])
    · -- False
      refine own_to (s₁.setTop (mkF m 189 #[.val (.int c), .unset] [])) (fun t k => XS.icmpYes X0.here hx rfl (pc0 := 102) (pc' := 189) rfl (hb hby d2_102) rfl (flt c24).2.2.2 (by decide) (by decide) k) ?_
      exact b189 (by rw [hr, own_2_98, if_neg c24])
  have b91 : own_2_0 c = own_2_91 c → own_Fin p e s below ({ frames := 0, cells := 0, slots := 0, locals := 0 } : Room) (Q2 Z c h0 n0) (s₁.setTop (mkF m 91 #[.val (.int c), .unset] [])) := by
    intro hr
    refine own_to (s₁.setTop (mkF m 92 #[.val (.int c), .unset] [(.int c)])) (fun t k => XS.iloadN X0.here hx rfl (hb hby d2_91) rfl k) ?_
    refine own_to (s₁.setTop (mkF m 95 #[.val (.int c), .unset] [(.int (8192 : Int32)), (.int c)])) (fun t k => XT.sipushV X0.here hx rfl (8192 : Int32) (hb hby d2_92) (by decide) k) ?_
    by_cases c25 : c < (8192 : Int32)
    · -- True
      refine own_to (s₁.setTop (mkF m 105 #[.val (.int c), .unset] [])) (fun t k => XS.icmpYes X0.here hx rfl (pc0 := 95) (pc' := 105) rfl (hb hby d2_95) rfl (tlt c25).1 (by decide) (by decide) k) ?_
      exact b105 (by rw [hr, own_2_91, if_pos c25])
    · -- False
      refine own_to (s₁.setTop (mkF m 98 #[.val (.int c), .unset] [])) (fun t k => XS.icmpNo X0.here hx rfl (hb hby d2_95) rfl (flt c25).1 k) ?_
      exact b98 (by rw [hr, own_2_91, if_neg c25])
  have b84 : own_2_0 c = own_2_84 c → own_Fin p e s below ({ frames := 0, cells := 0, slots := 0, locals := 0 } : Room) (Q2 Z c h0 n0) (s₁.setTop (mkF m 84 #[.val (.int c), .unset] [])) := by
    intro hr
    refine own_to (s₁.setTop (mkF m 85 #[.val (.int c), .unset] [(.int c)])) (fun t k => XS.iloadN X0.here hx rfl (hb hby d2_84) rfl k) ?_
    refine own_to (s₁.setTop (mkF m 88 #[.val (.int c), .unset] [(.int (894 : Int32)), (.int c)])) (fun t k => XT.sipushV X0.here hx rfl (894 : Int32) (hb hby d2_85) (by decide) k) ?_
    by_cases c26 : c = (894 : Int32)
    · -- True
      refine own_to (s₁.setTop (mkF m 189 #[.val (.int c), .unset] [])) (fun t k => XS.icmpYes X0.here hx rfl (pc0 := 88) (pc' := 189) rfl (hb hby d2_88) rfl (teq c26).1 (by decide) (by decide) k) ?_
      exact b189 (by rw [hr, own_2_84, if_pos c26])
    · -- False
      refine own_to (s₁.setTop (mkF m 91 #[.val (.int c), .unset] [])) (fun t k => XS.icmpNo X0.here hx rfl (hb hby d2_88) rfl (feq c26).1 k) ?_
      exact b91 (by rw [hr, own_2_84, if_neg c26])
  have b77 : own_2_0 c = own_2_77 c → own_Fin p e s below ({ frames := 0, cells := 0, slots := 0, locals := 0 } : Room) (Q2 Z c h0 n0) (s₁.setTop (mkF m 77 #[.val (.int c), .unset] [])) := by
    intro hr
    refine own_to (s₁.setTop (mkF m 78 #[.val (.int c), .unset] [(.int c)])) (fun t k => XS.iloadN X0.here hx rfl (hb hby d2_77) rfl k) ?_
    refine own_to (s₁.setTop (mkF m 81 #[.val (.int c), .unset] [(.int (879 : Int32)), (.int c)])) (fun t k => XT.sipushV X0.here hx rfl (879 : Int32) (hb hby d2_78) (by decide) k) ?_
    by_cases c27 : (879 : Int32) < c
    · -- True
      refine own_to (s₁.setTop (mkF m 84 #[.val (.int c), .unset] [])) (fun t k => XS.icmpNo X0.here hx rfl (hb hby d2_81) rfl (tlt c27).2.2.2 k) ?_
      exact b84 (by rw [hr, own_2_77, if_pos c27])
    · -- False
      refine own_to (s₁.setTop (mkF m 189 #[.val (.int c), .unset] [])) (fun t k => XS.icmpYes X0.here hx rfl (pc0 := 81) (pc' := 189) rfl (hb hby d2_81) rfl (flt c27).2.2.2 (by decide) (by decide) k) ?_
      exact b189 (by rw [hr, own_2_77, if_neg c27])
  have b70 : own_2_0 c = own_2_70 c → own_Fin p e s below ({ frames := 0, cells := 0, slots := 0, locals := 0 } : Room) (Q2 Z c h0 n0) (s₁.setTop (mkF m 70 #[.val (.int c), .unset] [])) := by
    intro hr
    refine own_to (s₁.setTop (mkF m 71 #[.val (.int c), .unset] [(.int c)])) (fun t k => XS.iloadN X0.here hx rfl (hb hby d2_70) rfl k) ?_
    refine own_to (s₁.setTop (mkF m 74 #[.val (.int c), .unset] [(.int (768 : Int32)), (.int c)])) (fun t k => XT.sipushV X0.here hx rfl (768 : Int32) (hb hby d2_71) (by decide) k) ?_
    by_cases c28 : c < (768 : Int32)
    · -- True
      refine own_to (s₁.setTop (mkF m 84 #[.val (.int c), .unset] [])) (fun t k => XS.icmpYes X0.here hx rfl (pc0 := 74) (pc' := 84) rfl (hb hby d2_74) rfl (tlt c28).1 (by decide) (by decide) k) ?_
      exact b84 (by rw [hr, own_2_70, if_pos c28])
    · -- False
      refine own_to (s₁.setTop (mkF m 77 #[.val (.int c), .unset] [])) (fun t k => XS.icmpNo X0.here hx rfl (hb hby d2_74) rfl (flt c28).1 k) ?_
      exact b77 (by rw [hr, own_2_70, if_neg c28])
  have b63 : own_2_0 c = own_2_63 c → own_Fin p e s below ({ frames := 0, cells := 0, slots := 0, locals := 0 } : Room) (Q2 Z c h0 n0) (s₁.setTop (mkF m 63 #[.val (.int c), .unset] [])) := by
    intro hr
    refine own_to (s₁.setTop (mkF m 64 #[.val (.int c), .unset] [(.int c)])) (fun t k => XS.iloadN X0.here hx rfl (hb hby d2_63) rfl k) ?_
    refine own_to (s₁.setTop (mkF m 67 #[.val (.int c), .unset] [(.int (247 : Int32)), (.int c)])) (fun t k => XT.sipushV X0.here hx rfl (247 : Int32) (hb hby d2_64) (by decide) k) ?_
    by_cases c29 : c = (247 : Int32)
    · -- True
      refine own_to (s₁.setTop (mkF m 189 #[.val (.int c), .unset] [])) (fun t k => XS.icmpYes X0.here hx rfl (pc0 := 67) (pc' := 189) rfl (hb hby d2_67) rfl (teq c29).1 (by decide) (by decide) k) ?_
      exact b189 (by rw [hr, own_2_63, if_pos c29])
    · -- False
      refine own_to (s₁.setTop (mkF m 70 #[.val (.int c), .unset] [])) (fun t k => XS.icmpNo X0.here hx rfl (hb hby d2_67) rfl (feq c29).1 k) ?_
      exact b70 (by rw [hr, own_2_63, if_neg c29])
  have b56 : own_2_0 c = own_2_56 c → own_Fin p e s below ({ frames := 0, cells := 0, slots := 0, locals := 0 } : Room) (Q2 Z c h0 n0) (s₁.setTop (mkF m 56 #[.val (.int c), .unset] [])) := by
    intro hr
    refine own_to (s₁.setTop (mkF m 57 #[.val (.int c), .unset] [(.int c)])) (fun t k => XS.iloadN X0.here hx rfl (hb hby d2_56) rfl k) ?_
    refine own_to (s₁.setTop (mkF m 60 #[.val (.int c), .unset] [(.int (215 : Int32)), (.int c)])) (fun t k => XT.sipushV X0.here hx rfl (215 : Int32) (hb hby d2_57) (by decide) k) ?_
    by_cases c30 : c = (215 : Int32)
    · -- True
      refine own_to (s₁.setTop (mkF m 189 #[.val (.int c), .unset] [])) (fun t k => XS.icmpYes X0.here hx rfl (pc0 := 60) (pc' := 189) rfl (hb hby d2_60) rfl (teq c30).1 (by decide) (by decide) k) ?_
      exact b189 (by rw [hr, own_2_56, if_pos c30])
    · -- False
      refine own_to (s₁.setTop (mkF m 63 #[.val (.int c), .unset] [])) (fun t k => XS.icmpNo X0.here hx rfl (hb hby d2_60) rfl (feq c30).1 k) ?_
      exact b63 (by rw [hr, own_2_56, if_neg c30])
  have b49 : own_2_0 c = own_2_49 c → own_Fin p e s below ({ frames := 0, cells := 0, slots := 0, locals := 0 } : Room) (Q2 Z c h0 n0) (s₁.setTop (mkF m 49 #[.val (.int c), .unset] [])) := by
    intro hr
    refine own_to (s₁.setTop (mkF m 50 #[.val (.int c), .unset] [(.int c)])) (fun t k => XS.iloadN X0.here hx rfl (hb hby d2_49) rfl k) ?_
    refine own_to (s₁.setTop (mkF m 53 #[.val (.int c), .unset] [(.int (191 : Int32)), (.int c)])) (fun t k => XT.sipushV X0.here hx rfl (191 : Int32) (hb hby d2_50) (by decide) k) ?_
    by_cases c31 : (191 : Int32) < c
    · -- True
      refine own_to (s₁.setTop (mkF m 56 #[.val (.int c), .unset] [])) (fun t k => XS.icmpNo X0.here hx rfl (hb hby d2_53) rfl (tlt c31).2.2.2 k) ?_
      exact b56 (by rw [hr, own_2_49, if_pos c31])
    · -- False
      refine own_to (s₁.setTop (mkF m 189 #[.val (.int c), .unset] [])) (fun t k => XS.icmpYes X0.here hx rfl (pc0 := 53) (pc' := 189) rfl (hb hby d2_53) rfl (flt c31).2.2.2 (by decide) (by decide) k) ?_
      exact b189 (by rw [hr, own_2_49, if_neg c31])
  have b47 : own_2_0 c = own_2_47 c → own_Fin p e s below ({ frames := 0, cells := 0, slots := 0, locals := 0 } : Room) (Q2 Z c h0 n0) (s₁.setTop (mkF m 47 #[.val (.int c), .unset] [])) := by
    intro hr
    refine own_to (s₁.setTop (mkF m 48 #[.val (.int c), .unset] [(.int (0 : Int32))])) (fun t k => XT.iconstV X0.here hx rfl (0 : Int32) (hb hby d2_47) (by decide) k) ?_
    exact own_retZ X0 hx hret hk (i' := (0 : Int32)) (hb hby d2_48) (by decide) (by decide) (by decide) ⟨by rw [hr, own_2_47], N0, e0⟩
  have b43 : own_2_0 c = own_2_43 c → own_Fin p e s below ({ frames := 0, cells := 0, slots := 0, locals := 0 } : Room) (Q2 Z c h0 n0) (s₁.setTop (mkF m 43 #[.val (.int c), .unset] [])) := by
    intro hr
    refine own_to (s₁.setTop (mkF m 44 #[.val (.int c), .unset] [(.int (1 : Int32))])) (fun t k => XT.iconstV X0.here hx rfl (1 : Int32) (hb hby d2_43) (by decide) k) ?_
    refine own_to (s₁.setTop (mkF m 48 #[.val (.int c), .unset] [(.int (1 : Int32))])) (fun t k => XS.goto X0.here hx rfl (pc0 := 44) (pc' := 48) rfl (hb hby d2_44) (by decide) (by decide) k) ?_
    exact own_retZ X0 hx hret hk (i' := (1 : Int32)) (hb hby d2_48) (by decide) (by decide) (by decide) ⟨by rw [hr, own_2_43], N0, e0⟩
  have b37 : own_2_0 c = own_2_37 c → own_Fin p e s below ({ frames := 0, cells := 0, slots := 0, locals := 0 } : Room) (Q2 Z c h0 n0) (s₁.setTop (mkF m 37 #[.val (.int c), .unset] [])) := by
    intro hr
    refine own_to (s₁.setTop (mkF m 38 #[.val (.int c), .unset] [(.int c)])) (fun t k => XS.iloadN X0.here hx rfl (hb hby d2_37) rfl k) ?_
    refine own_to (s₁.setTop (mkF m 40 #[.val (.int c), .unset] [(.int (122 : Int32)), (.int c)])) (fun t k => XT.bipushV X0.here hx rfl (122 : Int32) (hb hby d2_38) (by decide) k) ?_
    by_cases c32 : (122 : Int32) < c
    · -- True
      refine own_to (s₁.setTop (mkF m 47 #[.val (.int c), .unset] [])) (fun t k => XS.icmpYes X0.here hx rfl (pc0 := 40) (pc' := 47) rfl (hb hby d2_40) rfl (tlt c32).2.2.1 (by decide) (by decide) k) ?_
      exact b47 (by rw [hr, own_2_37, if_pos c32])
    · -- False
      refine own_to (s₁.setTop (mkF m 43 #[.val (.int c), .unset] [])) (fun t k => XS.icmpNo X0.here hx rfl (hb hby d2_40) rfl (flt c32).2.2.1 k) ?_
      exact b43 (by rw [hr, own_2_37, if_neg c32])
  have b31 : own_2_0 c = own_2_31 c → own_Fin p e s below ({ frames := 0, cells := 0, slots := 0, locals := 0 } : Room) (Q2 Z c h0 n0) (s₁.setTop (mkF m 31 #[.val (.int c), .unset] [])) := by
    intro hr
    refine own_to (s₁.setTop (mkF m 32 #[.val (.int c), .unset] [(.int c)])) (fun t k => XS.iloadN X0.here hx rfl (hb hby d2_31) rfl k) ?_
    refine own_to (s₁.setTop (mkF m 34 #[.val (.int c), .unset] [(.int (97 : Int32)), (.int c)])) (fun t k => XT.bipushV X0.here hx rfl (97 : Int32) (hb hby d2_32) (by decide) k) ?_
    by_cases c33 : c < (97 : Int32)
    · -- True
      refine own_to (s₁.setTop (mkF m 47 #[.val (.int c), .unset] [])) (fun t k => XS.icmpYes X0.here hx rfl (pc0 := 34) (pc' := 47) rfl (hb hby d2_34) rfl (tlt c33).1 (by decide) (by decide) k) ?_
      exact b47 (by rw [hr, own_2_31, if_pos c33])
    · -- False
      refine own_to (s₁.setTop (mkF m 37 #[.val (.int c), .unset] [])) (fun t k => XS.icmpNo X0.here hx rfl (hb hby d2_34) rfl (flt c33).1 k) ?_
      exact b37 (by rw [hr, own_2_31, if_neg c33])
  have b25 : own_2_0 c = own_2_25 c → own_Fin p e s below ({ frames := 0, cells := 0, slots := 0, locals := 0 } : Room) (Q2 Z c h0 n0) (s₁.setTop (mkF m 25 #[.val (.int c), .unset] [])) := by
    intro hr
    refine own_to (s₁.setTop (mkF m 26 #[.val (.int c), .unset] [(.int c)])) (fun t k => XS.iloadN X0.here hx rfl (hb hby d2_25) rfl k) ?_
    refine own_to (s₁.setTop (mkF m 28 #[.val (.int c), .unset] [(.int (90 : Int32)), (.int c)])) (fun t k => XT.bipushV X0.here hx rfl (90 : Int32) (hb hby d2_26) (by decide) k) ?_
    by_cases c34 : (90 : Int32) < c
    · -- True
      refine own_to (s₁.setTop (mkF m 31 #[.val (.int c), .unset] [])) (fun t k => XS.icmpNo X0.here hx rfl (hb hby d2_28) rfl (tlt c34).2.2.2 k) ?_
      exact b31 (by rw [hr, own_2_25, if_pos c34])
    · -- False
      refine own_to (s₁.setTop (mkF m 43 #[.val (.int c), .unset] [])) (fun t k => XS.icmpYes X0.here hx rfl (pc0 := 28) (pc' := 43) rfl (hb hby d2_28) rfl (flt c34).2.2.2 (by decide) (by decide) k) ?_
      exact b43 (by rw [hr, own_2_25, if_neg c34])
  have b19 : own_2_0 c = own_2_19 c → own_Fin p e s below ({ frames := 0, cells := 0, slots := 0, locals := 0 } : Room) (Q2 Z c h0 n0) (s₁.setTop (mkF m 19 #[.val (.int c), .unset] [])) := by
    intro hr
    refine own_to (s₁.setTop (mkF m 20 #[.val (.int c), .unset] [(.int c)])) (fun t k => XS.iloadN X0.here hx rfl (hb hby d2_19) rfl k) ?_
    refine own_to (s₁.setTop (mkF m 22 #[.val (.int c), .unset] [(.int (65 : Int32)), (.int c)])) (fun t k => XT.bipushV X0.here hx rfl (65 : Int32) (hb hby d2_20) (by decide) k) ?_
    by_cases c35 : c < (65 : Int32)
    · -- True
      refine own_to (s₁.setTop (mkF m 31 #[.val (.int c), .unset] [])) (fun t k => XS.icmpYes X0.here hx rfl (pc0 := 22) (pc' := 31) rfl (hb hby d2_22) rfl (tlt c35).1 (by decide) (by decide) k) ?_
      exact b31 (by rw [hr, own_2_19, if_pos c35])
    · -- False
      refine own_to (s₁.setTop (mkF m 25 #[.val (.int c), .unset] [])) (fun t k => XS.icmpNo X0.here hx rfl (hb hby d2_22) rfl (flt c35).1 k) ?_
      exact b25 (by rw [hr, own_2_19, if_neg c35])
  have b13 : own_2_0 c = own_2_13 c → own_Fin p e s below ({ frames := 0, cells := 0, slots := 0, locals := 0 } : Room) (Q2 Z c h0 n0) (s₁.setTop (mkF m 13 #[.val (.int c), .unset] [])) := by
    intro hr
    refine own_to (s₁.setTop (mkF m 14 #[.val (.int c), .unset] [(.int c)])) (fun t k => XS.iloadN X0.here hx rfl (hb hby d2_13) rfl k) ?_
    refine own_to (s₁.setTop (mkF m 16 #[.val (.int c), .unset] [(.int (95 : Int32)), (.int c)])) (fun t k => XT.bipushV X0.here hx rfl (95 : Int32) (hb hby d2_14) (by decide) k) ?_
    by_cases c36 : c = (95 : Int32)
    · -- True
      refine own_to (s₁.setTop (mkF m 43 #[.val (.int c), .unset] [])) (fun t k => XS.icmpYes X0.here hx rfl (pc0 := 16) (pc' := 43) rfl (hb hby d2_16) rfl (teq c36).1 (by decide) (by decide) k) ?_
      exact b43 (by rw [hr, own_2_13, if_pos c36])
    · -- False
      refine own_to (s₁.setTop (mkF m 19 #[.val (.int c), .unset] [])) (fun t k => XS.icmpNo X0.here hx rfl (hb hby d2_16) rfl (feq c36).1 k) ?_
      exact b19 (by rw [hr, own_2_13, if_neg c36])
  have b7 : own_2_0 c = own_2_7 c → own_Fin p e s below ({ frames := 0, cells := 0, slots := 0, locals := 0 } : Room) (Q2 Z c h0 n0) (s₁.setTop (mkF m 7 #[.val (.int c), .unset] [])) := by
    intro hr
    refine own_to (s₁.setTop (mkF m 8 #[.val (.int c), .unset] [(.int c)])) (fun t k => XS.iloadN X0.here hx rfl (hb hby d2_7) rfl k) ?_
    refine own_to (s₁.setTop (mkF m 10 #[.val (.int c), .unset] [(.int (58 : Int32)), (.int c)])) (fun t k => XT.bipushV X0.here hx rfl (58 : Int32) (hb hby d2_8) (by decide) k) ?_
    by_cases c37 : c = (58 : Int32)
    · -- True
      refine own_to (s₁.setTop (mkF m 43 #[.val (.int c), .unset] [])) (fun t k => XS.icmpYes X0.here hx rfl (pc0 := 10) (pc' := 43) rfl (hb hby d2_10) rfl (teq c37).1 (by decide) (by decide) k) ?_
      exact b43 (by rw [hr, own_2_7, if_pos c37])
    · -- False
      refine own_to (s₁.setTop (mkF m 13 #[.val (.int c), .unset] [])) (fun t k => XS.icmpNo X0.here hx rfl (hb hby d2_10) rfl (feq c37).1 k) ?_
      exact b13 (by rw [hr, own_2_7, if_neg c37])
  refine own_to (s₁.setTop (mkF m 0 #[.val (.int c), .unset] [])) (fun t k => castTop (ef_2 m c) k) ?_
  have hr : own_2_0 c = own_2_0 c := rfl
  refine own_to (s₁.setTop (mkF m 1 #[.val (.int c), .unset] [(.int c)])) (fun t k => XS.iloadN X0.here hx rfl (hb hby d2_0) rfl k) ?_
  refine own_to (s₁.setTop (mkF m 4 #[.val (.int c), .unset] [(.int (128 : Int32)), (.int c)])) (fun t k => XT.sipushV X0.here hx rfl (128 : Int32) (hb hby d2_1) (by decide) k) ?_
  by_cases c38 : c < (128 : Int32)
  · -- True
    refine own_to (s₁.setTop (mkF m 7 #[.val (.int c), .unset] [])) (fun t k => XS.icmpNo X0.here hx rfl (hb hby d2_4) rfl (tlt c38).2.1 k) ?_
    exact b7 (by rw [hr, own_2_0, if_pos c38])
  · -- False
    refine own_to (s₁.setTop (mkF m 49 #[.val (.int c), .unset] [])) (fun t k => XS.icmpYes X0.here hx rfl (pc0 := 4) (pc' := 49) rfl (hb hby d2_4) rfl (flt c38).2.1 (by decide) (by decide) k) ?_
    exact b49 (by rw [hr, own_2_0, if_neg c38])
def own_1_194 (c : Int32) : Int32 := (0 : Int32)
def own_1_190 (c : Int32) : Int32 := (1 : Int32)
def own_1_183 (c : Int32) : Int32 := if (983039 : Int32) < c then own_1_194 c else own_1_190 c
def own_1_177 (c : Int32) : Int32 := if c < (65536 : Int32) then own_1_194 c else own_1_183 c
def own_1_170 (c : Int32) : Int32 := if (65533 : Int32) < c then own_1_177 c else own_1_190 c
def own_1_163 (c : Int32) : Int32 := if c < (65008 : Int32) then own_1_177 c else own_1_170 c
def own_1_156 (c : Int32) : Int32 := if (64975 : Int32) < c then own_1_163 c else own_1_190 c
def own_1_149 (c : Int32) : Int32 := if c < (63744 : Int32) then own_1_163 c else own_1_156 c
def own_1_142 (c : Int32) : Int32 := if (55295 : Int32) < c then own_1_149 c else own_1_190 c
def own_1_135 (c : Int32) : Int32 := if c < (12289 : Int32) then own_1_149 c else own_1_142 c
def own_1_128 (c : Int32) : Int32 := if (12271 : Int32) < c then own_1_135 c else own_1_190 c
def own_1_121 (c : Int32) : Int32 := if c < (11264 : Int32) then own_1_135 c else own_1_128 c
def own_1_114 (c : Int32) : Int32 := if (8591 : Int32) < c then own_1_121 c else own_1_190 c
def own_1_107 (c : Int32) : Int32 := if c < (8304 : Int32) then own_1_121 c else own_1_114 c
def own_1_100 (c : Int32) : Int32 := if (8205 : Int32) < c then own_1_107 c else own_1_190 c
def own_1_93 (c : Int32) : Int32 := if c < (8204 : Int32) then own_1_107 c else own_1_100 c
def own_1_86 (c : Int32) : Int32 := if (8191 : Int32) < c then own_1_93 c else own_1_190 c
def own_1_79 (c : Int32) : Int32 := if c < (895 : Int32) then own_1_93 c else own_1_86 c
def own_1_72 (c : Int32) : Int32 := if (893 : Int32) < c then own_1_79 c else own_1_190 c
def own_1_65 (c : Int32) : Int32 := if c < (880 : Int32) then own_1_79 c else own_1_72 c
def own_1_58 (c : Int32) : Int32 := if (767 : Int32) < c then own_1_65 c else own_1_190 c
def own_1_51 (c : Int32) : Int32 := if c < (248 : Int32) then own_1_65 c else own_1_58 c
def own_1_44 (c : Int32) : Int32 := if (246 : Int32) < c then own_1_51 c else own_1_190 c
def own_1_37 (c : Int32) : Int32 := if c < (216 : Int32) then own_1_51 c else own_1_44 c
def own_1_30 (c : Int32) : Int32 := if (214 : Int32) < c then own_1_37 c else own_1_190 c
def own_1_23 (c : Int32) : Int32 := if c < (192 : Int32) then own_1_37 c else own_1_30 c
def own_1_21 (c : Int32) : Int32 := (0 : Int32)
def own_1_17 (c : Int32) : Int32 := (1 : Int32)
def own_1_7 (c : Int32) : Int32 := if ((own_nk c) &&& (1 : Int32)) = (0 : Int32) then own_1_21 c else own_1_17 c
def own_1_0 (c : Int32) : Int32 := if c < (128 : Int32) then own_1_7 c else own_1_23 c
theorem ef_1 (m : MethodId) (x0 : Int32) : entryFrame m #[(.int x0)] 1 = mkF m 0 #[.val (.int x0)] [] := by first | (simp [entryFrame, mkF, argsToLocals, Value.category]; done) | rfl
def Q1 (Z : State) (c : Int32) (nk : Addr) (cl : Cell) (h0 : Heap) (n0 : Nat) (v : Option Value) (h : Heap) (L : List Loc) : Prop := v = some (.int (own_1_0 c)) ∧ Fr n0 L ∧ h = h0
set_option maxRecDepth 65536 in
set_option maxHeartbeats 40000000 in
theorem rm1 (l : Launch) (Z : State) (a0 : Array Value) (hw : ∀ d ∈ tables_1, d.before a0 Z = true) (c : Int32) (nk : Addr) (cl : Cell) (h0 : Heap) (n0 : Nat) (Z0 : n0 ≤ h0.size) (S : Sta Z h0 "com/example/cabezal/cabezal/xml/XmlParser" "NAME_KIND" "[B" (.ref nk)) (A : Arr Z h0 nk cl .byte) (hnn : ¬ c < 0) (hat : ∀ j : Int32, ¬ j < 0 → j < 128 → ¬ (j < 0 ∨ cl.slots.size ≤ j.toNatClampNeg) ∧ cl.slots[j.toNatClampNeg]? = some (.int (own_nk j))) :
    own_Ct l Z (⟨"com/example/cabezal/cabezal/xml/XmlParser", "isNameStart", "(I)Z"⟩ : MethodName) prog_120_method_47_code 1 (some .boolean) ({ frames := 0, cells := 0, slots := 0, locals := 0 } : Room) #[(.int c)] h0 (Q1 Z c nk cl h0 n0) := by
  refine own_body pn_1 ?_
  intro p e s m below meth cd s₁ hx hZ hby hml hown hnm hret hk X0 e0
  have N0 := Fr.nil n0
  have b194 : own_1_0 c = own_1_194 c → own_Fin p e s below ({ frames := 0, cells := 0, slots := 0, locals := 0 } : Room) (Q1 Z c nk cl h0 n0) (s₁.setTop (mkF m 194 #[.val (.int c)] [])) := by
    intro hr
    refine own_to (s₁.setTop (mkF m 195 #[.val (.int c)] [(.int (0 : Int32))])) (fun t k => XT.iconstV X0.here hx rfl (0 : Int32) (hb hby d1_194) (by decide) k) ?_
    exact own_retZ X0 hx hret hk (i' := (0 : Int32)) (hb hby d1_195) (by decide) (by decide) (by decide) ⟨by rw [hr, own_1_194], N0, e0⟩
  have b190 : own_1_0 c = own_1_190 c → own_Fin p e s below ({ frames := 0, cells := 0, slots := 0, locals := 0 } : Room) (Q1 Z c nk cl h0 n0) (s₁.setTop (mkF m 190 #[.val (.int c)] [])) := by
    intro hr
    refine own_to (s₁.setTop (mkF m 191 #[.val (.int c)] [(.int (1 : Int32))])) (fun t k => XT.iconstV X0.here hx rfl (1 : Int32) (hb hby d1_190) (by decide) k) ?_
    refine own_to (s₁.setTop (mkF m 195 #[.val (.int c)] [(.int (1 : Int32))])) (fun t k => XS.goto X0.here hx rfl (pc0 := 191) (pc' := 195) rfl (hb hby d1_191) (by decide) (by decide) k) ?_
    exact own_retZ X0 hx hret hk (i' := (1 : Int32)) (hb hby d1_195) (by decide) (by decide) (by decide) ⟨by rw [hr, own_1_190], N0, e0⟩
  have b183 : own_1_0 c = own_1_183 c → own_Fin p e s below ({ frames := 0, cells := 0, slots := 0, locals := 0 } : Room) (Q1 Z c nk cl h0 n0) (s₁.setTop (mkF m 183 #[.val (.int c)] [])) := by
    intro hr
    refine own_to (s₁.setTop (mkF m 184 #[.val (.int c)] [(.int c)])) (fun t k => XS.iloadN X0.here hx rfl (hb hby d1_183) rfl k) ?_
    refine own_to (s₁.setTop (mkF m 187 #[.val (.int c)] [(.int (983039 : Int32)), (.int c)])) (fun t k => X0.ldcWI hx hown (mvT hZ (hw _ (List.mem_of_getElem? (i := 25) rfl))) rfl (hb hby d1_184) k) ?_
    by_cases c11 : (983039 : Int32) < c
    · -- True
      refine own_to (s₁.setTop (mkF m 194 #[.val (.int c)] [])) (fun t k => XS.icmpYes X0.here hx rfl (pc0 := 187) (pc' := 194) rfl (hb hby d1_187) rfl (tlt c11).2.2.1 (by decide) (by decide) k) ?_
      exact b194 (by rw [hr, own_1_183, if_pos c11])
    · -- False
      refine own_to (s₁.setTop (mkF m 190 #[.val (.int c)] [])) (fun t k => XS.icmpNo X0.here hx rfl (hb hby d1_187) rfl (flt c11).2.2.1 k) ?_
      exact b190 (by rw [hr, own_1_183, if_neg c11])
  have b177 : own_1_0 c = own_1_177 c → own_Fin p e s below ({ frames := 0, cells := 0, slots := 0, locals := 0 } : Room) (Q1 Z c nk cl h0 n0) (s₁.setTop (mkF m 177 #[.val (.int c)] [])) := by
    intro hr
    refine own_to (s₁.setTop (mkF m 178 #[.val (.int c)] [(.int c)])) (fun t k => XS.iloadN X0.here hx rfl (hb hby d1_177) rfl k) ?_
    refine own_to (s₁.setTop (mkF m 180 #[.val (.int c)] [(.int (65536 : Int32)), (.int c)])) (fun t k => X0.ldcI hx hown (mvT hZ (hw _ (List.mem_of_getElem? (i := 24) rfl))) rfl (hb hby d1_178) k) ?_
    by_cases c12 : c < (65536 : Int32)
    · -- True
      refine own_to (s₁.setTop (mkF m 194 #[.val (.int c)] [])) (fun t k => XS.icmpYes X0.here hx rfl (pc0 := 180) (pc' := 194) rfl (hb hby d1_180) rfl (tlt c12).1 (by decide) (by decide) k) ?_
      exact b194 (by rw [hr, own_1_177, if_pos c12])
    · -- False
      refine own_to (s₁.setTop (mkF m 183 #[.val (.int c)] [])) (fun t k => XS.icmpNo X0.here hx rfl (hb hby d1_180) rfl (flt c12).1 k) ?_
      exact b183 (by rw [hr, own_1_177, if_neg c12])
  have b170 : own_1_0 c = own_1_170 c → own_Fin p e s below ({ frames := 0, cells := 0, slots := 0, locals := 0 } : Room) (Q1 Z c nk cl h0 n0) (s₁.setTop (mkF m 170 #[.val (.int c)] [])) := by
    intro hr
    refine own_to (s₁.setTop (mkF m 171 #[.val (.int c)] [(.int c)])) (fun t k => XS.iloadN X0.here hx rfl (hb hby d1_170) rfl k) ?_
    refine own_to (s₁.setTop (mkF m 174 #[.val (.int c)] [(.int (65533 : Int32)), (.int c)])) (fun t k => X0.ldcWI hx hown (mvT hZ (hw _ (List.mem_of_getElem? (i := 16) rfl))) rfl (hb hby d1_171) k) ?_
    by_cases c13 : (65533 : Int32) < c
    · -- True
      refine own_to (s₁.setTop (mkF m 177 #[.val (.int c)] [])) (fun t k => XS.icmpNo X0.here hx rfl (hb hby d1_174) rfl (tlt c13).2.2.2 k) ?_
      exact b177 (by rw [hr, own_1_170, if_pos c13])
    · -- False
      refine own_to (s₁.setTop (mkF m 190 #[.val (.int c)] [])) (fun t k => XS.icmpYes X0.here hx rfl (pc0 := 174) (pc' := 190) rfl (hb hby d1_174) rfl (flt c13).2.2.2 (by decide) (by decide) k) ?_
      exact b190 (by rw [hr, own_1_170, if_neg c13])
  have b163 : own_1_0 c = own_1_163 c → own_Fin p e s below ({ frames := 0, cells := 0, slots := 0, locals := 0 } : Room) (Q1 Z c nk cl h0 n0) (s₁.setTop (mkF m 163 #[.val (.int c)] [])) := by
    intro hr
    refine own_to (s₁.setTop (mkF m 164 #[.val (.int c)] [(.int c)])) (fun t k => XS.iloadN X0.here hx rfl (hb hby d1_163) rfl k) ?_
    refine own_to (s₁.setTop (mkF m 167 #[.val (.int c)] [(.int (65008 : Int32)), (.int c)])) (fun t k => X0.ldcWI hx hown (mvT hZ (hw _ (List.mem_of_getElem? (i := 15) rfl))) rfl (hb hby d1_164) k) ?_
    by_cases c14 : c < (65008 : Int32)
    · -- True
      refine own_to (s₁.setTop (mkF m 177 #[.val (.int c)] [])) (fun t k => XS.icmpYes X0.here hx rfl (pc0 := 167) (pc' := 177) rfl (hb hby d1_167) rfl (tlt c14).1 (by decide) (by decide) k) ?_
      exact b177 (by rw [hr, own_1_163, if_pos c14])
    · -- False
      refine own_to (s₁.setTop (mkF m 170 #[.val (.int c)] [])) (fun t k => XS.icmpNo X0.here hx rfl (hb hby d1_167) rfl (flt c14).1 k) ?_
      exact b170 (by rw [hr, own_1_163, if_neg c14])
  have b156 : own_1_0 c = own_1_156 c → own_Fin p e s below ({ frames := 0, cells := 0, slots := 0, locals := 0 } : Room) (Q1 Z c nk cl h0 n0) (s₁.setTop (mkF m 156 #[.val (.int c)] [])) := by
    intro hr
    refine own_to (s₁.setTop (mkF m 157 #[.val (.int c)] [(.int c)])) (fun t k => XS.iloadN X0.here hx rfl (hb hby d1_156) rfl k) ?_
    refine own_to (s₁.setTop (mkF m 160 #[.val (.int c)] [(.int (64975 : Int32)), (.int c)])) (fun t k => X0.ldcWI hx hown (mvT hZ (hw _ (List.mem_of_getElem? (i := 14) rfl))) rfl (hb hby d1_157) k) ?_
    by_cases c15 : (64975 : Int32) < c
    · -- True
      refine own_to (s₁.setTop (mkF m 163 #[.val (.int c)] [])) (fun t k => XS.icmpNo X0.here hx rfl (hb hby d1_160) rfl (tlt c15).2.2.2 k) ?_
      exact b163 (by rw [hr, own_1_156, if_pos c15])
    · -- False
      refine own_to (s₁.setTop (mkF m 190 #[.val (.int c)] [])) (fun t k => XS.icmpYes X0.here hx rfl (pc0 := 160) (pc' := 190) rfl (hb hby d1_160) rfl (flt c15).2.2.2 (by decide) (by decide) k) ?_
      exact b190 (by rw [hr, own_1_156, if_neg c15])
  have b149 : own_1_0 c = own_1_149 c → own_Fin p e s below ({ frames := 0, cells := 0, slots := 0, locals := 0 } : Room) (Q1 Z c nk cl h0 n0) (s₁.setTop (mkF m 149 #[.val (.int c)] [])) := by
    intro hr
    refine own_to (s₁.setTop (mkF m 150 #[.val (.int c)] [(.int c)])) (fun t k => XS.iloadN X0.here hx rfl (hb hby d1_149) rfl k) ?_
    refine own_to (s₁.setTop (mkF m 153 #[.val (.int c)] [(.int (63744 : Int32)), (.int c)])) (fun t k => X0.ldcWI hx hown (mvT hZ (hw _ (List.mem_of_getElem? (i := 13) rfl))) rfl (hb hby d1_150) k) ?_
    by_cases c16 : c < (63744 : Int32)
    · -- True
      refine own_to (s₁.setTop (mkF m 163 #[.val (.int c)] [])) (fun t k => XS.icmpYes X0.here hx rfl (pc0 := 153) (pc' := 163) rfl (hb hby d1_153) rfl (tlt c16).1 (by decide) (by decide) k) ?_
      exact b163 (by rw [hr, own_1_149, if_pos c16])
    · -- False
      refine own_to (s₁.setTop (mkF m 156 #[.val (.int c)] [])) (fun t k => XS.icmpNo X0.here hx rfl (hb hby d1_153) rfl (flt c16).1 k) ?_
      exact b156 (by rw [hr, own_1_149, if_neg c16])
  have b142 : own_1_0 c = own_1_142 c → own_Fin p e s below ({ frames := 0, cells := 0, slots := 0, locals := 0 } : Room) (Q1 Z c nk cl h0 n0) (s₁.setTop (mkF m 142 #[.val (.int c)] [])) := by
    intro hr
    refine own_to (s₁.setTop (mkF m 143 #[.val (.int c)] [(.int c)])) (fun t k => XS.iloadN X0.here hx rfl (hb hby d1_142) rfl k) ?_
    refine own_to (s₁.setTop (mkF m 146 #[.val (.int c)] [(.int (55295 : Int32)), (.int c)])) (fun t k => X0.ldcWI hx hown (mvT hZ (hw _ (List.mem_of_getElem? (i := 12) rfl))) rfl (hb hby d1_143) k) ?_
    by_cases c17 : (55295 : Int32) < c
    · -- True
      refine own_to (s₁.setTop (mkF m 149 #[.val (.int c)] [])) (fun t k => XS.icmpNo X0.here hx rfl (hb hby d1_146) rfl (tlt c17).2.2.2 k) ?_
      exact b149 (by rw [hr, own_1_142, if_pos c17])
    · -- False
      refine own_to (s₁.setTop (mkF m 190 #[.val (.int c)] [])) (fun t k => XS.icmpYes X0.here hx rfl (pc0 := 146) (pc' := 190) rfl (hb hby d1_146) rfl (flt c17).2.2.2 (by decide) (by decide) k) ?_
      exact b190 (by rw [hr, own_1_142, if_neg c17])
  have b135 : own_1_0 c = own_1_135 c → own_Fin p e s below ({ frames := 0, cells := 0, slots := 0, locals := 0 } : Room) (Q1 Z c nk cl h0 n0) (s₁.setTop (mkF m 135 #[.val (.int c)] [])) := by
    intro hr
    refine own_to (s₁.setTop (mkF m 136 #[.val (.int c)] [(.int c)])) (fun t k => XS.iloadN X0.here hx rfl (hb hby d1_135) rfl k) ?_
    refine own_to (s₁.setTop (mkF m 139 #[.val (.int c)] [(.int (12289 : Int32)), (.int c)])) (fun t k => XT.sipushV X0.here hx rfl (12289 : Int32) (hb hby d1_136) (by decide) k) ?_
    by_cases c18 : c < (12289 : Int32)
    · -- True
      refine own_to (s₁.setTop (mkF m 149 #[.val (.int c)] [])) (fun t k => XS.icmpYes X0.here hx rfl (pc0 := 139) (pc' := 149) rfl (hb hby d1_139) rfl (tlt c18).1 (by decide) (by decide) k) ?_
      exact b149 (by rw [hr, own_1_135, if_pos c18])
    · -- False
      refine own_to (s₁.setTop (mkF m 142 #[.val (.int c)] [])) (fun t k => XS.icmpNo X0.here hx rfl (hb hby d1_139) rfl (flt c18).1 k) ?_
      exact b142 (by rw [hr, own_1_135, if_neg c18])
  have b128 : own_1_0 c = own_1_128 c → own_Fin p e s below ({ frames := 0, cells := 0, slots := 0, locals := 0 } : Room) (Q1 Z c nk cl h0 n0) (s₁.setTop (mkF m 128 #[.val (.int c)] [])) := by
    intro hr
    refine own_to (s₁.setTop (mkF m 129 #[.val (.int c)] [(.int c)])) (fun t k => XS.iloadN X0.here hx rfl (hb hby d1_128) rfl k) ?_
    refine own_to (s₁.setTop (mkF m 132 #[.val (.int c)] [(.int (12271 : Int32)), (.int c)])) (fun t k => XT.sipushV X0.here hx rfl (12271 : Int32) (hb hby d1_129) (by decide) k) ?_
    by_cases c19 : (12271 : Int32) < c
    · -- True
      refine own_to (s₁.setTop (mkF m 135 #[.val (.int c)] [])) (fun t k => XS.icmpNo X0.here hx rfl (hb hby d1_132) rfl (tlt c19).2.2.2 k) ?_
      exact b135 (by rw [hr, own_1_128, if_pos c19])
    · -- False
      refine own_to (s₁.setTop (mkF m 190 #[.val (.int c)] [])) (fun t k => XS.icmpYes X0.here hx rfl (pc0 := 132) (pc' := 190) rfl (hb hby d1_132) rfl (flt c19).2.2.2 (by decide) (by decide) k) ?_
      exact b190 (by rw [hr, own_1_128, if_neg c19])
  have b121 : own_1_0 c = own_1_121 c → own_Fin p e s below ({ frames := 0, cells := 0, slots := 0, locals := 0 } : Room) (Q1 Z c nk cl h0 n0) (s₁.setTop (mkF m 121 #[.val (.int c)] [])) := by
    intro hr
    refine own_to (s₁.setTop (mkF m 122 #[.val (.int c)] [(.int c)])) (fun t k => XS.iloadN X0.here hx rfl (hb hby d1_121) rfl k) ?_
    refine own_to (s₁.setTop (mkF m 125 #[.val (.int c)] [(.int (11264 : Int32)), (.int c)])) (fun t k => XT.sipushV X0.here hx rfl (11264 : Int32) (hb hby d1_122) (by decide) k) ?_
    by_cases c20 : c < (11264 : Int32)
    · -- True
      refine own_to (s₁.setTop (mkF m 135 #[.val (.int c)] [])) (fun t k => XS.icmpYes X0.here hx rfl (pc0 := 125) (pc' := 135) rfl (hb hby d1_125) rfl (tlt c20).1 (by decide) (by decide) k) ?_
      exact b135 (by rw [hr, own_1_121, if_pos c20])
    · -- False
      refine own_to (s₁.setTop (mkF m 128 #[.val (.int c)] [])) (fun t k => XS.icmpNo X0.here hx rfl (hb hby d1_125) rfl (flt c20).1 k) ?_
      exact b128 (by rw [hr, own_1_121, if_neg c20])
  have b114 : own_1_0 c = own_1_114 c → own_Fin p e s below ({ frames := 0, cells := 0, slots := 0, locals := 0 } : Room) (Q1 Z c nk cl h0 n0) (s₁.setTop (mkF m 114 #[.val (.int c)] [])) := by
    intro hr
    refine own_to (s₁.setTop (mkF m 115 #[.val (.int c)] [(.int c)])) (fun t k => XS.iloadN X0.here hx rfl (hb hby d1_114) rfl k) ?_
    refine own_to (s₁.setTop (mkF m 118 #[.val (.int c)] [(.int (8591 : Int32)), (.int c)])) (fun t k => XT.sipushV X0.here hx rfl (8591 : Int32) (hb hby d1_115) (by decide) k) ?_
    by_cases c21 : (8591 : Int32) < c
    · -- True
      refine own_to (s₁.setTop (mkF m 121 #[.val (.int c)] [])) (fun t k => XS.icmpNo X0.here hx rfl (hb hby d1_118) rfl (tlt c21).2.2.2 k) ?_
      exact b121 (by rw [hr, own_1_114, if_pos c21])
    · -- False
      refine own_to (s₁.setTop (mkF m 190 #[.val (.int c)] [])) (fun t k => XS.icmpYes X0.here hx rfl (pc0 := 118) (pc' := 190) rfl (hb hby d1_118) rfl (flt c21).2.2.2 (by decide) (by decide) k) ?_
      exact b190 (by rw [hr, own_1_114, if_neg c21])
  have b107 : own_1_0 c = own_1_107 c → own_Fin p e s below ({ frames := 0, cells := 0, slots := 0, locals := 0 } : Room) (Q1 Z c nk cl h0 n0) (s₁.setTop (mkF m 107 #[.val (.int c)] [])) := by
    intro hr
    refine own_to (s₁.setTop (mkF m 108 #[.val (.int c)] [(.int c)])) (fun t k => XS.iloadN X0.here hx rfl (hb hby d1_107) rfl k) ?_
    refine own_to (s₁.setTop (mkF m 111 #[.val (.int c)] [(.int (8304 : Int32)), (.int c)])) (fun t k => XT.sipushV X0.here hx rfl (8304 : Int32) (hb hby d1_108) (by decide) k) ?_
    by_cases c22 : c < (8304 : Int32)
    · -- True
      refine own_to (s₁.setTop (mkF m 121 #[.val (.int c)] [])) (fun t k => XS.icmpYes X0.here hx rfl (pc0 := 111) (pc' := 121) rfl (hb hby d1_111) rfl (tlt c22).1 (by decide) (by decide) k) ?_
      exact b121 (by rw [hr, own_1_107, if_pos c22])
    · -- False
      refine own_to (s₁.setTop (mkF m 114 #[.val (.int c)] [])) (fun t k => XS.icmpNo X0.here hx rfl (hb hby d1_111) rfl (flt c22).1 k) ?_
      exact b114 (by rw [hr, own_1_107, if_neg c22])
  have b100 : own_1_0 c = own_1_100 c → own_Fin p e s below ({ frames := 0, cells := 0, slots := 0, locals := 0 } : Room) (Q1 Z c nk cl h0 n0) (s₁.setTop (mkF m 100 #[.val (.int c)] [])) := by
    intro hr
    refine own_to (s₁.setTop (mkF m 101 #[.val (.int c)] [(.int c)])) (fun t k => XS.iloadN X0.here hx rfl (hb hby d1_100) rfl k) ?_
    refine own_to (s₁.setTop (mkF m 104 #[.val (.int c)] [(.int (8205 : Int32)), (.int c)])) (fun t k => XT.sipushV X0.here hx rfl (8205 : Int32) (hb hby d1_101) (by decide) k) ?_
    by_cases c23 : (8205 : Int32) < c
    · -- True
      refine own_to (s₁.setTop (mkF m 107 #[.val (.int c)] [])) (fun t k => XS.icmpNo X0.here hx rfl (hb hby d1_104) rfl (tlt c23).2.2.2 k) ?_
      exact b107 (by rw [hr, own_1_100, if_pos c23])
    · -- False
      refine own_to (s₁.setTop (mkF m 190 #[.val (.int c)] [])) (fun t k => XS.icmpYes X0.here hx rfl (pc0 := 104) (pc' := 190) rfl (hb hby d1_104) rfl (flt c23).2.2.2 (by decide) (by decide) k) ?_
      exact b190 (by rw [hr, own_1_100, if_neg c23])
  have b93 : own_1_0 c = own_1_93 c → own_Fin p e s below ({ frames := 0, cells := 0, slots := 0, locals := 0 } : Room) (Q1 Z c nk cl h0 n0) (s₁.setTop (mkF m 93 #[.val (.int c)] [])) := by
    intro hr
    refine own_to (s₁.setTop (mkF m 94 #[.val (.int c)] [(.int c)])) (fun t k => XS.iloadN X0.here hx rfl (hb hby d1_93) rfl k) ?_
    refine own_to (s₁.setTop (mkF m 97 #[.val (.int c)] [(.int (8204 : Int32)), (.int c)])) (fun t k => XT.sipushV X0.here hx rfl (8204 : Int32) (hb hby d1_94) (by decide) k) ?_
    by_cases c24 : c < (8204 : Int32)
    · -- True
      refine own_to (s₁.setTop (mkF m 107 #[.val (.int c)] [])) (fun t k => XS.icmpYes X0.here hx rfl (pc0 := 97) (pc' := 107) rfl (hb hby d1_97) rfl (tlt c24).1 (by decide) (by decide) k) ?_
      exact b107 (by rw [hr, own_1_93, if_pos c24])
    · -- False
      refine own_to (s₁.setTop (mkF m 100 #[.val (.int c)] [])) (fun t k => XS.icmpNo X0.here hx rfl (hb hby d1_97) rfl (flt c24).1 k) ?_
      exact b100 (by rw [hr, own_1_93, if_neg c24])
  have b86 : own_1_0 c = own_1_86 c → own_Fin p e s below ({ frames := 0, cells := 0, slots := 0, locals := 0 } : Room) (Q1 Z c nk cl h0 n0) (s₁.setTop (mkF m 86 #[.val (.int c)] [])) := by
    intro hr
    refine own_to (s₁.setTop (mkF m 87 #[.val (.int c)] [(.int c)])) (fun t k => XS.iloadN X0.here hx rfl (hb hby d1_86) rfl k) ?_
    refine own_to (s₁.setTop (mkF m 90 #[.val (.int c)] [(.int (8191 : Int32)), (.int c)])) (fun t k => XT.sipushV X0.here hx rfl (8191 : Int32) (hb hby d1_87) (by decide) k) ?_
    by_cases c25 : (8191 : Int32) < c
    · -- True
      refine own_to (s₁.setTop (mkF m 93 #[.val (.int c)] [])) (fun t k => XS.icmpNo X0.here hx rfl (hb hby d1_90) rfl (tlt c25).2.2.2 k) ?_
      exact b93 (by rw [hr, own_1_86, if_pos c25])
    · -- False
      refine own_to (s₁.setTop (mkF m 190 #[.val (.int c)] [])) (fun t k => XS.icmpYes X0.here hx rfl (pc0 := 90) (pc' := 190) rfl (hb hby d1_90) rfl (flt c25).2.2.2 (by decide) (by decide) k) ?_
      exact b190 (by rw [hr, own_1_86, if_neg c25])
  have b79 : own_1_0 c = own_1_79 c → own_Fin p e s below ({ frames := 0, cells := 0, slots := 0, locals := 0 } : Room) (Q1 Z c nk cl h0 n0) (s₁.setTop (mkF m 79 #[.val (.int c)] [])) := by
    intro hr
    refine own_to (s₁.setTop (mkF m 80 #[.val (.int c)] [(.int c)])) (fun t k => XS.iloadN X0.here hx rfl (hb hby d1_79) rfl k) ?_
    refine own_to (s₁.setTop (mkF m 83 #[.val (.int c)] [(.int (895 : Int32)), (.int c)])) (fun t k => XT.sipushV X0.here hx rfl (895 : Int32) (hb hby d1_80) (by decide) k) ?_
    by_cases c26 : c < (895 : Int32)
    · -- True
      refine own_to (s₁.setTop (mkF m 93 #[.val (.int c)] [])) (fun t k => XS.icmpYes X0.here hx rfl (pc0 := 83) (pc' := 93) rfl (hb hby d1_83) rfl (tlt c26).1 (by decide) (by decide) k) ?_
      exact b93 (by rw [hr, own_1_79, if_pos c26])
    · -- False
      refine own_to (s₁.setTop (mkF m 86 #[.val (.int c)] [])) (fun t k => XS.icmpNo X0.here hx rfl (hb hby d1_83) rfl (flt c26).1 k) ?_
      exact b86 (by rw [hr, own_1_79, if_neg c26])
  have b72 : own_1_0 c = own_1_72 c → own_Fin p e s below ({ frames := 0, cells := 0, slots := 0, locals := 0 } : Room) (Q1 Z c nk cl h0 n0) (s₁.setTop (mkF m 72 #[.val (.int c)] [])) := by
    intro hr
    refine own_to (s₁.setTop (mkF m 73 #[.val (.int c)] [(.int c)])) (fun t k => XS.iloadN X0.here hx rfl (hb hby d1_72) rfl k) ?_
    refine own_to (s₁.setTop (mkF m 76 #[.val (.int c)] [(.int (893 : Int32)), (.int c)])) (fun t k => XT.sipushV X0.here hx rfl (893 : Int32) (hb hby d1_73) (by decide) k) ?_
    by_cases c27 : (893 : Int32) < c
    · -- True
      refine own_to (s₁.setTop (mkF m 79 #[.val (.int c)] [])) (fun t k => XS.icmpNo X0.here hx rfl (hb hby d1_76) rfl (tlt c27).2.2.2 k) ?_
      exact b79 (by rw [hr, own_1_72, if_pos c27])
    · -- False
      refine own_to (s₁.setTop (mkF m 190 #[.val (.int c)] [])) (fun t k => XS.icmpYes X0.here hx rfl (pc0 := 76) (pc' := 190) rfl (hb hby d1_76) rfl (flt c27).2.2.2 (by decide) (by decide) k) ?_
      exact b190 (by rw [hr, own_1_72, if_neg c27])
  have b65 : own_1_0 c = own_1_65 c → own_Fin p e s below ({ frames := 0, cells := 0, slots := 0, locals := 0 } : Room) (Q1 Z c nk cl h0 n0) (s₁.setTop (mkF m 65 #[.val (.int c)] [])) := by
    intro hr
    refine own_to (s₁.setTop (mkF m 66 #[.val (.int c)] [(.int c)])) (fun t k => XS.iloadN X0.here hx rfl (hb hby d1_65) rfl k) ?_
    refine own_to (s₁.setTop (mkF m 69 #[.val (.int c)] [(.int (880 : Int32)), (.int c)])) (fun t k => XT.sipushV X0.here hx rfl (880 : Int32) (hb hby d1_66) (by decide) k) ?_
    by_cases c28 : c < (880 : Int32)
    · -- True
      refine own_to (s₁.setTop (mkF m 79 #[.val (.int c)] [])) (fun t k => XS.icmpYes X0.here hx rfl (pc0 := 69) (pc' := 79) rfl (hb hby d1_69) rfl (tlt c28).1 (by decide) (by decide) k) ?_
      exact b79 (by rw [hr, own_1_65, if_pos c28])
    · -- False
      refine own_to (s₁.setTop (mkF m 72 #[.val (.int c)] [])) (fun t k => XS.icmpNo X0.here hx rfl (hb hby d1_69) rfl (flt c28).1 k) ?_
      exact b72 (by rw [hr, own_1_65, if_neg c28])
  have b58 : own_1_0 c = own_1_58 c → own_Fin p e s below ({ frames := 0, cells := 0, slots := 0, locals := 0 } : Room) (Q1 Z c nk cl h0 n0) (s₁.setTop (mkF m 58 #[.val (.int c)] [])) := by
    intro hr
    refine own_to (s₁.setTop (mkF m 59 #[.val (.int c)] [(.int c)])) (fun t k => XS.iloadN X0.here hx rfl (hb hby d1_58) rfl k) ?_
    refine own_to (s₁.setTop (mkF m 62 #[.val (.int c)] [(.int (767 : Int32)), (.int c)])) (fun t k => XT.sipushV X0.here hx rfl (767 : Int32) (hb hby d1_59) (by decide) k) ?_
    by_cases c29 : (767 : Int32) < c
    · -- True
      refine own_to (s₁.setTop (mkF m 65 #[.val (.int c)] [])) (fun t k => XS.icmpNo X0.here hx rfl (hb hby d1_62) rfl (tlt c29).2.2.2 k) ?_
      exact b65 (by rw [hr, own_1_58, if_pos c29])
    · -- False
      refine own_to (s₁.setTop (mkF m 190 #[.val (.int c)] [])) (fun t k => XS.icmpYes X0.here hx rfl (pc0 := 62) (pc' := 190) rfl (hb hby d1_62) rfl (flt c29).2.2.2 (by decide) (by decide) k) ?_
      exact b190 (by rw [hr, own_1_58, if_neg c29])
  have b51 : own_1_0 c = own_1_51 c → own_Fin p e s below ({ frames := 0, cells := 0, slots := 0, locals := 0 } : Room) (Q1 Z c nk cl h0 n0) (s₁.setTop (mkF m 51 #[.val (.int c)] [])) := by
    intro hr
    refine own_to (s₁.setTop (mkF m 52 #[.val (.int c)] [(.int c)])) (fun t k => XS.iloadN X0.here hx rfl (hb hby d1_51) rfl k) ?_
    refine own_to (s₁.setTop (mkF m 55 #[.val (.int c)] [(.int (248 : Int32)), (.int c)])) (fun t k => XT.sipushV X0.here hx rfl (248 : Int32) (hb hby d1_52) (by decide) k) ?_
    by_cases c30 : c < (248 : Int32)
    · -- True
      refine own_to (s₁.setTop (mkF m 65 #[.val (.int c)] [])) (fun t k => XS.icmpYes X0.here hx rfl (pc0 := 55) (pc' := 65) rfl (hb hby d1_55) rfl (tlt c30).1 (by decide) (by decide) k) ?_
      exact b65 (by rw [hr, own_1_51, if_pos c30])
    · -- False
      refine own_to (s₁.setTop (mkF m 58 #[.val (.int c)] [])) (fun t k => XS.icmpNo X0.here hx rfl (hb hby d1_55) rfl (flt c30).1 k) ?_
      exact b58 (by rw [hr, own_1_51, if_neg c30])
  have b44 : own_1_0 c = own_1_44 c → own_Fin p e s below ({ frames := 0, cells := 0, slots := 0, locals := 0 } : Room) (Q1 Z c nk cl h0 n0) (s₁.setTop (mkF m 44 #[.val (.int c)] [])) := by
    intro hr
    refine own_to (s₁.setTop (mkF m 45 #[.val (.int c)] [(.int c)])) (fun t k => XS.iloadN X0.here hx rfl (hb hby d1_44) rfl k) ?_
    refine own_to (s₁.setTop (mkF m 48 #[.val (.int c)] [(.int (246 : Int32)), (.int c)])) (fun t k => XT.sipushV X0.here hx rfl (246 : Int32) (hb hby d1_45) (by decide) k) ?_
    by_cases c31 : (246 : Int32) < c
    · -- True
      refine own_to (s₁.setTop (mkF m 51 #[.val (.int c)] [])) (fun t k => XS.icmpNo X0.here hx rfl (hb hby d1_48) rfl (tlt c31).2.2.2 k) ?_
      exact b51 (by rw [hr, own_1_44, if_pos c31])
    · -- False
      refine own_to (s₁.setTop (mkF m 190 #[.val (.int c)] [])) (fun t k => XS.icmpYes X0.here hx rfl (pc0 := 48) (pc' := 190) rfl (hb hby d1_48) rfl (flt c31).2.2.2 (by decide) (by decide) k) ?_
      exact b190 (by rw [hr, own_1_44, if_neg c31])
  have b37 : own_1_0 c = own_1_37 c → own_Fin p e s below ({ frames := 0, cells := 0, slots := 0, locals := 0 } : Room) (Q1 Z c nk cl h0 n0) (s₁.setTop (mkF m 37 #[.val (.int c)] [])) := by
    intro hr
    refine own_to (s₁.setTop (mkF m 38 #[.val (.int c)] [(.int c)])) (fun t k => XS.iloadN X0.here hx rfl (hb hby d1_37) rfl k) ?_
    refine own_to (s₁.setTop (mkF m 41 #[.val (.int c)] [(.int (216 : Int32)), (.int c)])) (fun t k => XT.sipushV X0.here hx rfl (216 : Int32) (hb hby d1_38) (by decide) k) ?_
    by_cases c32 : c < (216 : Int32)
    · -- True
      refine own_to (s₁.setTop (mkF m 51 #[.val (.int c)] [])) (fun t k => XS.icmpYes X0.here hx rfl (pc0 := 41) (pc' := 51) rfl (hb hby d1_41) rfl (tlt c32).1 (by decide) (by decide) k) ?_
      exact b51 (by rw [hr, own_1_37, if_pos c32])
    · -- False
      refine own_to (s₁.setTop (mkF m 44 #[.val (.int c)] [])) (fun t k => XS.icmpNo X0.here hx rfl (hb hby d1_41) rfl (flt c32).1 k) ?_
      exact b44 (by rw [hr, own_1_37, if_neg c32])
  have b30 : own_1_0 c = own_1_30 c → own_Fin p e s below ({ frames := 0, cells := 0, slots := 0, locals := 0 } : Room) (Q1 Z c nk cl h0 n0) (s₁.setTop (mkF m 30 #[.val (.int c)] [])) := by
    intro hr
    refine own_to (s₁.setTop (mkF m 31 #[.val (.int c)] [(.int c)])) (fun t k => XS.iloadN X0.here hx rfl (hb hby d1_30) rfl k) ?_
    refine own_to (s₁.setTop (mkF m 34 #[.val (.int c)] [(.int (214 : Int32)), (.int c)])) (fun t k => XT.sipushV X0.here hx rfl (214 : Int32) (hb hby d1_31) (by decide) k) ?_
    by_cases c33 : (214 : Int32) < c
    · -- True
      refine own_to (s₁.setTop (mkF m 37 #[.val (.int c)] [])) (fun t k => XS.icmpNo X0.here hx rfl (hb hby d1_34) rfl (tlt c33).2.2.2 k) ?_
      exact b37 (by rw [hr, own_1_30, if_pos c33])
    · -- False
      refine own_to (s₁.setTop (mkF m 190 #[.val (.int c)] [])) (fun t k => XS.icmpYes X0.here hx rfl (pc0 := 34) (pc' := 190) rfl (hb hby d1_34) rfl (flt c33).2.2.2 (by decide) (by decide) k) ?_
      exact b190 (by rw [hr, own_1_30, if_neg c33])
  have b23 : own_1_0 c = own_1_23 c → own_Fin p e s below ({ frames := 0, cells := 0, slots := 0, locals := 0 } : Room) (Q1 Z c nk cl h0 n0) (s₁.setTop (mkF m 23 #[.val (.int c)] [])) := by
    intro hr
    refine own_to (s₁.setTop (mkF m 24 #[.val (.int c)] [(.int c)])) (fun t k => XS.iloadN X0.here hx rfl (hb hby d1_23) rfl k) ?_
    refine own_to (s₁.setTop (mkF m 27 #[.val (.int c)] [(.int (192 : Int32)), (.int c)])) (fun t k => XT.sipushV X0.here hx rfl (192 : Int32) (hb hby d1_24) (by decide) k) ?_
    by_cases c34 : c < (192 : Int32)
    · -- True
      refine own_to (s₁.setTop (mkF m 37 #[.val (.int c)] [])) (fun t k => XS.icmpYes X0.here hx rfl (pc0 := 27) (pc' := 37) rfl (hb hby d1_27) rfl (tlt c34).1 (by decide) (by decide) k) ?_
      exact b37 (by rw [hr, own_1_23, if_pos c34])
    · -- False
      refine own_to (s₁.setTop (mkF m 30 #[.val (.int c)] [])) (fun t k => XS.icmpNo X0.here hx rfl (hb hby d1_27) rfl (flt c34).1 k) ?_
      exact b30 (by rw [hr, own_1_23, if_neg c34])
  refine own_to (s₁.setTop (mkF m 0 #[.val (.int c)] [])) (fun t k => castTop (ef_1 m c) k) ?_
  have hr : own_1_0 c = own_1_0 c := rfl
  refine own_to (s₁.setTop (mkF m 1 #[.val (.int c)] [(.int c)])) (fun t k => XS.iloadN X0.here hx rfl (hb hby d1_0) rfl k) ?_
  refine own_to (s₁.setTop (mkF m 4 #[.val (.int c)] [(.int (128 : Int32)), (.int c)])) (fun t k => XT.sipushV X0.here hx rfl (128 : Int32) (hb hby d1_1) (by decide) k) ?_
  by_cases c35 : c < (128 : Int32)
  · -- True
    refine own_to (s₁.setTop (mkF m 7 #[.val (.int c)] [])) (fun t k => XS.icmpNo X0.here hx rfl (hb hby d1_4) rfl (tlt c35).2.1 k) ?_
    obtain ⟨T36, X36, e36, st36⟩ := getS (host := "") X0 hx hZ hown (hw _ (List.mem_of_getElem? (i := 5) rfl)) Via.refl e0 S (g := (mkF m 7 #[.val (.int c)] [])) rfl (hb hby d1_7)
    refine own_to (T36.setTop (mkF m 10 #[.val (.int c)] [(.ref nk)])) (fun t k => st36 t k) ?_
    refine own_to (T36.setTop (mkF m 11 #[.val (.int c)] [(.int c), (.ref nk)])) (fun t k => XS.iloadN X36.here hx rfl (hb hby d1_10) rfl k) ?_
    refine own_to (T36.setTop (mkF m 12 #[.val (.int c)] [(.int (own_nk c))])) (fun t k => X36.baloadBytes hx (j := c) (v := (.int (own_nk c))) (by rw [e36]; exact A.1) (State.isArrayOf_alike hZ.alike A.2.1) A.2.2 (hat c hnn c35).1 (hat c hnn c35).2 (g := (mkF m 11 #[.val (.int c)] [(.int c), (.ref nk)])) rfl rfl (hb hby d1_11) t k) ?_
    refine own_to (T36.setTop (mkF m 13 #[.val (.int c)] [(.int (1 : Int32)), (.int (own_nk c))])) (fun t k => XT.iconstV X36.here hx rfl (1 : Int32) (hb hby d1_12) (by decide) k) ?_
    refine own_to (T36.setTop (mkF m 14 #[.val (.int c)] [(.int ((own_nk c) &&& (1 : Int32)))])) (fun t k => XS.iand X36.here hx rfl (hb hby d1_13) rfl k) ?_
    by_cases c37 : ((own_nk c) &&& (1 : Int32)) = (0 : Int32)
    · -- True
      refine own_to (T36.setTop (mkF m 21 #[.val (.int c)] [])) (fun t k => XS.ifYes X36.here hx rfl (pc0 := 14) (pc' := 21) rfl (hb hby d1_14) rfl ((if0 _ _).trans (teq c37).1) (by decide) (by decide) k) ?_
      refine own_to (T36.setTop (mkF m 22 #[.val (.int c)] [(.int (0 : Int32))])) (fun t k => XT.iconstV X36.here hx rfl (0 : Int32) (hb hby d1_21) (by decide) k) ?_
      exact own_retZ X36 hx hret hk (i' := (0 : Int32)) (hb hby d1_22) (by decide) (by decide) (by decide) ⟨by rw [hr, own_1_0, if_pos c35, own_1_7, if_pos c37, own_1_21], N0, e36⟩
    · -- False
      refine own_to (T36.setTop (mkF m 17 #[.val (.int c)] [])) (fun t k => XS.ifNo X36.here hx rfl (hb hby d1_14) rfl ((if0 _ _).trans (feq c37).1) k) ?_
      refine own_to (T36.setTop (mkF m 18 #[.val (.int c)] [(.int (1 : Int32))])) (fun t k => XT.iconstV X36.here hx rfl (1 : Int32) (hb hby d1_17) (by decide) k) ?_
      refine own_to (T36.setTop (mkF m 22 #[.val (.int c)] [(.int (1 : Int32))])) (fun t k => XS.goto X36.here hx rfl (pc0 := 18) (pc' := 22) rfl (hb hby d1_18) (by decide) (by decide) k) ?_
      exact own_retZ X36 hx hret hk (i' := (1 : Int32)) (hb hby d1_22) (by decide) (by decide) (by decide) ⟨by rw [hr, own_1_0, if_pos c35, own_1_7, if_neg c37, own_1_17], N0, e36⟩
  · -- False
    refine own_to (s₁.setTop (mkF m 23 #[.val (.int c)] [])) (fun t k => XS.icmpYes X0.here hx rfl (pc0 := 4) (pc' := 23) rfl (hb hby d1_4) rfl (flt c35).2.1 (by decide) (by decide) k) ?_
    exact b23 (by rw [hr, own_1_0, if_neg c35])
theorem own_ltT {c k : Int32} {z : Int} (hk : k.toInt = z) (h : c.toInt < z) : c < k := by rw [Int32.lt_iff_toInt_lt, hk]; exact h
theorem own_ltF {c k : Int32} {z : Int} (hk : k.toInt = z) (h : z ≤ c.toInt) : ¬ c < k := by rw [Int32.lt_iff_toInt_lt, hk]; omega
theorem own_gtT {c k : Int32} {z : Int} (hk : k.toInt = z) (h : z < c.toInt) : k < c := by rw [Int32.lt_iff_toInt_lt, hk]; exact h
theorem own_gtF {c k : Int32} {z : Int} (hk : k.toInt = z) (h : c.toInt ≤ z) : ¬ k < c := by rw [Int32.lt_iff_toInt_lt, hk]; omega
theorem own_eqT {c k : Int32} {z : Int} (hk : k.toInt = z) (h : c.toInt = z) : c = k := Int32.toInt_inj.mp (h.trans hk.symm)
theorem own_eqF {c k : Int32} {z : Int} (hk : k.toInt = z) (h : c.toInt ≠ z) : ¬ c = k := fun e => h (by rw [e, hk])
theorem own_iv0 {c : Int32} (h : 128 ≤ c.toInt ∧ c.toInt ≤ 191) : own_1_23 c = own_2_49 c := by
  rw [own_1_23, if_pos (own_ltT (k := 192) (z := 192) rfl (by omega)), own_1_37, if_pos (own_ltT (k := 216) (z := 216) rfl (by omega)), own_1_51, if_pos (own_ltT (k := 248) (z := 248) rfl (by omega)), own_1_65, if_pos (own_ltT (k := 880) (z := 880) rfl (by omega)), own_1_79, if_pos (own_ltT (k := 895) (z := 895) rfl (by omega)), own_1_93, if_pos (own_ltT (k := 8204) (z := 8204) rfl (by omega)), own_1_107, if_pos (own_ltT (k := 8304) (z := 8304) rfl (by omega)), own_1_121, if_pos (own_ltT (k := 11264) (z := 11264) rfl (by omega)), own_1_135, if_pos (own_ltT (k := 12289) (z := 12289) rfl (by omega)), own_1_149, if_pos (own_ltT (k := 63744) (z := 63744) rfl (by omega)), own_1_163, if_pos (own_ltT (k := 65008) (z := 65008) rfl (by omega)), own_1_177, if_pos (own_ltT (k := 65536) (z := 65536) rfl (by omega)), own_1_194, own_2_49, if_neg (own_gtF (k := 191) (z := 191) rfl (by omega)), own_2_189]
theorem own_iv1 {c : Int32} (h : 192 ≤ c.toInt ∧ c.toInt ≤ 214) : own_1_23 c = own_2_49 c := by
  rw [own_1_23, if_neg (own_ltF (k := 192) (z := 192) rfl (by omega)), own_1_30, if_neg (own_gtF (k := 214) (z := 214) rfl (by omega)), own_1_190, own_2_49, if_pos (own_gtT (k := 191) (z := 191) rfl (by omega)), own_2_56, if_neg (own_eqF (k := 215) (z := 215) rfl (by omega)), own_2_63, if_neg (own_eqF (k := 247) (z := 247) rfl (by omega)), own_2_70, if_pos (own_ltT (k := 768) (z := 768) rfl (by omega)), own_2_84, if_neg (own_eqF (k := 894) (z := 894) rfl (by omega)), own_2_91, if_pos (own_ltT (k := 8192) (z := 8192) rfl (by omega)), own_2_105, if_pos (own_ltT (k := 8206) (z := 8206) rfl (by omega)), own_2_119, if_pos (own_ltT (k := 8592) (z := 8592) rfl (by omega)), own_2_133, if_pos (own_ltT (k := 12272) (z := 12272) rfl (by omega)), own_2_147, if_pos (own_ltT (k := 55296) (z := 55296) rfl (by omega)), own_2_159, if_pos (own_ltT (k := 64976) (z := 64976) rfl (by omega)), own_2_171, if_neg (own_eqF (k := 65534) (z := 65534) rfl (by omega)), own_2_177, if_neg (own_eqF (k := 65535) (z := 65535) rfl (by omega)), own_2_183, if_pos (own_ltT (k := 983040) (z := 983040) rfl (by omega)), own_2_193]
theorem own_iv2 {c : Int32} (h : 215 ≤ c.toInt ∧ c.toInt ≤ 215) : own_1_23 c = own_2_49 c := by
  rw [own_1_23, if_neg (own_ltF (k := 192) (z := 192) rfl (by omega)), own_1_30, if_pos (own_gtT (k := 214) (z := 214) rfl (by omega)), own_1_37, if_pos (own_ltT (k := 216) (z := 216) rfl (by omega)), own_1_51, if_pos (own_ltT (k := 248) (z := 248) rfl (by omega)), own_1_65, if_pos (own_ltT (k := 880) (z := 880) rfl (by omega)), own_1_79, if_pos (own_ltT (k := 895) (z := 895) rfl (by omega)), own_1_93, if_pos (own_ltT (k := 8204) (z := 8204) rfl (by omega)), own_1_107, if_pos (own_ltT (k := 8304) (z := 8304) rfl (by omega)), own_1_121, if_pos (own_ltT (k := 11264) (z := 11264) rfl (by omega)), own_1_135, if_pos (own_ltT (k := 12289) (z := 12289) rfl (by omega)), own_1_149, if_pos (own_ltT (k := 63744) (z := 63744) rfl (by omega)), own_1_163, if_pos (own_ltT (k := 65008) (z := 65008) rfl (by omega)), own_1_177, if_pos (own_ltT (k := 65536) (z := 65536) rfl (by omega)), own_1_194, own_2_49, if_pos (own_gtT (k := 191) (z := 191) rfl (by omega)), own_2_56, if_pos (own_eqT (k := 215) (z := 215) rfl (by omega)), own_2_189]
theorem own_iv3 {c : Int32} (h : 216 ≤ c.toInt ∧ c.toInt ≤ 246) : own_1_23 c = own_2_49 c := by
  rw [own_1_23, if_neg (own_ltF (k := 192) (z := 192) rfl (by omega)), own_1_30, if_pos (own_gtT (k := 214) (z := 214) rfl (by omega)), own_1_37, if_neg (own_ltF (k := 216) (z := 216) rfl (by omega)), own_1_44, if_neg (own_gtF (k := 246) (z := 246) rfl (by omega)), own_1_190, own_2_49, if_pos (own_gtT (k := 191) (z := 191) rfl (by omega)), own_2_56, if_neg (own_eqF (k := 215) (z := 215) rfl (by omega)), own_2_63, if_neg (own_eqF (k := 247) (z := 247) rfl (by omega)), own_2_70, if_pos (own_ltT (k := 768) (z := 768) rfl (by omega)), own_2_84, if_neg (own_eqF (k := 894) (z := 894) rfl (by omega)), own_2_91, if_pos (own_ltT (k := 8192) (z := 8192) rfl (by omega)), own_2_105, if_pos (own_ltT (k := 8206) (z := 8206) rfl (by omega)), own_2_119, if_pos (own_ltT (k := 8592) (z := 8592) rfl (by omega)), own_2_133, if_pos (own_ltT (k := 12272) (z := 12272) rfl (by omega)), own_2_147, if_pos (own_ltT (k := 55296) (z := 55296) rfl (by omega)), own_2_159, if_pos (own_ltT (k := 64976) (z := 64976) rfl (by omega)), own_2_171, if_neg (own_eqF (k := 65534) (z := 65534) rfl (by omega)), own_2_177, if_neg (own_eqF (k := 65535) (z := 65535) rfl (by omega)), own_2_183, if_pos (own_ltT (k := 983040) (z := 983040) rfl (by omega)), own_2_193]
theorem own_iv4 {c : Int32} (h : 247 ≤ c.toInt ∧ c.toInt ≤ 247) : own_1_23 c = own_2_49 c := by
  rw [own_1_23, if_neg (own_ltF (k := 192) (z := 192) rfl (by omega)), own_1_30, if_pos (own_gtT (k := 214) (z := 214) rfl (by omega)), own_1_37, if_neg (own_ltF (k := 216) (z := 216) rfl (by omega)), own_1_44, if_pos (own_gtT (k := 246) (z := 246) rfl (by omega)), own_1_51, if_pos (own_ltT (k := 248) (z := 248) rfl (by omega)), own_1_65, if_pos (own_ltT (k := 880) (z := 880) rfl (by omega)), own_1_79, if_pos (own_ltT (k := 895) (z := 895) rfl (by omega)), own_1_93, if_pos (own_ltT (k := 8204) (z := 8204) rfl (by omega)), own_1_107, if_pos (own_ltT (k := 8304) (z := 8304) rfl (by omega)), own_1_121, if_pos (own_ltT (k := 11264) (z := 11264) rfl (by omega)), own_1_135, if_pos (own_ltT (k := 12289) (z := 12289) rfl (by omega)), own_1_149, if_pos (own_ltT (k := 63744) (z := 63744) rfl (by omega)), own_1_163, if_pos (own_ltT (k := 65008) (z := 65008) rfl (by omega)), own_1_177, if_pos (own_ltT (k := 65536) (z := 65536) rfl (by omega)), own_1_194, own_2_49, if_pos (own_gtT (k := 191) (z := 191) rfl (by omega)), own_2_56, if_neg (own_eqF (k := 215) (z := 215) rfl (by omega)), own_2_63, if_pos (own_eqT (k := 247) (z := 247) rfl (by omega)), own_2_189]
theorem own_iv5 {c : Int32} (h : 248 ≤ c.toInt ∧ c.toInt ≤ 767) : own_1_23 c = own_2_49 c := by
  rw [own_1_23, if_neg (own_ltF (k := 192) (z := 192) rfl (by omega)), own_1_30, if_pos (own_gtT (k := 214) (z := 214) rfl (by omega)), own_1_37, if_neg (own_ltF (k := 216) (z := 216) rfl (by omega)), own_1_44, if_pos (own_gtT (k := 246) (z := 246) rfl (by omega)), own_1_51, if_neg (own_ltF (k := 248) (z := 248) rfl (by omega)), own_1_58, if_neg (own_gtF (k := 767) (z := 767) rfl (by omega)), own_1_190, own_2_49, if_pos (own_gtT (k := 191) (z := 191) rfl (by omega)), own_2_56, if_neg (own_eqF (k := 215) (z := 215) rfl (by omega)), own_2_63, if_neg (own_eqF (k := 247) (z := 247) rfl (by omega)), own_2_70, if_pos (own_ltT (k := 768) (z := 768) rfl (by omega)), own_2_84, if_neg (own_eqF (k := 894) (z := 894) rfl (by omega)), own_2_91, if_pos (own_ltT (k := 8192) (z := 8192) rfl (by omega)), own_2_105, if_pos (own_ltT (k := 8206) (z := 8206) rfl (by omega)), own_2_119, if_pos (own_ltT (k := 8592) (z := 8592) rfl (by omega)), own_2_133, if_pos (own_ltT (k := 12272) (z := 12272) rfl (by omega)), own_2_147, if_pos (own_ltT (k := 55296) (z := 55296) rfl (by omega)), own_2_159, if_pos (own_ltT (k := 64976) (z := 64976) rfl (by omega)), own_2_171, if_neg (own_eqF (k := 65534) (z := 65534) rfl (by omega)), own_2_177, if_neg (own_eqF (k := 65535) (z := 65535) rfl (by omega)), own_2_183, if_pos (own_ltT (k := 983040) (z := 983040) rfl (by omega)), own_2_193]
theorem own_iv6 {c : Int32} (h : 768 ≤ c.toInt ∧ c.toInt ≤ 879) : own_1_23 c = own_2_49 c := by
  rw [own_1_23, if_neg (own_ltF (k := 192) (z := 192) rfl (by omega)), own_1_30, if_pos (own_gtT (k := 214) (z := 214) rfl (by omega)), own_1_37, if_neg (own_ltF (k := 216) (z := 216) rfl (by omega)), own_1_44, if_pos (own_gtT (k := 246) (z := 246) rfl (by omega)), own_1_51, if_neg (own_ltF (k := 248) (z := 248) rfl (by omega)), own_1_58, if_pos (own_gtT (k := 767) (z := 767) rfl (by omega)), own_1_65, if_pos (own_ltT (k := 880) (z := 880) rfl (by omega)), own_1_79, if_pos (own_ltT (k := 895) (z := 895) rfl (by omega)), own_1_93, if_pos (own_ltT (k := 8204) (z := 8204) rfl (by omega)), own_1_107, if_pos (own_ltT (k := 8304) (z := 8304) rfl (by omega)), own_1_121, if_pos (own_ltT (k := 11264) (z := 11264) rfl (by omega)), own_1_135, if_pos (own_ltT (k := 12289) (z := 12289) rfl (by omega)), own_1_149, if_pos (own_ltT (k := 63744) (z := 63744) rfl (by omega)), own_1_163, if_pos (own_ltT (k := 65008) (z := 65008) rfl (by omega)), own_1_177, if_pos (own_ltT (k := 65536) (z := 65536) rfl (by omega)), own_1_194, own_2_49, if_pos (own_gtT (k := 191) (z := 191) rfl (by omega)), own_2_56, if_neg (own_eqF (k := 215) (z := 215) rfl (by omega)), own_2_63, if_neg (own_eqF (k := 247) (z := 247) rfl (by omega)), own_2_70, if_neg (own_ltF (k := 768) (z := 768) rfl (by omega)), own_2_77, if_neg (own_gtF (k := 879) (z := 879) rfl (by omega)), own_2_189]
theorem own_iv7 {c : Int32} (h : 880 ≤ c.toInt ∧ c.toInt ≤ 893) : own_1_23 c = own_2_49 c := by
  rw [own_1_23, if_neg (own_ltF (k := 192) (z := 192) rfl (by omega)), own_1_30, if_pos (own_gtT (k := 214) (z := 214) rfl (by omega)), own_1_37, if_neg (own_ltF (k := 216) (z := 216) rfl (by omega)), own_1_44, if_pos (own_gtT (k := 246) (z := 246) rfl (by omega)), own_1_51, if_neg (own_ltF (k := 248) (z := 248) rfl (by omega)), own_1_58, if_pos (own_gtT (k := 767) (z := 767) rfl (by omega)), own_1_65, if_neg (own_ltF (k := 880) (z := 880) rfl (by omega)), own_1_72, if_neg (own_gtF (k := 893) (z := 893) rfl (by omega)), own_1_190, own_2_49, if_pos (own_gtT (k := 191) (z := 191) rfl (by omega)), own_2_56, if_neg (own_eqF (k := 215) (z := 215) rfl (by omega)), own_2_63, if_neg (own_eqF (k := 247) (z := 247) rfl (by omega)), own_2_70, if_neg (own_ltF (k := 768) (z := 768) rfl (by omega)), own_2_77, if_pos (own_gtT (k := 879) (z := 879) rfl (by omega)), own_2_84, if_neg (own_eqF (k := 894) (z := 894) rfl (by omega)), own_2_91, if_pos (own_ltT (k := 8192) (z := 8192) rfl (by omega)), own_2_105, if_pos (own_ltT (k := 8206) (z := 8206) rfl (by omega)), own_2_119, if_pos (own_ltT (k := 8592) (z := 8592) rfl (by omega)), own_2_133, if_pos (own_ltT (k := 12272) (z := 12272) rfl (by omega)), own_2_147, if_pos (own_ltT (k := 55296) (z := 55296) rfl (by omega)), own_2_159, if_pos (own_ltT (k := 64976) (z := 64976) rfl (by omega)), own_2_171, if_neg (own_eqF (k := 65534) (z := 65534) rfl (by omega)), own_2_177, if_neg (own_eqF (k := 65535) (z := 65535) rfl (by omega)), own_2_183, if_pos (own_ltT (k := 983040) (z := 983040) rfl (by omega)), own_2_193]
theorem own_iv8 {c : Int32} (h : 894 ≤ c.toInt ∧ c.toInt ≤ 894) : own_1_23 c = own_2_49 c := by
  rw [own_1_23, if_neg (own_ltF (k := 192) (z := 192) rfl (by omega)), own_1_30, if_pos (own_gtT (k := 214) (z := 214) rfl (by omega)), own_1_37, if_neg (own_ltF (k := 216) (z := 216) rfl (by omega)), own_1_44, if_pos (own_gtT (k := 246) (z := 246) rfl (by omega)), own_1_51, if_neg (own_ltF (k := 248) (z := 248) rfl (by omega)), own_1_58, if_pos (own_gtT (k := 767) (z := 767) rfl (by omega)), own_1_65, if_neg (own_ltF (k := 880) (z := 880) rfl (by omega)), own_1_72, if_pos (own_gtT (k := 893) (z := 893) rfl (by omega)), own_1_79, if_pos (own_ltT (k := 895) (z := 895) rfl (by omega)), own_1_93, if_pos (own_ltT (k := 8204) (z := 8204) rfl (by omega)), own_1_107, if_pos (own_ltT (k := 8304) (z := 8304) rfl (by omega)), own_1_121, if_pos (own_ltT (k := 11264) (z := 11264) rfl (by omega)), own_1_135, if_pos (own_ltT (k := 12289) (z := 12289) rfl (by omega)), own_1_149, if_pos (own_ltT (k := 63744) (z := 63744) rfl (by omega)), own_1_163, if_pos (own_ltT (k := 65008) (z := 65008) rfl (by omega)), own_1_177, if_pos (own_ltT (k := 65536) (z := 65536) rfl (by omega)), own_1_194, own_2_49, if_pos (own_gtT (k := 191) (z := 191) rfl (by omega)), own_2_56, if_neg (own_eqF (k := 215) (z := 215) rfl (by omega)), own_2_63, if_neg (own_eqF (k := 247) (z := 247) rfl (by omega)), own_2_70, if_neg (own_ltF (k := 768) (z := 768) rfl (by omega)), own_2_77, if_pos (own_gtT (k := 879) (z := 879) rfl (by omega)), own_2_84, if_pos (own_eqT (k := 894) (z := 894) rfl (by omega)), own_2_189]
theorem own_iv9 {c : Int32} (h : 895 ≤ c.toInt ∧ c.toInt ≤ 8191) : own_1_23 c = own_2_49 c := by
  rw [own_1_23, if_neg (own_ltF (k := 192) (z := 192) rfl (by omega)), own_1_30, if_pos (own_gtT (k := 214) (z := 214) rfl (by omega)), own_1_37, if_neg (own_ltF (k := 216) (z := 216) rfl (by omega)), own_1_44, if_pos (own_gtT (k := 246) (z := 246) rfl (by omega)), own_1_51, if_neg (own_ltF (k := 248) (z := 248) rfl (by omega)), own_1_58, if_pos (own_gtT (k := 767) (z := 767) rfl (by omega)), own_1_65, if_neg (own_ltF (k := 880) (z := 880) rfl (by omega)), own_1_72, if_pos (own_gtT (k := 893) (z := 893) rfl (by omega)), own_1_79, if_neg (own_ltF (k := 895) (z := 895) rfl (by omega)), own_1_86, if_neg (own_gtF (k := 8191) (z := 8191) rfl (by omega)), own_1_190, own_2_49, if_pos (own_gtT (k := 191) (z := 191) rfl (by omega)), own_2_56, if_neg (own_eqF (k := 215) (z := 215) rfl (by omega)), own_2_63, if_neg (own_eqF (k := 247) (z := 247) rfl (by omega)), own_2_70, if_neg (own_ltF (k := 768) (z := 768) rfl (by omega)), own_2_77, if_pos (own_gtT (k := 879) (z := 879) rfl (by omega)), own_2_84, if_neg (own_eqF (k := 894) (z := 894) rfl (by omega)), own_2_91, if_pos (own_ltT (k := 8192) (z := 8192) rfl (by omega)), own_2_105, if_pos (own_ltT (k := 8206) (z := 8206) rfl (by omega)), own_2_119, if_pos (own_ltT (k := 8592) (z := 8592) rfl (by omega)), own_2_133, if_pos (own_ltT (k := 12272) (z := 12272) rfl (by omega)), own_2_147, if_pos (own_ltT (k := 55296) (z := 55296) rfl (by omega)), own_2_159, if_pos (own_ltT (k := 64976) (z := 64976) rfl (by omega)), own_2_171, if_neg (own_eqF (k := 65534) (z := 65534) rfl (by omega)), own_2_177, if_neg (own_eqF (k := 65535) (z := 65535) rfl (by omega)), own_2_183, if_pos (own_ltT (k := 983040) (z := 983040) rfl (by omega)), own_2_193]
theorem own_iv10 {c : Int32} (h : 8192 ≤ c.toInt ∧ c.toInt ≤ 8203) : own_1_23 c = own_2_49 c := by
  rw [own_1_23, if_neg (own_ltF (k := 192) (z := 192) rfl (by omega)), own_1_30, if_pos (own_gtT (k := 214) (z := 214) rfl (by omega)), own_1_37, if_neg (own_ltF (k := 216) (z := 216) rfl (by omega)), own_1_44, if_pos (own_gtT (k := 246) (z := 246) rfl (by omega)), own_1_51, if_neg (own_ltF (k := 248) (z := 248) rfl (by omega)), own_1_58, if_pos (own_gtT (k := 767) (z := 767) rfl (by omega)), own_1_65, if_neg (own_ltF (k := 880) (z := 880) rfl (by omega)), own_1_72, if_pos (own_gtT (k := 893) (z := 893) rfl (by omega)), own_1_79, if_neg (own_ltF (k := 895) (z := 895) rfl (by omega)), own_1_86, if_pos (own_gtT (k := 8191) (z := 8191) rfl (by omega)), own_1_93, if_pos (own_ltT (k := 8204) (z := 8204) rfl (by omega)), own_1_107, if_pos (own_ltT (k := 8304) (z := 8304) rfl (by omega)), own_1_121, if_pos (own_ltT (k := 11264) (z := 11264) rfl (by omega)), own_1_135, if_pos (own_ltT (k := 12289) (z := 12289) rfl (by omega)), own_1_149, if_pos (own_ltT (k := 63744) (z := 63744) rfl (by omega)), own_1_163, if_pos (own_ltT (k := 65008) (z := 65008) rfl (by omega)), own_1_177, if_pos (own_ltT (k := 65536) (z := 65536) rfl (by omega)), own_1_194, own_2_49, if_pos (own_gtT (k := 191) (z := 191) rfl (by omega)), own_2_56, if_neg (own_eqF (k := 215) (z := 215) rfl (by omega)), own_2_63, if_neg (own_eqF (k := 247) (z := 247) rfl (by omega)), own_2_70, if_neg (own_ltF (k := 768) (z := 768) rfl (by omega)), own_2_77, if_pos (own_gtT (k := 879) (z := 879) rfl (by omega)), own_2_84, if_neg (own_eqF (k := 894) (z := 894) rfl (by omega)), own_2_91, if_neg (own_ltF (k := 8192) (z := 8192) rfl (by omega)), own_2_98, if_neg (own_gtF (k := 8203) (z := 8203) rfl (by omega)), own_2_189]
theorem own_iv11 {c : Int32} (h : 8204 ≤ c.toInt ∧ c.toInt ≤ 8205) : own_1_23 c = own_2_49 c := by
  rw [own_1_23, if_neg (own_ltF (k := 192) (z := 192) rfl (by omega)), own_1_30, if_pos (own_gtT (k := 214) (z := 214) rfl (by omega)), own_1_37, if_neg (own_ltF (k := 216) (z := 216) rfl (by omega)), own_1_44, if_pos (own_gtT (k := 246) (z := 246) rfl (by omega)), own_1_51, if_neg (own_ltF (k := 248) (z := 248) rfl (by omega)), own_1_58, if_pos (own_gtT (k := 767) (z := 767) rfl (by omega)), own_1_65, if_neg (own_ltF (k := 880) (z := 880) rfl (by omega)), own_1_72, if_pos (own_gtT (k := 893) (z := 893) rfl (by omega)), own_1_79, if_neg (own_ltF (k := 895) (z := 895) rfl (by omega)), own_1_86, if_pos (own_gtT (k := 8191) (z := 8191) rfl (by omega)), own_1_93, if_neg (own_ltF (k := 8204) (z := 8204) rfl (by omega)), own_1_100, if_neg (own_gtF (k := 8205) (z := 8205) rfl (by omega)), own_1_190, own_2_49, if_pos (own_gtT (k := 191) (z := 191) rfl (by omega)), own_2_56, if_neg (own_eqF (k := 215) (z := 215) rfl (by omega)), own_2_63, if_neg (own_eqF (k := 247) (z := 247) rfl (by omega)), own_2_70, if_neg (own_ltF (k := 768) (z := 768) rfl (by omega)), own_2_77, if_pos (own_gtT (k := 879) (z := 879) rfl (by omega)), own_2_84, if_neg (own_eqF (k := 894) (z := 894) rfl (by omega)), own_2_91, if_neg (own_ltF (k := 8192) (z := 8192) rfl (by omega)), own_2_98, if_pos (own_gtT (k := 8203) (z := 8203) rfl (by omega)), own_2_105, if_pos (own_ltT (k := 8206) (z := 8206) rfl (by omega)), own_2_119, if_pos (own_ltT (k := 8592) (z := 8592) rfl (by omega)), own_2_133, if_pos (own_ltT (k := 12272) (z := 12272) rfl (by omega)), own_2_147, if_pos (own_ltT (k := 55296) (z := 55296) rfl (by omega)), own_2_159, if_pos (own_ltT (k := 64976) (z := 64976) rfl (by omega)), own_2_171, if_neg (own_eqF (k := 65534) (z := 65534) rfl (by omega)), own_2_177, if_neg (own_eqF (k := 65535) (z := 65535) rfl (by omega)), own_2_183, if_pos (own_ltT (k := 983040) (z := 983040) rfl (by omega)), own_2_193]
theorem own_iv12 {c : Int32} (h : 8206 ≤ c.toInt ∧ c.toInt ≤ 8303) : own_1_23 c = own_2_49 c := by
  rw [own_1_23, if_neg (own_ltF (k := 192) (z := 192) rfl (by omega)), own_1_30, if_pos (own_gtT (k := 214) (z := 214) rfl (by omega)), own_1_37, if_neg (own_ltF (k := 216) (z := 216) rfl (by omega)), own_1_44, if_pos (own_gtT (k := 246) (z := 246) rfl (by omega)), own_1_51, if_neg (own_ltF (k := 248) (z := 248) rfl (by omega)), own_1_58, if_pos (own_gtT (k := 767) (z := 767) rfl (by omega)), own_1_65, if_neg (own_ltF (k := 880) (z := 880) rfl (by omega)), own_1_72, if_pos (own_gtT (k := 893) (z := 893) rfl (by omega)), own_1_79, if_neg (own_ltF (k := 895) (z := 895) rfl (by omega)), own_1_86, if_pos (own_gtT (k := 8191) (z := 8191) rfl (by omega)), own_1_93, if_neg (own_ltF (k := 8204) (z := 8204) rfl (by omega)), own_1_100, if_pos (own_gtT (k := 8205) (z := 8205) rfl (by omega)), own_1_107, if_pos (own_ltT (k := 8304) (z := 8304) rfl (by omega)), own_1_121, if_pos (own_ltT (k := 11264) (z := 11264) rfl (by omega)), own_1_135, if_pos (own_ltT (k := 12289) (z := 12289) rfl (by omega)), own_1_149, if_pos (own_ltT (k := 63744) (z := 63744) rfl (by omega)), own_1_163, if_pos (own_ltT (k := 65008) (z := 65008) rfl (by omega)), own_1_177, if_pos (own_ltT (k := 65536) (z := 65536) rfl (by omega)), own_1_194, own_2_49, if_pos (own_gtT (k := 191) (z := 191) rfl (by omega)), own_2_56, if_neg (own_eqF (k := 215) (z := 215) rfl (by omega)), own_2_63, if_neg (own_eqF (k := 247) (z := 247) rfl (by omega)), own_2_70, if_neg (own_ltF (k := 768) (z := 768) rfl (by omega)), own_2_77, if_pos (own_gtT (k := 879) (z := 879) rfl (by omega)), own_2_84, if_neg (own_eqF (k := 894) (z := 894) rfl (by omega)), own_2_91, if_neg (own_ltF (k := 8192) (z := 8192) rfl (by omega)), own_2_98, if_pos (own_gtT (k := 8203) (z := 8203) rfl (by omega)), own_2_105, if_neg (own_ltF (k := 8206) (z := 8206) rfl (by omega)), own_2_112, if_neg (own_gtF (k := 8303) (z := 8303) rfl (by omega)), own_2_189]
theorem own_iv13 {c : Int32} (h : 8304 ≤ c.toInt ∧ c.toInt ≤ 8591) : own_1_23 c = own_2_49 c := by
  rw [own_1_23, if_neg (own_ltF (k := 192) (z := 192) rfl (by omega)), own_1_30, if_pos (own_gtT (k := 214) (z := 214) rfl (by omega)), own_1_37, if_neg (own_ltF (k := 216) (z := 216) rfl (by omega)), own_1_44, if_pos (own_gtT (k := 246) (z := 246) rfl (by omega)), own_1_51, if_neg (own_ltF (k := 248) (z := 248) rfl (by omega)), own_1_58, if_pos (own_gtT (k := 767) (z := 767) rfl (by omega)), own_1_65, if_neg (own_ltF (k := 880) (z := 880) rfl (by omega)), own_1_72, if_pos (own_gtT (k := 893) (z := 893) rfl (by omega)), own_1_79, if_neg (own_ltF (k := 895) (z := 895) rfl (by omega)), own_1_86, if_pos (own_gtT (k := 8191) (z := 8191) rfl (by omega)), own_1_93, if_neg (own_ltF (k := 8204) (z := 8204) rfl (by omega)), own_1_100, if_pos (own_gtT (k := 8205) (z := 8205) rfl (by omega)), own_1_107, if_neg (own_ltF (k := 8304) (z := 8304) rfl (by omega)), own_1_114, if_neg (own_gtF (k := 8591) (z := 8591) rfl (by omega)), own_1_190, own_2_49, if_pos (own_gtT (k := 191) (z := 191) rfl (by omega)), own_2_56, if_neg (own_eqF (k := 215) (z := 215) rfl (by omega)), own_2_63, if_neg (own_eqF (k := 247) (z := 247) rfl (by omega)), own_2_70, if_neg (own_ltF (k := 768) (z := 768) rfl (by omega)), own_2_77, if_pos (own_gtT (k := 879) (z := 879) rfl (by omega)), own_2_84, if_neg (own_eqF (k := 894) (z := 894) rfl (by omega)), own_2_91, if_neg (own_ltF (k := 8192) (z := 8192) rfl (by omega)), own_2_98, if_pos (own_gtT (k := 8203) (z := 8203) rfl (by omega)), own_2_105, if_neg (own_ltF (k := 8206) (z := 8206) rfl (by omega)), own_2_112, if_pos (own_gtT (k := 8303) (z := 8303) rfl (by omega)), own_2_119, if_pos (own_ltT (k := 8592) (z := 8592) rfl (by omega)), own_2_133, if_pos (own_ltT (k := 12272) (z := 12272) rfl (by omega)), own_2_147, if_pos (own_ltT (k := 55296) (z := 55296) rfl (by omega)), own_2_159, if_pos (own_ltT (k := 64976) (z := 64976) rfl (by omega)), own_2_171, if_neg (own_eqF (k := 65534) (z := 65534) rfl (by omega)), own_2_177, if_neg (own_eqF (k := 65535) (z := 65535) rfl (by omega)), own_2_183, if_pos (own_ltT (k := 983040) (z := 983040) rfl (by omega)), own_2_193]
theorem own_iv14 {c : Int32} (h : 8592 ≤ c.toInt ∧ c.toInt ≤ 11263) : own_1_23 c = own_2_49 c := by
  rw [own_1_23, if_neg (own_ltF (k := 192) (z := 192) rfl (by omega)), own_1_30, if_pos (own_gtT (k := 214) (z := 214) rfl (by omega)), own_1_37, if_neg (own_ltF (k := 216) (z := 216) rfl (by omega)), own_1_44, if_pos (own_gtT (k := 246) (z := 246) rfl (by omega)), own_1_51, if_neg (own_ltF (k := 248) (z := 248) rfl (by omega)), own_1_58, if_pos (own_gtT (k := 767) (z := 767) rfl (by omega)), own_1_65, if_neg (own_ltF (k := 880) (z := 880) rfl (by omega)), own_1_72, if_pos (own_gtT (k := 893) (z := 893) rfl (by omega)), own_1_79, if_neg (own_ltF (k := 895) (z := 895) rfl (by omega)), own_1_86, if_pos (own_gtT (k := 8191) (z := 8191) rfl (by omega)), own_1_93, if_neg (own_ltF (k := 8204) (z := 8204) rfl (by omega)), own_1_100, if_pos (own_gtT (k := 8205) (z := 8205) rfl (by omega)), own_1_107, if_neg (own_ltF (k := 8304) (z := 8304) rfl (by omega)), own_1_114, if_pos (own_gtT (k := 8591) (z := 8591) rfl (by omega)), own_1_121, if_pos (own_ltT (k := 11264) (z := 11264) rfl (by omega)), own_1_135, if_pos (own_ltT (k := 12289) (z := 12289) rfl (by omega)), own_1_149, if_pos (own_ltT (k := 63744) (z := 63744) rfl (by omega)), own_1_163, if_pos (own_ltT (k := 65008) (z := 65008) rfl (by omega)), own_1_177, if_pos (own_ltT (k := 65536) (z := 65536) rfl (by omega)), own_1_194, own_2_49, if_pos (own_gtT (k := 191) (z := 191) rfl (by omega)), own_2_56, if_neg (own_eqF (k := 215) (z := 215) rfl (by omega)), own_2_63, if_neg (own_eqF (k := 247) (z := 247) rfl (by omega)), own_2_70, if_neg (own_ltF (k := 768) (z := 768) rfl (by omega)), own_2_77, if_pos (own_gtT (k := 879) (z := 879) rfl (by omega)), own_2_84, if_neg (own_eqF (k := 894) (z := 894) rfl (by omega)), own_2_91, if_neg (own_ltF (k := 8192) (z := 8192) rfl (by omega)), own_2_98, if_pos (own_gtT (k := 8203) (z := 8203) rfl (by omega)), own_2_105, if_neg (own_ltF (k := 8206) (z := 8206) rfl (by omega)), own_2_112, if_pos (own_gtT (k := 8303) (z := 8303) rfl (by omega)), own_2_119, if_neg (own_ltF (k := 8592) (z := 8592) rfl (by omega)), own_2_126, if_neg (own_gtF (k := 11263) (z := 11263) rfl (by omega)), own_2_189]
theorem own_iv15 {c : Int32} (h : 11264 ≤ c.toInt ∧ c.toInt ≤ 12271) : own_1_23 c = own_2_49 c := by
  rw [own_1_23, if_neg (own_ltF (k := 192) (z := 192) rfl (by omega)), own_1_30, if_pos (own_gtT (k := 214) (z := 214) rfl (by omega)), own_1_37, if_neg (own_ltF (k := 216) (z := 216) rfl (by omega)), own_1_44, if_pos (own_gtT (k := 246) (z := 246) rfl (by omega)), own_1_51, if_neg (own_ltF (k := 248) (z := 248) rfl (by omega)), own_1_58, if_pos (own_gtT (k := 767) (z := 767) rfl (by omega)), own_1_65, if_neg (own_ltF (k := 880) (z := 880) rfl (by omega)), own_1_72, if_pos (own_gtT (k := 893) (z := 893) rfl (by omega)), own_1_79, if_neg (own_ltF (k := 895) (z := 895) rfl (by omega)), own_1_86, if_pos (own_gtT (k := 8191) (z := 8191) rfl (by omega)), own_1_93, if_neg (own_ltF (k := 8204) (z := 8204) rfl (by omega)), own_1_100, if_pos (own_gtT (k := 8205) (z := 8205) rfl (by omega)), own_1_107, if_neg (own_ltF (k := 8304) (z := 8304) rfl (by omega)), own_1_114, if_pos (own_gtT (k := 8591) (z := 8591) rfl (by omega)), own_1_121, if_neg (own_ltF (k := 11264) (z := 11264) rfl (by omega)), own_1_128, if_neg (own_gtF (k := 12271) (z := 12271) rfl (by omega)), own_1_190, own_2_49, if_pos (own_gtT (k := 191) (z := 191) rfl (by omega)), own_2_56, if_neg (own_eqF (k := 215) (z := 215) rfl (by omega)), own_2_63, if_neg (own_eqF (k := 247) (z := 247) rfl (by omega)), own_2_70, if_neg (own_ltF (k := 768) (z := 768) rfl (by omega)), own_2_77, if_pos (own_gtT (k := 879) (z := 879) rfl (by omega)), own_2_84, if_neg (own_eqF (k := 894) (z := 894) rfl (by omega)), own_2_91, if_neg (own_ltF (k := 8192) (z := 8192) rfl (by omega)), own_2_98, if_pos (own_gtT (k := 8203) (z := 8203) rfl (by omega)), own_2_105, if_neg (own_ltF (k := 8206) (z := 8206) rfl (by omega)), own_2_112, if_pos (own_gtT (k := 8303) (z := 8303) rfl (by omega)), own_2_119, if_neg (own_ltF (k := 8592) (z := 8592) rfl (by omega)), own_2_126, if_pos (own_gtT (k := 11263) (z := 11263) rfl (by omega)), own_2_133, if_pos (own_ltT (k := 12272) (z := 12272) rfl (by omega)), own_2_147, if_pos (own_ltT (k := 55296) (z := 55296) rfl (by omega)), own_2_159, if_pos (own_ltT (k := 64976) (z := 64976) rfl (by omega)), own_2_171, if_neg (own_eqF (k := 65534) (z := 65534) rfl (by omega)), own_2_177, if_neg (own_eqF (k := 65535) (z := 65535) rfl (by omega)), own_2_183, if_pos (own_ltT (k := 983040) (z := 983040) rfl (by omega)), own_2_193]
theorem own_iv16 {c : Int32} (h : 12272 ≤ c.toInt ∧ c.toInt ≤ 12288) : own_1_23 c = own_2_49 c := by
  rw [own_1_23, if_neg (own_ltF (k := 192) (z := 192) rfl (by omega)), own_1_30, if_pos (own_gtT (k := 214) (z := 214) rfl (by omega)), own_1_37, if_neg (own_ltF (k := 216) (z := 216) rfl (by omega)), own_1_44, if_pos (own_gtT (k := 246) (z := 246) rfl (by omega)), own_1_51, if_neg (own_ltF (k := 248) (z := 248) rfl (by omega)), own_1_58, if_pos (own_gtT (k := 767) (z := 767) rfl (by omega)), own_1_65, if_neg (own_ltF (k := 880) (z := 880) rfl (by omega)), own_1_72, if_pos (own_gtT (k := 893) (z := 893) rfl (by omega)), own_1_79, if_neg (own_ltF (k := 895) (z := 895) rfl (by omega)), own_1_86, if_pos (own_gtT (k := 8191) (z := 8191) rfl (by omega)), own_1_93, if_neg (own_ltF (k := 8204) (z := 8204) rfl (by omega)), own_1_100, if_pos (own_gtT (k := 8205) (z := 8205) rfl (by omega)), own_1_107, if_neg (own_ltF (k := 8304) (z := 8304) rfl (by omega)), own_1_114, if_pos (own_gtT (k := 8591) (z := 8591) rfl (by omega)), own_1_121, if_neg (own_ltF (k := 11264) (z := 11264) rfl (by omega)), own_1_128, if_pos (own_gtT (k := 12271) (z := 12271) rfl (by omega)), own_1_135, if_pos (own_ltT (k := 12289) (z := 12289) rfl (by omega)), own_1_149, if_pos (own_ltT (k := 63744) (z := 63744) rfl (by omega)), own_1_163, if_pos (own_ltT (k := 65008) (z := 65008) rfl (by omega)), own_1_177, if_pos (own_ltT (k := 65536) (z := 65536) rfl (by omega)), own_1_194, own_2_49, if_pos (own_gtT (k := 191) (z := 191) rfl (by omega)), own_2_56, if_neg (own_eqF (k := 215) (z := 215) rfl (by omega)), own_2_63, if_neg (own_eqF (k := 247) (z := 247) rfl (by omega)), own_2_70, if_neg (own_ltF (k := 768) (z := 768) rfl (by omega)), own_2_77, if_pos (own_gtT (k := 879) (z := 879) rfl (by omega)), own_2_84, if_neg (own_eqF (k := 894) (z := 894) rfl (by omega)), own_2_91, if_neg (own_ltF (k := 8192) (z := 8192) rfl (by omega)), own_2_98, if_pos (own_gtT (k := 8203) (z := 8203) rfl (by omega)), own_2_105, if_neg (own_ltF (k := 8206) (z := 8206) rfl (by omega)), own_2_112, if_pos (own_gtT (k := 8303) (z := 8303) rfl (by omega)), own_2_119, if_neg (own_ltF (k := 8592) (z := 8592) rfl (by omega)), own_2_126, if_pos (own_gtT (k := 11263) (z := 11263) rfl (by omega)), own_2_133, if_neg (own_ltF (k := 12272) (z := 12272) rfl (by omega)), own_2_140, if_neg (own_gtF (k := 12288) (z := 12288) rfl (by omega)), own_2_189]
theorem own_iv17 {c : Int32} (h : 12289 ≤ c.toInt ∧ c.toInt ≤ 55295) : own_1_23 c = own_2_49 c := by
  rw [own_1_23, if_neg (own_ltF (k := 192) (z := 192) rfl (by omega)), own_1_30, if_pos (own_gtT (k := 214) (z := 214) rfl (by omega)), own_1_37, if_neg (own_ltF (k := 216) (z := 216) rfl (by omega)), own_1_44, if_pos (own_gtT (k := 246) (z := 246) rfl (by omega)), own_1_51, if_neg (own_ltF (k := 248) (z := 248) rfl (by omega)), own_1_58, if_pos (own_gtT (k := 767) (z := 767) rfl (by omega)), own_1_65, if_neg (own_ltF (k := 880) (z := 880) rfl (by omega)), own_1_72, if_pos (own_gtT (k := 893) (z := 893) rfl (by omega)), own_1_79, if_neg (own_ltF (k := 895) (z := 895) rfl (by omega)), own_1_86, if_pos (own_gtT (k := 8191) (z := 8191) rfl (by omega)), own_1_93, if_neg (own_ltF (k := 8204) (z := 8204) rfl (by omega)), own_1_100, if_pos (own_gtT (k := 8205) (z := 8205) rfl (by omega)), own_1_107, if_neg (own_ltF (k := 8304) (z := 8304) rfl (by omega)), own_1_114, if_pos (own_gtT (k := 8591) (z := 8591) rfl (by omega)), own_1_121, if_neg (own_ltF (k := 11264) (z := 11264) rfl (by omega)), own_1_128, if_pos (own_gtT (k := 12271) (z := 12271) rfl (by omega)), own_1_135, if_neg (own_ltF (k := 12289) (z := 12289) rfl (by omega)), own_1_142, if_neg (own_gtF (k := 55295) (z := 55295) rfl (by omega)), own_1_190, own_2_49, if_pos (own_gtT (k := 191) (z := 191) rfl (by omega)), own_2_56, if_neg (own_eqF (k := 215) (z := 215) rfl (by omega)), own_2_63, if_neg (own_eqF (k := 247) (z := 247) rfl (by omega)), own_2_70, if_neg (own_ltF (k := 768) (z := 768) rfl (by omega)), own_2_77, if_pos (own_gtT (k := 879) (z := 879) rfl (by omega)), own_2_84, if_neg (own_eqF (k := 894) (z := 894) rfl (by omega)), own_2_91, if_neg (own_ltF (k := 8192) (z := 8192) rfl (by omega)), own_2_98, if_pos (own_gtT (k := 8203) (z := 8203) rfl (by omega)), own_2_105, if_neg (own_ltF (k := 8206) (z := 8206) rfl (by omega)), own_2_112, if_pos (own_gtT (k := 8303) (z := 8303) rfl (by omega)), own_2_119, if_neg (own_ltF (k := 8592) (z := 8592) rfl (by omega)), own_2_126, if_pos (own_gtT (k := 11263) (z := 11263) rfl (by omega)), own_2_133, if_neg (own_ltF (k := 12272) (z := 12272) rfl (by omega)), own_2_140, if_pos (own_gtT (k := 12288) (z := 12288) rfl (by omega)), own_2_147, if_pos (own_ltT (k := 55296) (z := 55296) rfl (by omega)), own_2_159, if_pos (own_ltT (k := 64976) (z := 64976) rfl (by omega)), own_2_171, if_neg (own_eqF (k := 65534) (z := 65534) rfl (by omega)), own_2_177, if_neg (own_eqF (k := 65535) (z := 65535) rfl (by omega)), own_2_183, if_pos (own_ltT (k := 983040) (z := 983040) rfl (by omega)), own_2_193]
theorem own_iv18 {c : Int32} (h : 55296 ≤ c.toInt ∧ c.toInt ≤ 63743) : own_1_23 c = own_2_49 c := by
  rw [own_1_23, if_neg (own_ltF (k := 192) (z := 192) rfl (by omega)), own_1_30, if_pos (own_gtT (k := 214) (z := 214) rfl (by omega)), own_1_37, if_neg (own_ltF (k := 216) (z := 216) rfl (by omega)), own_1_44, if_pos (own_gtT (k := 246) (z := 246) rfl (by omega)), own_1_51, if_neg (own_ltF (k := 248) (z := 248) rfl (by omega)), own_1_58, if_pos (own_gtT (k := 767) (z := 767) rfl (by omega)), own_1_65, if_neg (own_ltF (k := 880) (z := 880) rfl (by omega)), own_1_72, if_pos (own_gtT (k := 893) (z := 893) rfl (by omega)), own_1_79, if_neg (own_ltF (k := 895) (z := 895) rfl (by omega)), own_1_86, if_pos (own_gtT (k := 8191) (z := 8191) rfl (by omega)), own_1_93, if_neg (own_ltF (k := 8204) (z := 8204) rfl (by omega)), own_1_100, if_pos (own_gtT (k := 8205) (z := 8205) rfl (by omega)), own_1_107, if_neg (own_ltF (k := 8304) (z := 8304) rfl (by omega)), own_1_114, if_pos (own_gtT (k := 8591) (z := 8591) rfl (by omega)), own_1_121, if_neg (own_ltF (k := 11264) (z := 11264) rfl (by omega)), own_1_128, if_pos (own_gtT (k := 12271) (z := 12271) rfl (by omega)), own_1_135, if_neg (own_ltF (k := 12289) (z := 12289) rfl (by omega)), own_1_142, if_pos (own_gtT (k := 55295) (z := 55295) rfl (by omega)), own_1_149, if_pos (own_ltT (k := 63744) (z := 63744) rfl (by omega)), own_1_163, if_pos (own_ltT (k := 65008) (z := 65008) rfl (by omega)), own_1_177, if_pos (own_ltT (k := 65536) (z := 65536) rfl (by omega)), own_1_194, own_2_49, if_pos (own_gtT (k := 191) (z := 191) rfl (by omega)), own_2_56, if_neg (own_eqF (k := 215) (z := 215) rfl (by omega)), own_2_63, if_neg (own_eqF (k := 247) (z := 247) rfl (by omega)), own_2_70, if_neg (own_ltF (k := 768) (z := 768) rfl (by omega)), own_2_77, if_pos (own_gtT (k := 879) (z := 879) rfl (by omega)), own_2_84, if_neg (own_eqF (k := 894) (z := 894) rfl (by omega)), own_2_91, if_neg (own_ltF (k := 8192) (z := 8192) rfl (by omega)), own_2_98, if_pos (own_gtT (k := 8203) (z := 8203) rfl (by omega)), own_2_105, if_neg (own_ltF (k := 8206) (z := 8206) rfl (by omega)), own_2_112, if_pos (own_gtT (k := 8303) (z := 8303) rfl (by omega)), own_2_119, if_neg (own_ltF (k := 8592) (z := 8592) rfl (by omega)), own_2_126, if_pos (own_gtT (k := 11263) (z := 11263) rfl (by omega)), own_2_133, if_neg (own_ltF (k := 12272) (z := 12272) rfl (by omega)), own_2_140, if_pos (own_gtT (k := 12288) (z := 12288) rfl (by omega)), own_2_147, if_neg (own_ltF (k := 55296) (z := 55296) rfl (by omega)), own_2_153, if_neg (own_gtF (k := 63743) (z := 63743) rfl (by omega)), own_2_189]
theorem own_iv19 {c : Int32} (h : 63744 ≤ c.toInt ∧ c.toInt ≤ 64975) : own_1_23 c = own_2_49 c := by
  rw [own_1_23, if_neg (own_ltF (k := 192) (z := 192) rfl (by omega)), own_1_30, if_pos (own_gtT (k := 214) (z := 214) rfl (by omega)), own_1_37, if_neg (own_ltF (k := 216) (z := 216) rfl (by omega)), own_1_44, if_pos (own_gtT (k := 246) (z := 246) rfl (by omega)), own_1_51, if_neg (own_ltF (k := 248) (z := 248) rfl (by omega)), own_1_58, if_pos (own_gtT (k := 767) (z := 767) rfl (by omega)), own_1_65, if_neg (own_ltF (k := 880) (z := 880) rfl (by omega)), own_1_72, if_pos (own_gtT (k := 893) (z := 893) rfl (by omega)), own_1_79, if_neg (own_ltF (k := 895) (z := 895) rfl (by omega)), own_1_86, if_pos (own_gtT (k := 8191) (z := 8191) rfl (by omega)), own_1_93, if_neg (own_ltF (k := 8204) (z := 8204) rfl (by omega)), own_1_100, if_pos (own_gtT (k := 8205) (z := 8205) rfl (by omega)), own_1_107, if_neg (own_ltF (k := 8304) (z := 8304) rfl (by omega)), own_1_114, if_pos (own_gtT (k := 8591) (z := 8591) rfl (by omega)), own_1_121, if_neg (own_ltF (k := 11264) (z := 11264) rfl (by omega)), own_1_128, if_pos (own_gtT (k := 12271) (z := 12271) rfl (by omega)), own_1_135, if_neg (own_ltF (k := 12289) (z := 12289) rfl (by omega)), own_1_142, if_pos (own_gtT (k := 55295) (z := 55295) rfl (by omega)), own_1_149, if_neg (own_ltF (k := 63744) (z := 63744) rfl (by omega)), own_1_156, if_neg (own_gtF (k := 64975) (z := 64975) rfl (by omega)), own_1_190, own_2_49, if_pos (own_gtT (k := 191) (z := 191) rfl (by omega)), own_2_56, if_neg (own_eqF (k := 215) (z := 215) rfl (by omega)), own_2_63, if_neg (own_eqF (k := 247) (z := 247) rfl (by omega)), own_2_70, if_neg (own_ltF (k := 768) (z := 768) rfl (by omega)), own_2_77, if_pos (own_gtT (k := 879) (z := 879) rfl (by omega)), own_2_84, if_neg (own_eqF (k := 894) (z := 894) rfl (by omega)), own_2_91, if_neg (own_ltF (k := 8192) (z := 8192) rfl (by omega)), own_2_98, if_pos (own_gtT (k := 8203) (z := 8203) rfl (by omega)), own_2_105, if_neg (own_ltF (k := 8206) (z := 8206) rfl (by omega)), own_2_112, if_pos (own_gtT (k := 8303) (z := 8303) rfl (by omega)), own_2_119, if_neg (own_ltF (k := 8592) (z := 8592) rfl (by omega)), own_2_126, if_pos (own_gtT (k := 11263) (z := 11263) rfl (by omega)), own_2_133, if_neg (own_ltF (k := 12272) (z := 12272) rfl (by omega)), own_2_140, if_pos (own_gtT (k := 12288) (z := 12288) rfl (by omega)), own_2_147, if_neg (own_ltF (k := 55296) (z := 55296) rfl (by omega)), own_2_153, if_pos (own_gtT (k := 63743) (z := 63743) rfl (by omega)), own_2_159, if_pos (own_ltT (k := 64976) (z := 64976) rfl (by omega)), own_2_171, if_neg (own_eqF (k := 65534) (z := 65534) rfl (by omega)), own_2_177, if_neg (own_eqF (k := 65535) (z := 65535) rfl (by omega)), own_2_183, if_pos (own_ltT (k := 983040) (z := 983040) rfl (by omega)), own_2_193]
theorem own_iv20 {c : Int32} (h : 64976 ≤ c.toInt ∧ c.toInt ≤ 65007) : own_1_23 c = own_2_49 c := by
  rw [own_1_23, if_neg (own_ltF (k := 192) (z := 192) rfl (by omega)), own_1_30, if_pos (own_gtT (k := 214) (z := 214) rfl (by omega)), own_1_37, if_neg (own_ltF (k := 216) (z := 216) rfl (by omega)), own_1_44, if_pos (own_gtT (k := 246) (z := 246) rfl (by omega)), own_1_51, if_neg (own_ltF (k := 248) (z := 248) rfl (by omega)), own_1_58, if_pos (own_gtT (k := 767) (z := 767) rfl (by omega)), own_1_65, if_neg (own_ltF (k := 880) (z := 880) rfl (by omega)), own_1_72, if_pos (own_gtT (k := 893) (z := 893) rfl (by omega)), own_1_79, if_neg (own_ltF (k := 895) (z := 895) rfl (by omega)), own_1_86, if_pos (own_gtT (k := 8191) (z := 8191) rfl (by omega)), own_1_93, if_neg (own_ltF (k := 8204) (z := 8204) rfl (by omega)), own_1_100, if_pos (own_gtT (k := 8205) (z := 8205) rfl (by omega)), own_1_107, if_neg (own_ltF (k := 8304) (z := 8304) rfl (by omega)), own_1_114, if_pos (own_gtT (k := 8591) (z := 8591) rfl (by omega)), own_1_121, if_neg (own_ltF (k := 11264) (z := 11264) rfl (by omega)), own_1_128, if_pos (own_gtT (k := 12271) (z := 12271) rfl (by omega)), own_1_135, if_neg (own_ltF (k := 12289) (z := 12289) rfl (by omega)), own_1_142, if_pos (own_gtT (k := 55295) (z := 55295) rfl (by omega)), own_1_149, if_neg (own_ltF (k := 63744) (z := 63744) rfl (by omega)), own_1_156, if_pos (own_gtT (k := 64975) (z := 64975) rfl (by omega)), own_1_163, if_pos (own_ltT (k := 65008) (z := 65008) rfl (by omega)), own_1_177, if_pos (own_ltT (k := 65536) (z := 65536) rfl (by omega)), own_1_194, own_2_49, if_pos (own_gtT (k := 191) (z := 191) rfl (by omega)), own_2_56, if_neg (own_eqF (k := 215) (z := 215) rfl (by omega)), own_2_63, if_neg (own_eqF (k := 247) (z := 247) rfl (by omega)), own_2_70, if_neg (own_ltF (k := 768) (z := 768) rfl (by omega)), own_2_77, if_pos (own_gtT (k := 879) (z := 879) rfl (by omega)), own_2_84, if_neg (own_eqF (k := 894) (z := 894) rfl (by omega)), own_2_91, if_neg (own_ltF (k := 8192) (z := 8192) rfl (by omega)), own_2_98, if_pos (own_gtT (k := 8203) (z := 8203) rfl (by omega)), own_2_105, if_neg (own_ltF (k := 8206) (z := 8206) rfl (by omega)), own_2_112, if_pos (own_gtT (k := 8303) (z := 8303) rfl (by omega)), own_2_119, if_neg (own_ltF (k := 8592) (z := 8592) rfl (by omega)), own_2_126, if_pos (own_gtT (k := 11263) (z := 11263) rfl (by omega)), own_2_133, if_neg (own_ltF (k := 12272) (z := 12272) rfl (by omega)), own_2_140, if_pos (own_gtT (k := 12288) (z := 12288) rfl (by omega)), own_2_147, if_neg (own_ltF (k := 55296) (z := 55296) rfl (by omega)), own_2_153, if_pos (own_gtT (k := 63743) (z := 63743) rfl (by omega)), own_2_159, if_neg (own_ltF (k := 64976) (z := 64976) rfl (by omega)), own_2_165, if_neg (own_gtF (k := 65007) (z := 65007) rfl (by omega)), own_2_189]
theorem own_iv21 {c : Int32} (h : 65008 ≤ c.toInt ∧ c.toInt ≤ 65533) : own_1_23 c = own_2_49 c := by
  rw [own_1_23, if_neg (own_ltF (k := 192) (z := 192) rfl (by omega)), own_1_30, if_pos (own_gtT (k := 214) (z := 214) rfl (by omega)), own_1_37, if_neg (own_ltF (k := 216) (z := 216) rfl (by omega)), own_1_44, if_pos (own_gtT (k := 246) (z := 246) rfl (by omega)), own_1_51, if_neg (own_ltF (k := 248) (z := 248) rfl (by omega)), own_1_58, if_pos (own_gtT (k := 767) (z := 767) rfl (by omega)), own_1_65, if_neg (own_ltF (k := 880) (z := 880) rfl (by omega)), own_1_72, if_pos (own_gtT (k := 893) (z := 893) rfl (by omega)), own_1_79, if_neg (own_ltF (k := 895) (z := 895) rfl (by omega)), own_1_86, if_pos (own_gtT (k := 8191) (z := 8191) rfl (by omega)), own_1_93, if_neg (own_ltF (k := 8204) (z := 8204) rfl (by omega)), own_1_100, if_pos (own_gtT (k := 8205) (z := 8205) rfl (by omega)), own_1_107, if_neg (own_ltF (k := 8304) (z := 8304) rfl (by omega)), own_1_114, if_pos (own_gtT (k := 8591) (z := 8591) rfl (by omega)), own_1_121, if_neg (own_ltF (k := 11264) (z := 11264) rfl (by omega)), own_1_128, if_pos (own_gtT (k := 12271) (z := 12271) rfl (by omega)), own_1_135, if_neg (own_ltF (k := 12289) (z := 12289) rfl (by omega)), own_1_142, if_pos (own_gtT (k := 55295) (z := 55295) rfl (by omega)), own_1_149, if_neg (own_ltF (k := 63744) (z := 63744) rfl (by omega)), own_1_156, if_pos (own_gtT (k := 64975) (z := 64975) rfl (by omega)), own_1_163, if_neg (own_ltF (k := 65008) (z := 65008) rfl (by omega)), own_1_170, if_neg (own_gtF (k := 65533) (z := 65533) rfl (by omega)), own_1_190, own_2_49, if_pos (own_gtT (k := 191) (z := 191) rfl (by omega)), own_2_56, if_neg (own_eqF (k := 215) (z := 215) rfl (by omega)), own_2_63, if_neg (own_eqF (k := 247) (z := 247) rfl (by omega)), own_2_70, if_neg (own_ltF (k := 768) (z := 768) rfl (by omega)), own_2_77, if_pos (own_gtT (k := 879) (z := 879) rfl (by omega)), own_2_84, if_neg (own_eqF (k := 894) (z := 894) rfl (by omega)), own_2_91, if_neg (own_ltF (k := 8192) (z := 8192) rfl (by omega)), own_2_98, if_pos (own_gtT (k := 8203) (z := 8203) rfl (by omega)), own_2_105, if_neg (own_ltF (k := 8206) (z := 8206) rfl (by omega)), own_2_112, if_pos (own_gtT (k := 8303) (z := 8303) rfl (by omega)), own_2_119, if_neg (own_ltF (k := 8592) (z := 8592) rfl (by omega)), own_2_126, if_pos (own_gtT (k := 11263) (z := 11263) rfl (by omega)), own_2_133, if_neg (own_ltF (k := 12272) (z := 12272) rfl (by omega)), own_2_140, if_pos (own_gtT (k := 12288) (z := 12288) rfl (by omega)), own_2_147, if_neg (own_ltF (k := 55296) (z := 55296) rfl (by omega)), own_2_153, if_pos (own_gtT (k := 63743) (z := 63743) rfl (by omega)), own_2_159, if_neg (own_ltF (k := 64976) (z := 64976) rfl (by omega)), own_2_165, if_pos (own_gtT (k := 65007) (z := 65007) rfl (by omega)), own_2_171, if_neg (own_eqF (k := 65534) (z := 65534) rfl (by omega)), own_2_177, if_neg (own_eqF (k := 65535) (z := 65535) rfl (by omega)), own_2_183, if_pos (own_ltT (k := 983040) (z := 983040) rfl (by omega)), own_2_193]
theorem own_iv22 {c : Int32} (h : 65534 ≤ c.toInt ∧ c.toInt ≤ 65534) : own_1_23 c = own_2_49 c := by
  rw [own_1_23, if_neg (own_ltF (k := 192) (z := 192) rfl (by omega)), own_1_30, if_pos (own_gtT (k := 214) (z := 214) rfl (by omega)), own_1_37, if_neg (own_ltF (k := 216) (z := 216) rfl (by omega)), own_1_44, if_pos (own_gtT (k := 246) (z := 246) rfl (by omega)), own_1_51, if_neg (own_ltF (k := 248) (z := 248) rfl (by omega)), own_1_58, if_pos (own_gtT (k := 767) (z := 767) rfl (by omega)), own_1_65, if_neg (own_ltF (k := 880) (z := 880) rfl (by omega)), own_1_72, if_pos (own_gtT (k := 893) (z := 893) rfl (by omega)), own_1_79, if_neg (own_ltF (k := 895) (z := 895) rfl (by omega)), own_1_86, if_pos (own_gtT (k := 8191) (z := 8191) rfl (by omega)), own_1_93, if_neg (own_ltF (k := 8204) (z := 8204) rfl (by omega)), own_1_100, if_pos (own_gtT (k := 8205) (z := 8205) rfl (by omega)), own_1_107, if_neg (own_ltF (k := 8304) (z := 8304) rfl (by omega)), own_1_114, if_pos (own_gtT (k := 8591) (z := 8591) rfl (by omega)), own_1_121, if_neg (own_ltF (k := 11264) (z := 11264) rfl (by omega)), own_1_128, if_pos (own_gtT (k := 12271) (z := 12271) rfl (by omega)), own_1_135, if_neg (own_ltF (k := 12289) (z := 12289) rfl (by omega)), own_1_142, if_pos (own_gtT (k := 55295) (z := 55295) rfl (by omega)), own_1_149, if_neg (own_ltF (k := 63744) (z := 63744) rfl (by omega)), own_1_156, if_pos (own_gtT (k := 64975) (z := 64975) rfl (by omega)), own_1_163, if_neg (own_ltF (k := 65008) (z := 65008) rfl (by omega)), own_1_170, if_pos (own_gtT (k := 65533) (z := 65533) rfl (by omega)), own_1_177, if_pos (own_ltT (k := 65536) (z := 65536) rfl (by omega)), own_1_194, own_2_49, if_pos (own_gtT (k := 191) (z := 191) rfl (by omega)), own_2_56, if_neg (own_eqF (k := 215) (z := 215) rfl (by omega)), own_2_63, if_neg (own_eqF (k := 247) (z := 247) rfl (by omega)), own_2_70, if_neg (own_ltF (k := 768) (z := 768) rfl (by omega)), own_2_77, if_pos (own_gtT (k := 879) (z := 879) rfl (by omega)), own_2_84, if_neg (own_eqF (k := 894) (z := 894) rfl (by omega)), own_2_91, if_neg (own_ltF (k := 8192) (z := 8192) rfl (by omega)), own_2_98, if_pos (own_gtT (k := 8203) (z := 8203) rfl (by omega)), own_2_105, if_neg (own_ltF (k := 8206) (z := 8206) rfl (by omega)), own_2_112, if_pos (own_gtT (k := 8303) (z := 8303) rfl (by omega)), own_2_119, if_neg (own_ltF (k := 8592) (z := 8592) rfl (by omega)), own_2_126, if_pos (own_gtT (k := 11263) (z := 11263) rfl (by omega)), own_2_133, if_neg (own_ltF (k := 12272) (z := 12272) rfl (by omega)), own_2_140, if_pos (own_gtT (k := 12288) (z := 12288) rfl (by omega)), own_2_147, if_neg (own_ltF (k := 55296) (z := 55296) rfl (by omega)), own_2_153, if_pos (own_gtT (k := 63743) (z := 63743) rfl (by omega)), own_2_159, if_neg (own_ltF (k := 64976) (z := 64976) rfl (by omega)), own_2_165, if_pos (own_gtT (k := 65007) (z := 65007) rfl (by omega)), own_2_171, if_pos (own_eqT (k := 65534) (z := 65534) rfl (by omega)), own_2_189]
theorem own_iv23 {c : Int32} (h : 65535 ≤ c.toInt ∧ c.toInt ≤ 65535) : own_1_23 c = own_2_49 c := by
  rw [own_1_23, if_neg (own_ltF (k := 192) (z := 192) rfl (by omega)), own_1_30, if_pos (own_gtT (k := 214) (z := 214) rfl (by omega)), own_1_37, if_neg (own_ltF (k := 216) (z := 216) rfl (by omega)), own_1_44, if_pos (own_gtT (k := 246) (z := 246) rfl (by omega)), own_1_51, if_neg (own_ltF (k := 248) (z := 248) rfl (by omega)), own_1_58, if_pos (own_gtT (k := 767) (z := 767) rfl (by omega)), own_1_65, if_neg (own_ltF (k := 880) (z := 880) rfl (by omega)), own_1_72, if_pos (own_gtT (k := 893) (z := 893) rfl (by omega)), own_1_79, if_neg (own_ltF (k := 895) (z := 895) rfl (by omega)), own_1_86, if_pos (own_gtT (k := 8191) (z := 8191) rfl (by omega)), own_1_93, if_neg (own_ltF (k := 8204) (z := 8204) rfl (by omega)), own_1_100, if_pos (own_gtT (k := 8205) (z := 8205) rfl (by omega)), own_1_107, if_neg (own_ltF (k := 8304) (z := 8304) rfl (by omega)), own_1_114, if_pos (own_gtT (k := 8591) (z := 8591) rfl (by omega)), own_1_121, if_neg (own_ltF (k := 11264) (z := 11264) rfl (by omega)), own_1_128, if_pos (own_gtT (k := 12271) (z := 12271) rfl (by omega)), own_1_135, if_neg (own_ltF (k := 12289) (z := 12289) rfl (by omega)), own_1_142, if_pos (own_gtT (k := 55295) (z := 55295) rfl (by omega)), own_1_149, if_neg (own_ltF (k := 63744) (z := 63744) rfl (by omega)), own_1_156, if_pos (own_gtT (k := 64975) (z := 64975) rfl (by omega)), own_1_163, if_neg (own_ltF (k := 65008) (z := 65008) rfl (by omega)), own_1_170, if_pos (own_gtT (k := 65533) (z := 65533) rfl (by omega)), own_1_177, if_pos (own_ltT (k := 65536) (z := 65536) rfl (by omega)), own_1_194, own_2_49, if_pos (own_gtT (k := 191) (z := 191) rfl (by omega)), own_2_56, if_neg (own_eqF (k := 215) (z := 215) rfl (by omega)), own_2_63, if_neg (own_eqF (k := 247) (z := 247) rfl (by omega)), own_2_70, if_neg (own_ltF (k := 768) (z := 768) rfl (by omega)), own_2_77, if_pos (own_gtT (k := 879) (z := 879) rfl (by omega)), own_2_84, if_neg (own_eqF (k := 894) (z := 894) rfl (by omega)), own_2_91, if_neg (own_ltF (k := 8192) (z := 8192) rfl (by omega)), own_2_98, if_pos (own_gtT (k := 8203) (z := 8203) rfl (by omega)), own_2_105, if_neg (own_ltF (k := 8206) (z := 8206) rfl (by omega)), own_2_112, if_pos (own_gtT (k := 8303) (z := 8303) rfl (by omega)), own_2_119, if_neg (own_ltF (k := 8592) (z := 8592) rfl (by omega)), own_2_126, if_pos (own_gtT (k := 11263) (z := 11263) rfl (by omega)), own_2_133, if_neg (own_ltF (k := 12272) (z := 12272) rfl (by omega)), own_2_140, if_pos (own_gtT (k := 12288) (z := 12288) rfl (by omega)), own_2_147, if_neg (own_ltF (k := 55296) (z := 55296) rfl (by omega)), own_2_153, if_pos (own_gtT (k := 63743) (z := 63743) rfl (by omega)), own_2_159, if_neg (own_ltF (k := 64976) (z := 64976) rfl (by omega)), own_2_165, if_pos (own_gtT (k := 65007) (z := 65007) rfl (by omega)), own_2_171, if_neg (own_eqF (k := 65534) (z := 65534) rfl (by omega)), own_2_177, if_pos (own_eqT (k := 65535) (z := 65535) rfl (by omega)), own_2_189]
theorem own_iv24 {c : Int32} (h : 65536 ≤ c.toInt ∧ c.toInt ≤ 983039) : own_1_23 c = own_2_49 c := by
  rw [own_1_23, if_neg (own_ltF (k := 192) (z := 192) rfl (by omega)), own_1_30, if_pos (own_gtT (k := 214) (z := 214) rfl (by omega)), own_1_37, if_neg (own_ltF (k := 216) (z := 216) rfl (by omega)), own_1_44, if_pos (own_gtT (k := 246) (z := 246) rfl (by omega)), own_1_51, if_neg (own_ltF (k := 248) (z := 248) rfl (by omega)), own_1_58, if_pos (own_gtT (k := 767) (z := 767) rfl (by omega)), own_1_65, if_neg (own_ltF (k := 880) (z := 880) rfl (by omega)), own_1_72, if_pos (own_gtT (k := 893) (z := 893) rfl (by omega)), own_1_79, if_neg (own_ltF (k := 895) (z := 895) rfl (by omega)), own_1_86, if_pos (own_gtT (k := 8191) (z := 8191) rfl (by omega)), own_1_93, if_neg (own_ltF (k := 8204) (z := 8204) rfl (by omega)), own_1_100, if_pos (own_gtT (k := 8205) (z := 8205) rfl (by omega)), own_1_107, if_neg (own_ltF (k := 8304) (z := 8304) rfl (by omega)), own_1_114, if_pos (own_gtT (k := 8591) (z := 8591) rfl (by omega)), own_1_121, if_neg (own_ltF (k := 11264) (z := 11264) rfl (by omega)), own_1_128, if_pos (own_gtT (k := 12271) (z := 12271) rfl (by omega)), own_1_135, if_neg (own_ltF (k := 12289) (z := 12289) rfl (by omega)), own_1_142, if_pos (own_gtT (k := 55295) (z := 55295) rfl (by omega)), own_1_149, if_neg (own_ltF (k := 63744) (z := 63744) rfl (by omega)), own_1_156, if_pos (own_gtT (k := 64975) (z := 64975) rfl (by omega)), own_1_163, if_neg (own_ltF (k := 65008) (z := 65008) rfl (by omega)), own_1_170, if_pos (own_gtT (k := 65533) (z := 65533) rfl (by omega)), own_1_177, if_neg (own_ltF (k := 65536) (z := 65536) rfl (by omega)), own_1_183, if_neg (own_gtF (k := 983039) (z := 983039) rfl (by omega)), own_1_190, own_2_49, if_pos (own_gtT (k := 191) (z := 191) rfl (by omega)), own_2_56, if_neg (own_eqF (k := 215) (z := 215) rfl (by omega)), own_2_63, if_neg (own_eqF (k := 247) (z := 247) rfl (by omega)), own_2_70, if_neg (own_ltF (k := 768) (z := 768) rfl (by omega)), own_2_77, if_pos (own_gtT (k := 879) (z := 879) rfl (by omega)), own_2_84, if_neg (own_eqF (k := 894) (z := 894) rfl (by omega)), own_2_91, if_neg (own_ltF (k := 8192) (z := 8192) rfl (by omega)), own_2_98, if_pos (own_gtT (k := 8203) (z := 8203) rfl (by omega)), own_2_105, if_neg (own_ltF (k := 8206) (z := 8206) rfl (by omega)), own_2_112, if_pos (own_gtT (k := 8303) (z := 8303) rfl (by omega)), own_2_119, if_neg (own_ltF (k := 8592) (z := 8592) rfl (by omega)), own_2_126, if_pos (own_gtT (k := 11263) (z := 11263) rfl (by omega)), own_2_133, if_neg (own_ltF (k := 12272) (z := 12272) rfl (by omega)), own_2_140, if_pos (own_gtT (k := 12288) (z := 12288) rfl (by omega)), own_2_147, if_neg (own_ltF (k := 55296) (z := 55296) rfl (by omega)), own_2_153, if_pos (own_gtT (k := 63743) (z := 63743) rfl (by omega)), own_2_159, if_neg (own_ltF (k := 64976) (z := 64976) rfl (by omega)), own_2_165, if_pos (own_gtT (k := 65007) (z := 65007) rfl (by omega)), own_2_171, if_neg (own_eqF (k := 65534) (z := 65534) rfl (by omega)), own_2_177, if_neg (own_eqF (k := 65535) (z := 65535) rfl (by omega)), own_2_183, if_pos (own_ltT (k := 983040) (z := 983040) rfl (by omega)), own_2_193]
theorem own_iv25 {c : Int32} (h : 983040 ≤ c.toInt) : own_1_23 c = own_2_49 c := by
  rw [own_1_23, if_neg (own_ltF (k := 192) (z := 192) rfl (by omega)), own_1_30, if_pos (own_gtT (k := 214) (z := 214) rfl (by omega)), own_1_37, if_neg (own_ltF (k := 216) (z := 216) rfl (by omega)), own_1_44, if_pos (own_gtT (k := 246) (z := 246) rfl (by omega)), own_1_51, if_neg (own_ltF (k := 248) (z := 248) rfl (by omega)), own_1_58, if_pos (own_gtT (k := 767) (z := 767) rfl (by omega)), own_1_65, if_neg (own_ltF (k := 880) (z := 880) rfl (by omega)), own_1_72, if_pos (own_gtT (k := 893) (z := 893) rfl (by omega)), own_1_79, if_neg (own_ltF (k := 895) (z := 895) rfl (by omega)), own_1_86, if_pos (own_gtT (k := 8191) (z := 8191) rfl (by omega)), own_1_93, if_neg (own_ltF (k := 8204) (z := 8204) rfl (by omega)), own_1_100, if_pos (own_gtT (k := 8205) (z := 8205) rfl (by omega)), own_1_107, if_neg (own_ltF (k := 8304) (z := 8304) rfl (by omega)), own_1_114, if_pos (own_gtT (k := 8591) (z := 8591) rfl (by omega)), own_1_121, if_neg (own_ltF (k := 11264) (z := 11264) rfl (by omega)), own_1_128, if_pos (own_gtT (k := 12271) (z := 12271) rfl (by omega)), own_1_135, if_neg (own_ltF (k := 12289) (z := 12289) rfl (by omega)), own_1_142, if_pos (own_gtT (k := 55295) (z := 55295) rfl (by omega)), own_1_149, if_neg (own_ltF (k := 63744) (z := 63744) rfl (by omega)), own_1_156, if_pos (own_gtT (k := 64975) (z := 64975) rfl (by omega)), own_1_163, if_neg (own_ltF (k := 65008) (z := 65008) rfl (by omega)), own_1_170, if_pos (own_gtT (k := 65533) (z := 65533) rfl (by omega)), own_1_177, if_neg (own_ltF (k := 65536) (z := 65536) rfl (by omega)), own_1_183, if_pos (own_gtT (k := 983039) (z := 983039) rfl (by omega)), own_1_194, own_2_49, if_pos (own_gtT (k := 191) (z := 191) rfl (by omega)), own_2_56, if_neg (own_eqF (k := 215) (z := 215) rfl (by omega)), own_2_63, if_neg (own_eqF (k := 247) (z := 247) rfl (by omega)), own_2_70, if_neg (own_ltF (k := 768) (z := 768) rfl (by omega)), own_2_77, if_pos (own_gtT (k := 879) (z := 879) rfl (by omega)), own_2_84, if_neg (own_eqF (k := 894) (z := 894) rfl (by omega)), own_2_91, if_neg (own_ltF (k := 8192) (z := 8192) rfl (by omega)), own_2_98, if_pos (own_gtT (k := 8203) (z := 8203) rfl (by omega)), own_2_105, if_neg (own_ltF (k := 8206) (z := 8206) rfl (by omega)), own_2_112, if_pos (own_gtT (k := 8303) (z := 8303) rfl (by omega)), own_2_119, if_neg (own_ltF (k := 8592) (z := 8592) rfl (by omega)), own_2_126, if_pos (own_gtT (k := 11263) (z := 11263) rfl (by omega)), own_2_133, if_neg (own_ltF (k := 12272) (z := 12272) rfl (by omega)), own_2_140, if_pos (own_gtT (k := 12288) (z := 12288) rfl (by omega)), own_2_147, if_neg (own_ltF (k := 55296) (z := 55296) rfl (by omega)), own_2_153, if_pos (own_gtT (k := 63743) (z := 63743) rfl (by omega)), own_2_159, if_neg (own_ltF (k := 64976) (z := 64976) rfl (by omega)), own_2_165, if_pos (own_gtT (k := 65007) (z := 65007) rfl (by omega)), own_2_171, if_neg (own_eqF (k := 65534) (z := 65534) rfl (by omega)), own_2_177, if_neg (own_eqF (k := 65535) (z := 65535) rfl (by omega)), own_2_183, if_neg (own_ltF (k := 983040) (z := 983040) rfl (by omega)), own_2_189]
theorem own_hi {c : Int32} (h : 128 ≤ c.toInt) : own_1_23 c = own_2_49 c := by
  have q : (128 ≤ c.toInt ∧ c.toInt ≤ 191) ∨ (192 ≤ c.toInt ∧ c.toInt ≤ 214) ∨ (215 ≤ c.toInt ∧ c.toInt ≤ 215) ∨ (216 ≤ c.toInt ∧ c.toInt ≤ 246) ∨ (247 ≤ c.toInt ∧ c.toInt ≤ 247) ∨ (248 ≤ c.toInt ∧ c.toInt ≤ 767) ∨ (768 ≤ c.toInt ∧ c.toInt ≤ 879) ∨ (880 ≤ c.toInt ∧ c.toInt ≤ 893) ∨ (894 ≤ c.toInt ∧ c.toInt ≤ 894) ∨ (895 ≤ c.toInt ∧ c.toInt ≤ 8191) ∨ (8192 ≤ c.toInt ∧ c.toInt ≤ 8203) ∨ (8204 ≤ c.toInt ∧ c.toInt ≤ 8205) ∨ (8206 ≤ c.toInt ∧ c.toInt ≤ 8303) ∨ (8304 ≤ c.toInt ∧ c.toInt ≤ 8591) ∨ (8592 ≤ c.toInt ∧ c.toInt ≤ 11263) ∨ (11264 ≤ c.toInt ∧ c.toInt ≤ 12271) ∨ (12272 ≤ c.toInt ∧ c.toInt ≤ 12288) ∨ (12289 ≤ c.toInt ∧ c.toInt ≤ 55295) ∨ (55296 ≤ c.toInt ∧ c.toInt ≤ 63743) ∨ (63744 ≤ c.toInt ∧ c.toInt ≤ 64975) ∨ (64976 ≤ c.toInt ∧ c.toInt ≤ 65007) ∨ (65008 ≤ c.toInt ∧ c.toInt ≤ 65533) ∨ (65534 ≤ c.toInt ∧ c.toInt ≤ 65534) ∨ (65535 ≤ c.toInt ∧ c.toInt ≤ 65535) ∨ (65536 ≤ c.toInt ∧ c.toInt ≤ 983039) ∨ (983040 ≤ c.toInt) := by omega
  rcases q with q | q | q | q | q | q | q | q | q | q | q | q | q | q | q | q | q | q | q | q | q | q | q | q | q | q
  · exact own_iv0 q
  · exact own_iv1 q
  · exact own_iv2 q
  · exact own_iv3 q
  · exact own_iv4 q
  · exact own_iv5 q
  · exact own_iv6 q
  · exact own_iv7 q
  · exact own_iv8 q
  · exact own_iv9 q
  · exact own_iv10 q
  · exact own_iv11 q
  · exact own_iv12 q
  · exact own_iv13 q
  · exact own_iv14 q
  · exact own_iv15 q
  · exact own_iv16 q
  · exact own_iv17 q
  · exact own_iv18 q
  · exact own_iv19 q
  · exact own_iv20 q
  · exact own_iv21 q
  · exact own_iv22 q
  · exact own_iv23 q
  · exact own_iv24 q
  · exact own_iv25 q
theorem own_lo : ∀ k : Fin 128, own_1_0 (Nat.toInt32 k.val) = own_2_0 (Nat.toInt32 k.val) := by decide +kernel
theorem own_plain (c : Int32) (h : ¬ c < 0) : own_1_0 c = own_2_0 c := by
  by_cases q : c.toInt < 128
  · have e := (back32 h).1
    have b : c.toNatClampNeg < 128 := by simp only [Int32.toNatClampNeg]; omega
    have := own_lo ⟨c.toNatClampNeg, b⟩
    rw [← e]; exact this
  · rw [own_1_0, if_neg (own_ltF (k := 128) (z := 128) rfl (by omega)), own_2_0, if_neg (own_ltF (k := 128) (z := 128) rfl (by omega))]; exact own_hi (by omega)
theorem own_nn (q k : Int32) (h : 0 ≤ k.toInt) : ¬ (q &&& k) < 0 := by rw [Int32.lt_iff_toInt_lt]; have := (c_and q k h).1; show ¬ (q &&& k).toInt < 0; omega
theorem ef_0 (m : MethodId) (x0 : Int32) (x1 : Int32) : entryFrame m #[(.int x0), (.int x1)] maxLocals = mkF m 0 #[.val (.int x0), .val (.int x1), .unset, .unset] [] := by first | (simp [entryFrame, mkF, argsToLocals, Value.category, maxLocals]; done) | rfl
def Q0 (Z : State) (u1 u2 : Int32) (nk : Addr) (cl : Cell) (h0 : Heap) (n0 : Nat) (v : Option Value) (h : Heap) (L : List Loc) : Prop := v = some (.int 1) ∧ Fr n0 L
set_option maxRecDepth 65536 in
set_option maxHeartbeats 40000000 in
theorem rm0 (l : Launch) (Z : State) (a0 : Array Value) (hw : ∀ d ∈ tables_1, d.before a0 Z = true) (u1 u2 : Int32) (nk : Addr) (cl : Cell) (h0 : Heap) (n0 : Nat) (Z0 : n0 ≤ h0.size) (S : Sta Z h0 "com/example/cabezal/cabezal/xml/XmlParser" "NAME_KIND" "[B" (.ref nk)) (A : Arr Z h0 nk cl .byte) (hat : ∀ j : Int32, ¬ j < 0 → j < 128 → ¬ (j < 0 ∨ cl.slots.size ≤ j.toNatClampNeg) ∧ cl.slots[j.toNatClampNeg]? = some (.int (own_nk j))) :
    own_Ct l Z x code maxLocals ret room_1 #[(.int u1), (.int u2)] h0 (Q0 Z u1 u2 nk cl h0 n0) := by
  refine own_body pn_0 ?_
  intro p e s m below meth cd s₁ hx hZ hby hml hown hnm hret hk X0 e0
  have N0 := Fr.nil n0
  refine own_to (s₁.setTop (mkF m 0 #[.val (.int u1), .val (.int u2), .unset, .unset] [])) (fun t k => castTop (ef_0 m u1 u2) k) ?_
  refine own_to (s₁.setTop (mkF m 1 #[.val (.int u1), .val (.int u2), .unset, .unset] [(.int u2)])) (fun t k => XS.iloadN X0.here hx rfl (hb hby at_0) rfl k) ?_
  refine own_to (s₁.setTop (mkF m 2 #[.val (.int u1), .val (.int u2), .unset, .unset] [(.int (3 : Int32)), (.int u2)])) (fun t k => XT.iconstV X0.here hx rfl (3 : Int32) (hb hby at_1) (by decide) k) ?_
  refine own_to (s₁.setTop (mkF m 3 #[.val (.int u1), .val (.int u2), .unset, .unset] [(.int (u2 &&& (3 : Int32)))])) (fun t k => XS.iand X0.here hx rfl (hb hby at_2) rfl k) ?_
  refine own_to (s₁.setTop (mkF m 4 #[.val (.int u1), .val (.int u2), .val (.int (u2 &&& (3 : Int32))), .unset] [])) (fun t k => XS.istoreN X0.here hx rfl (hb hby at_3) rfl (l' := #[.val (.int u1), .val (.int u2), .val (.int (u2 &&& (3 : Int32))), .unset]) rfl k) ?_
  refine own_to (s₁.setTop (mkF m 5 #[.val (.int u1), .val (.int u2), .val (.int (u2 &&& (3 : Int32))), .unset] [(.int (u2 &&& (3 : Int32)))])) (fun t k => XS.iloadN X0.here hx rfl (hb hby at_4) rfl k) ?_
  by_cases c11 : (u2 &&& (3 : Int32)) = (0 : Int32)
  · -- c11 yes
    refine own_to (s₁.setTop (mkF m 8 #[.val (.int u1), .val (.int u2), .val (.int (u2 &&& (3 : Int32))), .unset] [])) (fun t k => XS.ifNo X0.here hx rfl (hb hby at_5) rfl ((if0 _ _).trans (teq c11).2) k) ?_
    refine own_to (s₁.setTop (mkF m 9 #[.val (.int u1), .val (.int u2), .val (.int (u2 &&& (3 : Int32))), .unset] [(.int u1)])) (fun t k => XS.iloadN X0.here hx rfl (hb hby at_8) rfl k) ?_
    refine own_to (s₁.setTop (mkF m 11 #[.val (.int u1), .val (.int u2), .val (.int (u2 &&& (3 : Int32))), .unset] [(.int (127 : Int32)), (.int u1)])) (fun t k => XT.bipushV X0.here hx rfl (127 : Int32) (hb hby at_9) (by decide) k) ?_
    refine own_to (s₁.setTop (mkF m 12 #[.val (.int u1), .val (.int u2), .val (.int (u2 &&& (3 : Int32))), .unset] [(.int (u1 &&& (127 : Int32)))])) (fun t k => XS.iand X0.here hx rfl (hb hby at_11) rfl k) ?_
    refine own_to (s₁.setTop (mkF m 13 #[.val (.int u1), .val (.int u2), .val (.int (u2 &&& (3 : Int32))), .val (.int (u1 &&& (127 : Int32)))] [])) (fun t k => XS.istoreN X0.here hx rfl (hb hby at_12) rfl (l' := #[.val (.int u1), .val (.int u2), .val (.int (u2 &&& (3 : Int32))), .val (.int (u1 &&& (127 : Int32)))]) rfl k) ?_
    refine own_to (s₁.setTop (mkF m 47 #[.val (.int u1), .val (.int u2), .val (.int (u2 &&& (3 : Int32))), .val (.int (u1 &&& (127 : Int32)))] [])) (fun t k => XS.goto X0.here hx rfl (pc0 := 13) (pc' := 47) rfl (hb hby at_13) (by decide) (by decide) k) ?_
    refine own_to (s₁.setTop (mkF m 48 #[.val (.int u1), .val (.int u2), .val (.int (u2 &&& (3 : Int32))), .val (.int (u1 &&& (127 : Int32)))] [(.int (u1 &&& (127 : Int32)))])) (fun t k => XS.iloadN X0.here hx rfl (hb hby at_47) rfl k) ?_
    obtain ⟨v12, T12, L12, X12, hQ12, st12⟩ := own_callS X0 hx hZ hown (hw _ (List.mem_of_getElem? (i := 1) rfl)) (hw _ (List.mem_of_getElem? (i := 2) rfl)) (hw _ (List.mem_of_getElem? (i := 4) rfl)) (hw _ (List.mem_of_getElem? (i := 3) rfl)) (by decide) e0 (argsL := [(.int (u1 &&& (127 : Int32)))]) (rest := []) (rm1 l Z a0 hw (u1 &&& (127 : Int32)) nk cl h0 n0 Z0 S A (own_nn u1 (127 : Int32) (by decide)) hat) (by decide) (W := 0) (by decide) (by decide) (by decide) pd_1 rfl (pc := 48) (Ls := #[.val (.int u1), .val (.int u2), .val (.int (u2 &&& (3 : Int32))), .val (.int (u1 &&& (127 : Int32)))]) (by rw [hml]; rfl) (Nat.le_of_eq rfl) (hb hby at_48)
    obtain ⟨rfl, M12, e12⟩ := hQ12
    have N12 := Fr.app N0 M12
    refine own_to (T12.setTop (mkF m 51 #[.val (.int u1), .val (.int u2), .val (.int (u2 &&& (3 : Int32))), .val (.int (u1 &&& (127 : Int32)))] [(.int (own_1_0 (u1 &&& (127 : Int32))))])) (fun t k => st12 t k) ?_
    refine own_to (T12.setTop (mkF m 52 #[.val (.int u1), .val (.int u2), .val (.int (u2 &&& (3 : Int32))), .val (.int (u1 &&& (127 : Int32)))] [(.int (u1 &&& (127 : Int32))), (.int (own_1_0 (u1 &&& (127 : Int32))))])) (fun t k => XS.iloadN X12.here hx rfl (hb hby at_51) rfl k) ?_
    obtain ⟨v13, T13, L13, X13, hQ13, st13⟩ := own_callS X12 hx hZ hown (hw _ (List.mem_of_getElem? (i := 7) rfl)) (hw _ (List.mem_of_getElem? (i := 8) rfl)) (hw _ (List.mem_of_getElem? (i := 10) rfl)) (hw _ (List.mem_of_getElem? (i := 9) rfl)) (by decide) e12 (argsL := [(.int (u1 &&& (127 : Int32)))]) (rest := [(.int (own_1_0 (u1 &&& (127 : Int32))))]) (rm2 l Z a0 hw (u1 &&& (127 : Int32)) h0 n0 Z0) (by decide) (W := 1) (by decide) (by decide) (by decide) pd_2 rfl (pc := 52) (Ls := #[.val (.int u1), .val (.int u2), .val (.int (u2 &&& (3 : Int32))), .val (.int (u1 &&& (127 : Int32)))]) (by rw [hml]; rfl) (Nat.le_of_eq rfl) (hb hby at_52)
    obtain ⟨rfl, M13, e13⟩ := hQ13
    have N13 := Fr.app N12 M13
    refine own_to (T13.setTop (mkF m 55 #[.val (.int u1), .val (.int u2), .val (.int (u2 &&& (3 : Int32))), .val (.int (u1 &&& (127 : Int32)))] [(.int (own_2_0 (u1 &&& (127 : Int32)))), (.int (own_1_0 (u1 &&& (127 : Int32))))])) (fun t k => st13 t k) ?_
    refine own_to (T13.setTop (mkF m 58 #[.val (.int u1), .val (.int u2), .val (.int (u2 &&& (3 : Int32))), .val (.int (u1 &&& (127 : Int32)))] [])) (fun t k => XS.icmpNo X13.here hx rfl (hb hby at_55) rfl (teq (own_plain _ (own_nn u1 (127 : Int32) (by decide)))).2 k) ?_
    refine own_to (T13.setTop (mkF m 59 #[.val (.int u1), .val (.int u2), .val (.int (u2 &&& (3 : Int32))), .val (.int (u1 &&& (127 : Int32)))] [(.int (1 : Int32))])) (fun t k => XT.iconstV X13.here hx rfl (1 : Int32) (hb hby at_58) (by decide) k) ?_
    refine own_to (T13.setTop (mkF m 63 #[.val (.int u1), .val (.int u2), .val (.int (u2 &&& (3 : Int32))), .val (.int (u1 &&& (127 : Int32)))] [(.int (1 : Int32))])) (fun t k => XS.goto X13.here hx rfl (pc0 := 59) (pc' := 63) rfl (hb hby at_59) (by decide) (by decide) k) ?_
    exact own_retZ X13 hx hret hk (i' := (1 : Int32)) (hb hby at_63) (by decide) (by decide) (by decide) ⟨rfl, N13⟩
  · -- c11 no
    refine own_to (s₁.setTop (mkF m 16 #[.val (.int u1), .val (.int u2), .val (.int (u2 &&& (3 : Int32))), .unset] [])) (fun t k => XS.ifYes X0.here hx rfl (pc0 := 5) (pc' := 16) rfl (hb hby at_5) rfl ((if0 _ _).trans (feq c11).2) (by decide) (by decide) k) ?_
    refine own_to (s₁.setTop (mkF m 17 #[.val (.int u1), .val (.int u2), .val (.int (u2 &&& (3 : Int32))), .unset] [(.int (u2 &&& (3 : Int32)))])) (fun t k => XS.iloadN X0.here hx rfl (hb hby at_16) rfl k) ?_
    refine own_to (s₁.setTop (mkF m 18 #[.val (.int u1), .val (.int u2), .val (.int (u2 &&& (3 : Int32))), .unset] [(.int (1 : Int32)), (.int (u2 &&& (3 : Int32)))])) (fun t k => XT.iconstV X0.here hx rfl (1 : Int32) (hb hby at_17) (by decide) k) ?_
    by_cases c14 : (u2 &&& (3 : Int32)) = (1 : Int32)
    · -- c14 yes
      refine own_to (s₁.setTop (mkF m 21 #[.val (.int u1), .val (.int u2), .val (.int (u2 &&& (3 : Int32))), .unset] [])) (fun t k => XS.icmpNo X0.here hx rfl (hb hby at_18) rfl (teq c14).2 k) ?_
      refine own_to (s₁.setTop (mkF m 22 #[.val (.int u1), .val (.int u2), .val (.int (u2 &&& (3 : Int32))), .unset] [(.int u1)])) (fun t k => XS.iloadN X0.here hx rfl (hb hby at_21) rfl k) ?_
      refine own_to (s₁.setTop (mkF m 24 #[.val (.int u1), .val (.int u2), .val (.int (u2 &&& (3 : Int32))), .unset] [(.int (65535 : Int32)), (.int u1)])) (fun t k => X0.ldcI hx hown (mvT hZ (hw _ (List.mem_of_getElem? (i := 11) rfl))) rfl (hb hby at_22) k) ?_
      refine own_to (s₁.setTop (mkF m 25 #[.val (.int u1), .val (.int u2), .val (.int (u2 &&& (3 : Int32))), .unset] [(.int (u1 &&& (65535 : Int32)))])) (fun t k => XS.iand X0.here hx rfl (hb hby at_24) rfl k) ?_
      refine own_to (s₁.setTop (mkF m 26 #[.val (.int u1), .val (.int u2), .val (.int (u2 &&& (3 : Int32))), .val (.int (u1 &&& (65535 : Int32)))] [])) (fun t k => XS.istoreN X0.here hx rfl (hb hby at_25) rfl (l' := #[.val (.int u1), .val (.int u2), .val (.int (u2 &&& (3 : Int32))), .val (.int (u1 &&& (65535 : Int32)))]) rfl k) ?_
      refine own_to (s₁.setTop (mkF m 47 #[.val (.int u1), .val (.int u2), .val (.int (u2 &&& (3 : Int32))), .val (.int (u1 &&& (65535 : Int32)))] [])) (fun t k => XS.goto X0.here hx rfl (pc0 := 26) (pc' := 47) rfl (hb hby at_26) (by decide) (by decide) k) ?_
      refine own_to (s₁.setTop (mkF m 48 #[.val (.int u1), .val (.int u2), .val (.int (u2 &&& (3 : Int32))), .val (.int (u1 &&& (65535 : Int32)))] [(.int (u1 &&& (65535 : Int32)))])) (fun t k => XS.iloadN X0.here hx rfl (hb hby at_47) rfl k) ?_
      obtain ⟨v15, T15, L15, X15, hQ15, st15⟩ := own_callS X0 hx hZ hown (hw _ (List.mem_of_getElem? (i := 1) rfl)) (hw _ (List.mem_of_getElem? (i := 2) rfl)) (hw _ (List.mem_of_getElem? (i := 4) rfl)) (hw _ (List.mem_of_getElem? (i := 3) rfl)) (by decide) e0 (argsL := [(.int (u1 &&& (65535 : Int32)))]) (rest := []) (rm1 l Z a0 hw (u1 &&& (65535 : Int32)) nk cl h0 n0 Z0 S A (own_nn u1 (65535 : Int32) (by decide)) hat) (by decide) (W := 0) (by decide) (by decide) (by decide) pd_1 rfl (pc := 48) (Ls := #[.val (.int u1), .val (.int u2), .val (.int (u2 &&& (3 : Int32))), .val (.int (u1 &&& (65535 : Int32)))]) (by rw [hml]; rfl) (Nat.le_of_eq rfl) (hb hby at_48)
      obtain ⟨rfl, M15, e15⟩ := hQ15
      have N15 := Fr.app N0 M15
      refine own_to (T15.setTop (mkF m 51 #[.val (.int u1), .val (.int u2), .val (.int (u2 &&& (3 : Int32))), .val (.int (u1 &&& (65535 : Int32)))] [(.int (own_1_0 (u1 &&& (65535 : Int32))))])) (fun t k => st15 t k) ?_
      refine own_to (T15.setTop (mkF m 52 #[.val (.int u1), .val (.int u2), .val (.int (u2 &&& (3 : Int32))), .val (.int (u1 &&& (65535 : Int32)))] [(.int (u1 &&& (65535 : Int32))), (.int (own_1_0 (u1 &&& (65535 : Int32))))])) (fun t k => XS.iloadN X15.here hx rfl (hb hby at_51) rfl k) ?_
      obtain ⟨v16, T16, L16, X16, hQ16, st16⟩ := own_callS X15 hx hZ hown (hw _ (List.mem_of_getElem? (i := 7) rfl)) (hw _ (List.mem_of_getElem? (i := 8) rfl)) (hw _ (List.mem_of_getElem? (i := 10) rfl)) (hw _ (List.mem_of_getElem? (i := 9) rfl)) (by decide) e15 (argsL := [(.int (u1 &&& (65535 : Int32)))]) (rest := [(.int (own_1_0 (u1 &&& (65535 : Int32))))]) (rm2 l Z a0 hw (u1 &&& (65535 : Int32)) h0 n0 Z0) (by decide) (W := 1) (by decide) (by decide) (by decide) pd_2 rfl (pc := 52) (Ls := #[.val (.int u1), .val (.int u2), .val (.int (u2 &&& (3 : Int32))), .val (.int (u1 &&& (65535 : Int32)))]) (by rw [hml]; rfl) (Nat.le_of_eq rfl) (hb hby at_52)
      obtain ⟨rfl, M16, e16⟩ := hQ16
      have N16 := Fr.app N15 M16
      refine own_to (T16.setTop (mkF m 55 #[.val (.int u1), .val (.int u2), .val (.int (u2 &&& (3 : Int32))), .val (.int (u1 &&& (65535 : Int32)))] [(.int (own_2_0 (u1 &&& (65535 : Int32)))), (.int (own_1_0 (u1 &&& (65535 : Int32))))])) (fun t k => st16 t k) ?_
      refine own_to (T16.setTop (mkF m 58 #[.val (.int u1), .val (.int u2), .val (.int (u2 &&& (3 : Int32))), .val (.int (u1 &&& (65535 : Int32)))] [])) (fun t k => XS.icmpNo X16.here hx rfl (hb hby at_55) rfl (teq (own_plain _ (own_nn u1 (65535 : Int32) (by decide)))).2 k) ?_
      refine own_to (T16.setTop (mkF m 59 #[.val (.int u1), .val (.int u2), .val (.int (u2 &&& (3 : Int32))), .val (.int (u1 &&& (65535 : Int32)))] [(.int (1 : Int32))])) (fun t k => XT.iconstV X16.here hx rfl (1 : Int32) (hb hby at_58) (by decide) k) ?_
      refine own_to (T16.setTop (mkF m 63 #[.val (.int u1), .val (.int u2), .val (.int (u2 &&& (3 : Int32))), .val (.int (u1 &&& (65535 : Int32)))] [(.int (1 : Int32))])) (fun t k => XS.goto X16.here hx rfl (pc0 := 59) (pc' := 63) rfl (hb hby at_59) (by decide) (by decide) k) ?_
      exact own_retZ X16 hx hret hk (i' := (1 : Int32)) (hb hby at_63) (by decide) (by decide) (by decide) ⟨rfl, N16⟩
    · -- c14 no
      refine own_to (s₁.setTop (mkF m 29 #[.val (.int u1), .val (.int u2), .val (.int (u2 &&& (3 : Int32))), .unset] [])) (fun t k => XS.icmpYes X0.here hx rfl (pc0 := 18) (pc' := 29) rfl (hb hby at_18) rfl (feq c14).2 (by decide) (by decide) k) ?_
      refine own_to (s₁.setTop (mkF m 30 #[.val (.int u1), .val (.int u2), .val (.int (u2 &&& (3 : Int32))), .unset] [(.int (u2 &&& (3 : Int32)))])) (fun t k => XS.iloadN X0.here hx rfl (hb hby at_29) rfl k) ?_
      refine own_to (s₁.setTop (mkF m 31 #[.val (.int u1), .val (.int u2), .val (.int (u2 &&& (3 : Int32))), .unset] [(.int (2 : Int32)), (.int (u2 &&& (3 : Int32)))])) (fun t k => XT.iconstV X0.here hx rfl (2 : Int32) (hb hby at_30) (by decide) k) ?_
      by_cases c17 : (u2 &&& (3 : Int32)) = (2 : Int32)
      · -- c17 yes
        refine own_to (s₁.setTop (mkF m 34 #[.val (.int u1), .val (.int u2), .val (.int (u2 &&& (3 : Int32))), .unset] [])) (fun t k => XS.icmpNo X0.here hx rfl (hb hby at_31) rfl (teq c17).2 k) ?_
        refine own_to (s₁.setTop (mkF m 35 #[.val (.int u1), .val (.int u2), .val (.int (u2 &&& (3 : Int32))), .unset] [(.int u1)])) (fun t k => XS.iloadN X0.here hx rfl (hb hby at_34) rfl k) ?_
        refine own_to (s₁.setTop (mkF m 37 #[.val (.int u1), .val (.int u2), .val (.int (u2 &&& (3 : Int32))), .unset] [(.int (2097151 : Int32)), (.int u1)])) (fun t k => X0.ldcI hx hown (mvT hZ (hw _ (List.mem_of_getElem? (i := 23) rfl))) rfl (hb hby at_35) k) ?_
        refine own_to (s₁.setTop (mkF m 38 #[.val (.int u1), .val (.int u2), .val (.int (u2 &&& (3 : Int32))), .unset] [(.int (u1 &&& (2097151 : Int32)))])) (fun t k => XS.iand X0.here hx rfl (hb hby at_37) rfl k) ?_
        refine own_to (s₁.setTop (mkF m 39 #[.val (.int u1), .val (.int u2), .val (.int (u2 &&& (3 : Int32))), .val (.int (u1 &&& (2097151 : Int32)))] [])) (fun t k => XS.istoreN X0.here hx rfl (hb hby at_38) rfl (l' := #[.val (.int u1), .val (.int u2), .val (.int (u2 &&& (3 : Int32))), .val (.int (u1 &&& (2097151 : Int32)))]) rfl k) ?_
        refine own_to (s₁.setTop (mkF m 47 #[.val (.int u1), .val (.int u2), .val (.int (u2 &&& (3 : Int32))), .val (.int (u1 &&& (2097151 : Int32)))] [])) (fun t k => XS.goto X0.here hx rfl (pc0 := 39) (pc' := 47) rfl (hb hby at_39) (by decide) (by decide) k) ?_
        refine own_to (s₁.setTop (mkF m 48 #[.val (.int u1), .val (.int u2), .val (.int (u2 &&& (3 : Int32))), .val (.int (u1 &&& (2097151 : Int32)))] [(.int (u1 &&& (2097151 : Int32)))])) (fun t k => XS.iloadN X0.here hx rfl (hb hby at_47) rfl k) ?_
        obtain ⟨v18, T18, L18, X18, hQ18, st18⟩ := own_callS X0 hx hZ hown (hw _ (List.mem_of_getElem? (i := 1) rfl)) (hw _ (List.mem_of_getElem? (i := 2) rfl)) (hw _ (List.mem_of_getElem? (i := 4) rfl)) (hw _ (List.mem_of_getElem? (i := 3) rfl)) (by decide) e0 (argsL := [(.int (u1 &&& (2097151 : Int32)))]) (rest := []) (rm1 l Z a0 hw (u1 &&& (2097151 : Int32)) nk cl h0 n0 Z0 S A (own_nn u1 (2097151 : Int32) (by decide)) hat) (by decide) (W := 0) (by decide) (by decide) (by decide) pd_1 rfl (pc := 48) (Ls := #[.val (.int u1), .val (.int u2), .val (.int (u2 &&& (3 : Int32))), .val (.int (u1 &&& (2097151 : Int32)))]) (by rw [hml]; rfl) (Nat.le_of_eq rfl) (hb hby at_48)
        obtain ⟨rfl, M18, e18⟩ := hQ18
        have N18 := Fr.app N0 M18
        refine own_to (T18.setTop (mkF m 51 #[.val (.int u1), .val (.int u2), .val (.int (u2 &&& (3 : Int32))), .val (.int (u1 &&& (2097151 : Int32)))] [(.int (own_1_0 (u1 &&& (2097151 : Int32))))])) (fun t k => st18 t k) ?_
        refine own_to (T18.setTop (mkF m 52 #[.val (.int u1), .val (.int u2), .val (.int (u2 &&& (3 : Int32))), .val (.int (u1 &&& (2097151 : Int32)))] [(.int (u1 &&& (2097151 : Int32))), (.int (own_1_0 (u1 &&& (2097151 : Int32))))])) (fun t k => XS.iloadN X18.here hx rfl (hb hby at_51) rfl k) ?_
        obtain ⟨v19, T19, L19, X19, hQ19, st19⟩ := own_callS X18 hx hZ hown (hw _ (List.mem_of_getElem? (i := 7) rfl)) (hw _ (List.mem_of_getElem? (i := 8) rfl)) (hw _ (List.mem_of_getElem? (i := 10) rfl)) (hw _ (List.mem_of_getElem? (i := 9) rfl)) (by decide) e18 (argsL := [(.int (u1 &&& (2097151 : Int32)))]) (rest := [(.int (own_1_0 (u1 &&& (2097151 : Int32))))]) (rm2 l Z a0 hw (u1 &&& (2097151 : Int32)) h0 n0 Z0) (by decide) (W := 1) (by decide) (by decide) (by decide) pd_2 rfl (pc := 52) (Ls := #[.val (.int u1), .val (.int u2), .val (.int (u2 &&& (3 : Int32))), .val (.int (u1 &&& (2097151 : Int32)))]) (by rw [hml]; rfl) (Nat.le_of_eq rfl) (hb hby at_52)
        obtain ⟨rfl, M19, e19⟩ := hQ19
        have N19 := Fr.app N18 M19
        refine own_to (T19.setTop (mkF m 55 #[.val (.int u1), .val (.int u2), .val (.int (u2 &&& (3 : Int32))), .val (.int (u1 &&& (2097151 : Int32)))] [(.int (own_2_0 (u1 &&& (2097151 : Int32)))), (.int (own_1_0 (u1 &&& (2097151 : Int32))))])) (fun t k => st19 t k) ?_
        refine own_to (T19.setTop (mkF m 58 #[.val (.int u1), .val (.int u2), .val (.int (u2 &&& (3 : Int32))), .val (.int (u1 &&& (2097151 : Int32)))] [])) (fun t k => XS.icmpNo X19.here hx rfl (hb hby at_55) rfl (teq (own_plain _ (own_nn u1 (2097151 : Int32) (by decide)))).2 k) ?_
        refine own_to (T19.setTop (mkF m 59 #[.val (.int u1), .val (.int u2), .val (.int (u2 &&& (3 : Int32))), .val (.int (u1 &&& (2097151 : Int32)))] [(.int (1 : Int32))])) (fun t k => XT.iconstV X19.here hx rfl (1 : Int32) (hb hby at_58) (by decide) k) ?_
        refine own_to (T19.setTop (mkF m 63 #[.val (.int u1), .val (.int u2), .val (.int (u2 &&& (3 : Int32))), .val (.int (u1 &&& (2097151 : Int32)))] [(.int (1 : Int32))])) (fun t k => XS.goto X19.here hx rfl (pc0 := 59) (pc' := 63) rfl (hb hby at_59) (by decide) (by decide) k) ?_
        exact own_retZ X19 hx hret hk (i' := (1 : Int32)) (hb hby at_63) (by decide) (by decide) (by decide) ⟨rfl, N19⟩
      · -- c17 no
        refine own_to (s₁.setTop (mkF m 42 #[.val (.int u1), .val (.int u2), .val (.int (u2 &&& (3 : Int32))), .unset] [])) (fun t k => XS.icmpYes X0.here hx rfl (pc0 := 31) (pc' := 42) rfl (hb hby at_31) rfl (feq c17).2 (by decide) (by decide) k) ?_
        refine own_to (s₁.setTop (mkF m 43 #[.val (.int u1), .val (.int u2), .val (.int (u2 &&& (3 : Int32))), .unset] [(.int u1)])) (fun t k => XS.iloadN X0.here hx rfl (hb hby at_42) rfl k) ?_
        refine own_to (s₁.setTop (mkF m 45 #[.val (.int u1), .val (.int u2), .val (.int (u2 &&& (3 : Int32))), .unset] [(.int (2147483647 : Int32)), (.int u1)])) (fun t k => X0.ldcI hx hown (mvT hZ (hw _ (List.mem_of_getElem? (i := 0) rfl))) rfl (hb hby at_43) k) ?_
        refine own_to (s₁.setTop (mkF m 46 #[.val (.int u1), .val (.int u2), .val (.int (u2 &&& (3 : Int32))), .unset] [(.int (u1 &&& (2147483647 : Int32)))])) (fun t k => XS.iand X0.here hx rfl (hb hby at_45) rfl k) ?_
        refine own_to (s₁.setTop (mkF m 47 #[.val (.int u1), .val (.int u2), .val (.int (u2 &&& (3 : Int32))), .val (.int (u1 &&& (2147483647 : Int32)))] [])) (fun t k => XS.istoreN X0.here hx rfl (hb hby at_46) rfl (l' := #[.val (.int u1), .val (.int u2), .val (.int (u2 &&& (3 : Int32))), .val (.int (u1 &&& (2147483647 : Int32)))]) rfl k) ?_
        refine own_to (s₁.setTop (mkF m 48 #[.val (.int u1), .val (.int u2), .val (.int (u2 &&& (3 : Int32))), .val (.int (u1 &&& (2147483647 : Int32)))] [(.int (u1 &&& (2147483647 : Int32)))])) (fun t k => XS.iloadN X0.here hx rfl (hb hby at_47) rfl k) ?_
        obtain ⟨v20, T20, L20, X20, hQ20, st20⟩ := own_callS X0 hx hZ hown (hw _ (List.mem_of_getElem? (i := 1) rfl)) (hw _ (List.mem_of_getElem? (i := 2) rfl)) (hw _ (List.mem_of_getElem? (i := 4) rfl)) (hw _ (List.mem_of_getElem? (i := 3) rfl)) (by decide) e0 (argsL := [(.int (u1 &&& (2147483647 : Int32)))]) (rest := []) (rm1 l Z a0 hw (u1 &&& (2147483647 : Int32)) nk cl h0 n0 Z0 S A (own_nn u1 (2147483647 : Int32) (by decide)) hat) (by decide) (W := 0) (by decide) (by decide) (by decide) pd_1 rfl (pc := 48) (Ls := #[.val (.int u1), .val (.int u2), .val (.int (u2 &&& (3 : Int32))), .val (.int (u1 &&& (2147483647 : Int32)))]) (by rw [hml]; rfl) (Nat.le_of_eq rfl) (hb hby at_48)
        obtain ⟨rfl, M20, e20⟩ := hQ20
        have N20 := Fr.app N0 M20
        refine own_to (T20.setTop (mkF m 51 #[.val (.int u1), .val (.int u2), .val (.int (u2 &&& (3 : Int32))), .val (.int (u1 &&& (2147483647 : Int32)))] [(.int (own_1_0 (u1 &&& (2147483647 : Int32))))])) (fun t k => st20 t k) ?_
        refine own_to (T20.setTop (mkF m 52 #[.val (.int u1), .val (.int u2), .val (.int (u2 &&& (3 : Int32))), .val (.int (u1 &&& (2147483647 : Int32)))] [(.int (u1 &&& (2147483647 : Int32))), (.int (own_1_0 (u1 &&& (2147483647 : Int32))))])) (fun t k => XS.iloadN X20.here hx rfl (hb hby at_51) rfl k) ?_
        obtain ⟨v21, T21, L21, X21, hQ21, st21⟩ := own_callS X20 hx hZ hown (hw _ (List.mem_of_getElem? (i := 7) rfl)) (hw _ (List.mem_of_getElem? (i := 8) rfl)) (hw _ (List.mem_of_getElem? (i := 10) rfl)) (hw _ (List.mem_of_getElem? (i := 9) rfl)) (by decide) e20 (argsL := [(.int (u1 &&& (2147483647 : Int32)))]) (rest := [(.int (own_1_0 (u1 &&& (2147483647 : Int32))))]) (rm2 l Z a0 hw (u1 &&& (2147483647 : Int32)) h0 n0 Z0) (by decide) (W := 1) (by decide) (by decide) (by decide) pd_2 rfl (pc := 52) (Ls := #[.val (.int u1), .val (.int u2), .val (.int (u2 &&& (3 : Int32))), .val (.int (u1 &&& (2147483647 : Int32)))]) (by rw [hml]; rfl) (Nat.le_of_eq rfl) (hb hby at_52)
        obtain ⟨rfl, M21, e21⟩ := hQ21
        have N21 := Fr.app N20 M21
        refine own_to (T21.setTop (mkF m 55 #[.val (.int u1), .val (.int u2), .val (.int (u2 &&& (3 : Int32))), .val (.int (u1 &&& (2147483647 : Int32)))] [(.int (own_2_0 (u1 &&& (2147483647 : Int32)))), (.int (own_1_0 (u1 &&& (2147483647 : Int32))))])) (fun t k => st21 t k) ?_
        refine own_to (T21.setTop (mkF m 58 #[.val (.int u1), .val (.int u2), .val (.int (u2 &&& (3 : Int32))), .val (.int (u1 &&& (2147483647 : Int32)))] [])) (fun t k => XS.icmpNo X21.here hx rfl (hb hby at_55) rfl (teq (own_plain _ (own_nn u1 (2147483647 : Int32) (by decide)))).2 k) ?_
        refine own_to (T21.setTop (mkF m 59 #[.val (.int u1), .val (.int u2), .val (.int (u2 &&& (3 : Int32))), .val (.int (u1 &&& (2147483647 : Int32)))] [(.int (1 : Int32))])) (fun t k => XT.iconstV X21.here hx rfl (1 : Int32) (hb hby at_58) (by decide) k) ?_
        refine own_to (T21.setTop (mkF m 63 #[.val (.int u1), .val (.int u2), .val (.int (u2 &&& (3 : Int32))), .val (.int (u1 &&& (2147483647 : Int32)))] [(.int (1 : Int32))])) (fun t k => XS.goto X21.here hx rfl (pc0 := 59) (pc' := 63) rfl (hb hby at_59) (by decide) (by decide) k) ?_
        exact own_retZ X21 hx hret hk (i' := (1 : Int32)) (hb hby at_63) (by decide) (by decide) (by decide) ⟨rfl, N21⟩
theorem own_orF {args : Array Value} {Z : State} {idx : List Nat} {A B : Jvm.Cond} (h : (Jvm.Cond.or A B).value args Z none Z idx = some true) (hA : A.value args Z none Z idx = some false) : B.value args Z none Z idx = some true := by
  simp only [Cond.value, hA] at h
  cases hB : B.value args Z none Z idx with
  | none => simp [hB] at h
  | some b => cases b <;> simp [hB] at h ⊢
theorem own_elem {args : Array Value} {Z : State} {idx : List Nat} {t i : Term} {a : Addr} {cl : Cell} {j v : Int32} (et : t.eval args Z none idx Z = some (.ref a)) (A : Arr Z Z.heap a cl .byte) (ej : i.eval args Z none idx Z = some (.int j)) (hj : ¬ j < 0) (h : (Jvm.Cond.eq (.elem t i) (.int v)).value args Z none Z idx = some true) : cl.slots[j.toNatClampNeg]? = some (.int v) := by
  have e := eqv_i (Term.int_eval v) h
  rw [elem_f et ej (A.fin (Vm.Alike.refl _)) hj] at e
  exact e
set_option maxRecDepth 65536 in
set_option maxHeartbeats 40000000 in
theorem comes_1 {Post : Tables → Env → Array Value → State → Outcome → State → Prop} (hpost : ∀ tb e args s v u, (limb_1_1.after args s (.returned v) u = true ∧ limb_1_2.after args s (.returned v) u = true ∧ True) → FrameEnd s (.returned v) u (Jvm.fieldLocs frame_1_writes args s ++ Jvm.arrayLocs frame_1_arrays args s ++ Jvm.staticLocs frame_1_statics s) 0 0 → Post tb e args s (.returned v) u) :
    ArmFor flags0 classFile x code maxLocals ret World_1 tables_1 room_1 Calls_1 rest_1 Pre_1 Post := by
  intro l hfl _ _ p e ha hc hk s m args below hf hA hF happ hP
  obtain ⟨hcalls, hrest, hpre⟩ := hP
  obtain ⟨-, -, -, hnamed, -, -, -, hat⟩ := (Spec.applies_iff hf).mp happ
  obtain ⟨hg, hn⟩ := and_e (Cond.before_iff.mp (show (Jvm.Cond.and given_1 narrow_1).before args s = true from hpre))
  obtain ⟨g0, k0⟩ := and_e hg
  obtain ⟨w0, w1, rfl⟩ : ∃ w0 w1 : Value, args = #[w0, w1] := by
    have hs : args.size = 2 := by simpa [Cond.value, given_1] using g0
    obtain ⟨L⟩ := args
    match L, hs with
    | [w0, w1], _ => exact ⟨w0, w1, rfl⟩
  have hw := fun d (hd : d ∈ tables_1) => atoms_spec (ws := Jvm.Cond.code x code maxLocals ret :: tables_1) hat d (List.mem_cons_of_mem _ hd)
  have hfit : Fit s := fun {y c} hc i hi => by
    obtain ⟨ha, rfl⟩ := Array.getElem?_eq_some_iff.mp hc
    have q := List.all_eq_true.mp ((Array.all_eq_true_iff_forall_mem.mp hF) _ (Array.getElem_mem ha)) i (List.mem_range.mpr hi)
    simpa [Array.getElem?_eq_getElem hi] using q
  obtain ⟨g1, k1⟩ := and_e k0
  obtain ⟨i0, ei0⟩ := is_v g1
  obtain rfl : w0 = (.int i0) := Option.some.inj ei0
  obtain ⟨i1, ei1⟩ := is_v k1
  obtain rfl : w1 = (.int i1) := Option.some.inj ei1
  obtain ⟨q0, q0r⟩ := and_e hn
  obtain ⟨q1, q1r⟩ := and_e q0r
  obtain ⟨q2, q2r⟩ := and_e q1r
  obtain ⟨q3, q3r⟩ := and_e q2r
  obtain ⟨q4, q4r⟩ := and_e q3r
  obtain ⟨q5, q5r⟩ := and_e q4r
  obtain ⟨q6, q6r⟩ := and_e q5r
  obtain ⟨q7, q7r⟩ := and_e q6r
  obtain ⟨q8, q8r⟩ := and_e q7r
  obtain ⟨q9, q9r⟩ := and_e q8r
  obtain ⟨q10, q10r⟩ := and_e q9r
  obtain ⟨q11, q11r⟩ := and_e q10r
  obtain ⟨q12, q12r⟩ := and_e q11r
  obtain ⟨q13, q13r⟩ := and_e q12r
  have q14 := q13r
  obtain ⟨nk, ev⟩ := arr_v q0
  have evi : ∀ idx, (Term.static "com/example/cabezal/cabezal/xml/XmlParser" "NAME_KIND" "[B").eval #[.int i0, .int i1] s none idx s = some (.ref nk) := fun idx => ev
  obtain ⟨cl, A⟩ := Arr.start ev q0
  have S := Sta.start ev (Or.inr ⟨(hw _ (List.mem_of_getElem? (i := 3) rfl)), (hw _ (List.mem_of_getElem? (i := 6) rfl))⟩)
  have ql := eqv_i (Term.int_eval 128) q1
  have sz : cl.slots.size = 128 := by
    obtain ⟨q2, q3⟩ := own_len ql ev (A.fin (Vm.Alike.refl _))
    have q4 := congrArg Int32.toInt q3; rw [len_toInt q2] at q4; have q5 : (128 : Int32).toInt = 128 := rfl; omega
  have hat : ∀ j : Int32, ¬ j < 0 → j < 128 → ¬ (j < 0 ∨ cl.slots.size ≤ j.toNatClampNeg) ∧ cl.slots[j.toNatClampNeg]? = some (.int (own_nk j)) := by
    intro j j0 j1
    have z0 : 0 ≤ j.toInt := by rw [Int32.lt_iff_toInt_lt] at j0; have : (0 : Int32).toInt = 0 := rfl; omega
    have z1 : j.toInt < 128 := by rw [Int32.lt_iff_toInt_lt] at j1; exact j1
    have hin : ¬ (j < 0 ∨ cl.slots.size ≤ j.toNatClampNeg) := by
      rintro (h | h)
      · exact j0 h
      · rw [sz] at h; simp only [Int32.toNatClampNeg] at h; omega
    have hlt : j.toNatClampNeg < cl.slots.size := Nat.lt_of_not_le fun q => hin (Or.inr q)
    refine ⟨hin, ?_⟩
    have q : (0 ≤ j.toInt ∧ j.toInt < 45) ∨ (45 ≤ j.toInt ∧ j.toInt < 46) ∨ (46 ≤ j.toInt ∧ j.toInt < 47) ∨ (47 ≤ j.toInt ∧ j.toInt < 48) ∨ (48 ≤ j.toInt ∧ j.toInt < 58) ∨ (58 ≤ j.toInt ∧ j.toInt < 59) ∨ (59 ≤ j.toInt ∧ j.toInt < 65) ∨ (65 ≤ j.toInt ∧ j.toInt < 91) ∨ (91 ≤ j.toInt ∧ j.toInt < 95) ∨ (95 ≤ j.toInt ∧ j.toInt < 96) ∨ (96 ≤ j.toInt ∧ j.toInt < 97) ∨ (97 ≤ j.toInt ∧ j.toInt < 123) ∨ (123 ≤ j.toInt ∧ j.toInt < 128) := by omega
    rcases q with q | q | q | q | q | q | q | q | q | q | q | q | q
    · rw [own_nk, if_pos (own_ltT (k := 45) (z := 45) rfl (by omega))]
      have u := Cond.all_elim ev (A.fin (Vm.Alike.refl _)) q2 j.toNatClampNeg hlt
      replace u := own_orF u (nay (Cond.le_ints (Term.int_eval 45) (idx_at j0)) (Int32.not_le.mpr (own_ltT (k := 45) (z := 45) rfl (by omega))))
      exact own_elem (evi _) A (idx_at j0) j0 u
    · rw [own_nk, if_neg (own_ltF (k := 45) (z := 45) rfl (by omega)), if_pos (own_ltT (k := 47) (z := 47) rfl (by omega))]
      have ej : j = 45 := own_eqT (k := 45) (z := 45) rfl (by omega)
      subst ej
      exact own_elem ev A (Term.int_eval 45) (by decide) q3
    · rw [own_nk, if_neg (own_ltF (k := 45) (z := 45) rfl (by omega)), if_pos (own_ltT (k := 47) (z := 47) rfl (by omega))]
      have ej : j = 46 := own_eqT (k := 46) (z := 46) rfl (by omega)
      subst ej
      exact own_elem ev A (Term.int_eval 46) (by decide) q4
    · rw [own_nk, if_neg (own_ltF (k := 45) (z := 45) rfl (by omega)), if_neg (own_ltF (k := 47) (z := 47) rfl (by omega)), if_pos (own_ltT (k := 48) (z := 48) rfl (by omega))]
      have ej : j = 47 := own_eqT (k := 47) (z := 47) rfl (by omega)
      subst ej
      exact own_elem ev A (Term.int_eval 47) (by decide) q5
    · rw [own_nk, if_neg (own_ltF (k := 45) (z := 45) rfl (by omega)), if_neg (own_ltF (k := 47) (z := 47) rfl (by omega)), if_neg (own_ltF (k := 48) (z := 48) rfl (by omega)), if_pos (own_ltT (k := 58) (z := 58) rfl (by omega))]
      have u := Cond.all_elim ev (A.fin (Vm.Alike.refl _)) q6 j.toNatClampNeg hlt
      replace u := own_orF u (nay (Cond.lt_ints (idx_at j0) (Term.int_eval 48)) (own_ltF (k := 48) (z := 48) rfl (by omega)))
      replace u := own_orF u (nay (Cond.le_ints (Term.int_eval 58) (idx_at j0)) (Int32.not_le.mpr (own_ltT (k := 58) (z := 58) rfl (by omega))))
      exact own_elem (evi _) A (idx_at j0) j0 u
    · rw [own_nk, if_neg (own_ltF (k := 45) (z := 45) rfl (by omega)), if_neg (own_ltF (k := 47) (z := 47) rfl (by omega)), if_neg (own_ltF (k := 48) (z := 48) rfl (by omega)), if_neg (own_ltF (k := 58) (z := 58) rfl (by omega)), if_pos (own_ltT (k := 59) (z := 59) rfl (by omega))]
      have ej : j = 58 := own_eqT (k := 58) (z := 58) rfl (by omega)
      subst ej
      exact own_elem ev A (Term.int_eval 58) (by decide) q7
    · rw [own_nk, if_neg (own_ltF (k := 45) (z := 45) rfl (by omega)), if_neg (own_ltF (k := 47) (z := 47) rfl (by omega)), if_neg (own_ltF (k := 48) (z := 48) rfl (by omega)), if_neg (own_ltF (k := 58) (z := 58) rfl (by omega)), if_neg (own_ltF (k := 59) (z := 59) rfl (by omega)), if_pos (own_ltT (k := 65) (z := 65) rfl (by omega))]
      have u := Cond.all_elim ev (A.fin (Vm.Alike.refl _)) q8 j.toNatClampNeg hlt
      replace u := own_orF u (nay (Cond.lt_ints (idx_at j0) (Term.int_eval 59)) (own_ltF (k := 59) (z := 59) rfl (by omega)))
      replace u := own_orF u (nay (Cond.le_ints (Term.int_eval 65) (idx_at j0)) (Int32.not_le.mpr (own_ltT (k := 65) (z := 65) rfl (by omega))))
      exact own_elem (evi _) A (idx_at j0) j0 u
    · rw [own_nk, if_neg (own_ltF (k := 45) (z := 45) rfl (by omega)), if_neg (own_ltF (k := 47) (z := 47) rfl (by omega)), if_neg (own_ltF (k := 48) (z := 48) rfl (by omega)), if_neg (own_ltF (k := 58) (z := 58) rfl (by omega)), if_neg (own_ltF (k := 59) (z := 59) rfl (by omega)), if_neg (own_ltF (k := 65) (z := 65) rfl (by omega)), if_pos (own_ltT (k := 91) (z := 91) rfl (by omega))]
      have u := Cond.all_elim ev (A.fin (Vm.Alike.refl _)) q9 j.toNatClampNeg hlt
      replace u := own_orF u (nay (Cond.lt_ints (idx_at j0) (Term.int_eval 65)) (own_ltF (k := 65) (z := 65) rfl (by omega)))
      replace u := own_orF u (nay (Cond.le_ints (Term.int_eval 91) (idx_at j0)) (Int32.not_le.mpr (own_ltT (k := 91) (z := 91) rfl (by omega))))
      exact own_elem (evi _) A (idx_at j0) j0 u
    · rw [own_nk, if_neg (own_ltF (k := 45) (z := 45) rfl (by omega)), if_neg (own_ltF (k := 47) (z := 47) rfl (by omega)), if_neg (own_ltF (k := 48) (z := 48) rfl (by omega)), if_neg (own_ltF (k := 58) (z := 58) rfl (by omega)), if_neg (own_ltF (k := 59) (z := 59) rfl (by omega)), if_neg (own_ltF (k := 65) (z := 65) rfl (by omega)), if_neg (own_ltF (k := 91) (z := 91) rfl (by omega)), if_pos (own_ltT (k := 95) (z := 95) rfl (by omega))]
      have u := Cond.all_elim ev (A.fin (Vm.Alike.refl _)) q10 j.toNatClampNeg hlt
      replace u := own_orF u (nay (Cond.lt_ints (idx_at j0) (Term.int_eval 91)) (own_ltF (k := 91) (z := 91) rfl (by omega)))
      replace u := own_orF u (nay (Cond.le_ints (Term.int_eval 95) (idx_at j0)) (Int32.not_le.mpr (own_ltT (k := 95) (z := 95) rfl (by omega))))
      exact own_elem (evi _) A (idx_at j0) j0 u
    · rw [own_nk, if_neg (own_ltF (k := 45) (z := 45) rfl (by omega)), if_neg (own_ltF (k := 47) (z := 47) rfl (by omega)), if_neg (own_ltF (k := 48) (z := 48) rfl (by omega)), if_neg (own_ltF (k := 58) (z := 58) rfl (by omega)), if_neg (own_ltF (k := 59) (z := 59) rfl (by omega)), if_neg (own_ltF (k := 65) (z := 65) rfl (by omega)), if_neg (own_ltF (k := 91) (z := 91) rfl (by omega)), if_neg (own_ltF (k := 95) (z := 95) rfl (by omega)), if_pos (own_ltT (k := 96) (z := 96) rfl (by omega))]
      have ej : j = 95 := own_eqT (k := 95) (z := 95) rfl (by omega)
      subst ej
      exact own_elem ev A (Term.int_eval 95) (by decide) q11
    · rw [own_nk, if_neg (own_ltF (k := 45) (z := 45) rfl (by omega)), if_neg (own_ltF (k := 47) (z := 47) rfl (by omega)), if_neg (own_ltF (k := 48) (z := 48) rfl (by omega)), if_neg (own_ltF (k := 58) (z := 58) rfl (by omega)), if_neg (own_ltF (k := 59) (z := 59) rfl (by omega)), if_neg (own_ltF (k := 65) (z := 65) rfl (by omega)), if_neg (own_ltF (k := 91) (z := 91) rfl (by omega)), if_neg (own_ltF (k := 95) (z := 95) rfl (by omega)), if_neg (own_ltF (k := 96) (z := 96) rfl (by omega)), if_pos (own_ltT (k := 97) (z := 97) rfl (by omega))]
      have ej : j = 96 := own_eqT (k := 96) (z := 96) rfl (by omega)
      subst ej
      exact own_elem ev A (Term.int_eval 96) (by decide) q12
    · rw [own_nk, if_neg (own_ltF (k := 45) (z := 45) rfl (by omega)), if_neg (own_ltF (k := 47) (z := 47) rfl (by omega)), if_neg (own_ltF (k := 48) (z := 48) rfl (by omega)), if_neg (own_ltF (k := 58) (z := 58) rfl (by omega)), if_neg (own_ltF (k := 59) (z := 59) rfl (by omega)), if_neg (own_ltF (k := 65) (z := 65) rfl (by omega)), if_neg (own_ltF (k := 91) (z := 91) rfl (by omega)), if_neg (own_ltF (k := 95) (z := 95) rfl (by omega)), if_neg (own_ltF (k := 96) (z := 96) rfl (by omega)), if_neg (own_ltF (k := 97) (z := 97) rfl (by omega)), if_pos (own_ltT (k := 123) (z := 123) rfl (by omega))]
      have u := Cond.all_elim ev (A.fin (Vm.Alike.refl _)) q13 j.toNatClampNeg hlt
      replace u := own_orF u (nay (Cond.lt_ints (idx_at j0) (Term.int_eval 97)) (own_ltF (k := 97) (z := 97) rfl (by omega)))
      replace u := own_orF u (nay (Cond.le_ints (Term.int_eval 123) (idx_at j0)) (Int32.not_le.mpr (own_ltT (k := 123) (z := 123) rfl (by omega))))
      exact own_elem (evi _) A (idx_at j0) j0 u
    · rw [own_nk, if_neg (own_ltF (k := 45) (z := 45) rfl (by omega)), if_neg (own_ltF (k := 47) (z := 47) rfl (by omega)), if_neg (own_ltF (k := 48) (z := 48) rfl (by omega)), if_neg (own_ltF (k := 58) (z := 58) rfl (by omega)), if_neg (own_ltF (k := 59) (z := 59) rfl (by omega)), if_neg (own_ltF (k := 65) (z := 65) rfl (by omega)), if_neg (own_ltF (k := 91) (z := 91) rfl (by omega)), if_neg (own_ltF (k := 95) (z := 95) rfl (by omega)), if_neg (own_ltF (k := 96) (z := 96) rfl (by omega)), if_neg (own_ltF (k := 97) (z := 97) rfl (by omega)), if_neg (own_ltF (k := 123) (z := 123) rfl (by omega))]
      have u := Cond.all_elim ev (A.fin (Vm.Alike.refl _)) q14 j.toNatClampNeg hlt
      replace u := own_orF u (nay (Cond.lt_ints (idx_at j0) (Term.int_eval 123)) (own_ltF (k := 123) (z := 123) rfl (by omega)))
      exact own_elem (evi _) A (idx_at j0) j0 u
  obtain ⟨n, o, h1, h2, h3, _, L, rfl, ⟨rfl, N⟩, hq⟩ := rm0 l s _ hw i0 i1 nk cl s.heap s.heap.size (Nat.le_refl _) S A hat tables_1 p e ha hc hk s m _ below hf ((Spec.applies_iff_loose hf).mp happ).1 ⟨rfl, State.Warmed39.refl s, rfl⟩ trivial
  refine ⟨n, _, h1, h2, h3, hpost _ _ _ _ _ _ ⟨Cond.after_iff.mpr rfl, Cond.after_iff.mpr (eq_i res_at (Term.int_eval (1)) rfl), trivial⟩ ⟨hq.1, hq.2.1, (hq.2.2.sift fun y hy => Or.inr (N y hy)).mono (by decide) (by decide)⟩⟩
theorem main_1_1 : Claimed_1_1 := comes_1 fun _ _ _ _ _ _ h hF => ⟨h.1, hF⟩
theorem main_1_2 : Claimed_1_2 := comes_1 fun _ _ _ _ _ _ h hF => ⟨h.2.1, hF⟩
end Jvm.Pilot.@@N@@
namespace Jvm.Pilot.@@N@@
open Jvm Jvm.ClassFile Sem Op Lib Jvm.Free Jvm.Stand Jvm.Pilot.@@N@@.Jvm.D
/-! MADE BY PROGRAM (witnessworld.py) out of the Statement's table words and the real class files: 11 classes; the members and pool entries that the words name. The judged class is class 1, her method 1. -/
namespace start1
open Jvm.ClassFile
def u (s : String) : CpInfo := .utf8 (stringToUtf16 s)
/-- a pool by its gaps: so many unusable entries, then the entry; so many at the end -/
def gap : Nat → List CpInfo → List CpInfo
  | 0, r => r
  | n + 1, r => .unusable :: gap n r
def poolList (es : List (Nat × CpInfo)) (last : Nat) : List CpInfo := es.foldr (fun e r => gap e.1 (e.2 :: r)) (gap last [])
def pool (es : List (Nat × CpInfo)) (last : Nat) : Array CpInfo := ⟨poolList es last⟩
def fileOf (pool : Array CpInfo) (this : Nat) (attrs : Array Attribute := #[]) (ms : Array MethodInfo := #[]) (fl : Nat := 33) (sup : Nat := 0) (ifs : Array Nat := #[]) (fds : Array FieldInfo := #[]) : ClassFile where
  minorVersion := 0
  majorVersion := 65
  constantPool := pool
  accessFlags := fl
  thisClass := this
  superClass := sup
  interfaces := ifs
  fields := fds
  methods := ms
  attributes := attrs
def plain (name : String) (sup : Option ClassId) : Class where
  name := name
  kind := .ordinary
  loader := none
  accessFlags := 33
  super := sup
  interfaces := #[]
  cf := none
  fields := #[]
  methods := #[]
  instanceTypes := #[]
  staticTypes := #[]
  resolved := #[]
  callSites := []
  init := .initialized
  statics := none
  mirror := none

def pool0 : Array CpInfo := pool [(5, u "<init>"), (0, u "()V"), (1, .class_ 10), (1, u "java/lang/Object")] 113

def k0m0 : Method := { name := "<init>", desc := "()V", sig := { parameters := [], returnType := none }, accessFlags := 1, code := none }
/-- java/lang/Object -/
def k0 : Class := { plain "java/lang/Object" none with
  accessFlags := 33
  interfaces := #[]
  cf := some (fileOf pool0 8 #[] #[{ accessFlags := 1, nameIndex := 5, descriptorIndex := 6, attributes := #[] }] 33 0 #[] #[])
  fields := #[]
  methods := #[k0m0]
  instanceTypes := #[]
  staticTypes := #[]
  resolved := Array.replicate 124 none
  statics := none }

def pool1 : Array CpInfo := pool [(2, .class_ 4), (1, u "java/lang/Object"), (0, u "<init>"), (0, u "()V"), (0, .integer 65535), (0, .integer 2097151), (0, .integer 2147483647), (0, .methodref 11 12), (0, .class_ 13), (0, .nameAndType 14 15), (0, u "com/example/cabezal/cabezal/xml/XmlParser"), (0, u "isNameStart"), (0, u "(I)Z"), (0, .methodref 17 18), (0, .class_ 19), (0, .nameAndType 20 15), (0, u "com/example/cabezal/cabezal/xml/XmlParserIsNameStartPinLaw"), (0, u "expected"), (0, .integer 55296), (0, .integer 63743), (0, .integer 64976), (0, .integer 65007), (0, .integer 65534), (0, .integer 983040), (2, u "law"), (0, u "(II)Z")] 3

def k1m0 : Method := { name := "<init>", desc := "()V", sig := { parameters := [], returnType := none }, accessFlags := 2, code := none }
def k1c1 : Code := { maxStack := 2, maxLocals := 4, code := code, exceptionTable := #[], attributes := #[] }
def k1m1 : Method := { name := "law", desc := "(II)Z", sig := { parameters := [.int, .int], returnType := some .boolean }, accessFlags := 9, code := some k1c1 }
def k1c2 : Code := { maxStack := 2, maxLocals := 2, code := method_3_code, exceptionTable := #[], attributes := #[] }
def k1m2 : Method := { name := "expected", desc := "(I)Z", sig := { parameters := [.int], returnType := some .boolean }, accessFlags := 10, code := some k1c2 }
/-- com/example/cabezal/cabezal/xml/XmlParserIsNameStartPinLaw -/
def k1 : Class := { plain "com/example/cabezal/cabezal/xml/XmlParserIsNameStartPinLaw" (some 0) with
  accessFlags := 49
  interfaces := #[]
  cf := some (fileOf pool1 17 #[] #[{ accessFlags := 2, nameIndex := 5, descriptorIndex := 6, attributes := #[] }, { accessFlags := 9, nameIndex := 29, descriptorIndex := 30, attributes := #[] }, { accessFlags := 10, nameIndex := 20, descriptorIndex := 15, attributes := #[] }] 49 2 #[] #[])
  fields := #[]
  methods := #[k1m0, k1m1, k1m2]
  instanceTypes := #[]
  staticTypes := #[]
  resolved := Array.replicate 34 none
  statics := none }

def pool2 : Array CpInfo := pool [(1, .class_ 2), (0, u "org/xml/sax/Locator"), (0, .class_ 4), (0, u "java/lang/Object")] 0

/-- org/xml/sax/Locator -/
def k2 : Class := { plain "org/xml/sax/Locator" (some 0) with
  accessFlags := 1537
  interfaces := #[]
  cf := some (fileOf pool2 1 #[] #[] 1537 3 #[] #[])
  fields := #[]
  methods := #[]
  instanceTypes := #[]
  staticTypes := #[]
  resolved := Array.replicate 5 none
  statics := none }

def pool3 : Array CpInfo := pool [(1, .class_ 2), (0, u "com/example/cabezal/cabezal/xml/StartTagLocator"), (0, .class_ 4), (0, u "java/lang/Object"), (0, .class_ 6), (0, u "org/xml/sax/Locator")] 16

/-- com/example/cabezal/cabezal/xml/StartTagLocator -/
def k3 : Class := { plain "com/example/cabezal/cabezal/xml/StartTagLocator" (some 0) with
  accessFlags := 1537
  interfaces := #[2]
  cf := some (fileOf pool3 1 #[] #[] 1537 3 #[5] #[])
  fields := #[]
  methods := #[]
  instanceTypes := #[]
  staticTypes := #[]
  resolved := Array.replicate 23 none
  statics := none }

def pool4 : Array CpInfo := pool [(1, .class_ 2), (0, u "com/example/cabezal/cabezal/xml/XmlParser"), (1, .class_ 6), (1, u "java/lang/Object"), (2, .class_ 10), (0, u "com/example/cabezal/cabezal/xml/XmlParser$Symbols"), (3, u "symbols"), (0, u "Lcom/example/cabezal/cabezal/xml/XmlParser$Symbols;"), (0, .integer 65536), (2, u "buf"), (0, u "[B"), (2, u "mark"), (0, u "I"), (4, u "boundPrefixes"), (0, u "[Ljava/lang/String;"), (2, u "boundUris"), (2, u "hiddenBindings"), (0, u "[I"), (5, u "innermostBindings"), (0, u "Ljava/util/Map;"), (0, .class_ 46), (0, u "com/example/cabezal/cabezal/xml/XmlParser$Symbol"), (2, u "attributeNames"), (0, u "[Lcom/example/cabezal/cabezal/xml/XmlParser$Symbol;"), (2, u "attributeValues"), (2, u "attributeUris"), (0, .class_ 58), (0, u "com/example/cabezal/cabezal/xml/XmlParser$AttributeView"), (5, u "attributes"), (0, u "Lorg/xml/sax/Attributes;"), (2, u "chars"), (0, u "[C"), (2, u "value"), (14, u "inSpanish"), (0, u "Z"), (2, u "maxDepth"), (2, u "open"), (2, u "openUris"), (2, u "openBindings"), (2, u "openBound"), (2, u "in"), (0, u "Ljava/io/InputStream;"), (2, u "systemId"), (0, u "Ljava/lang/String;"), (2, u "handler"), (0, u "Lorg/xml/sax/ContentHandler;"), (2, u "pos"), (2, u "limit"), (2, u "eof"), (2, u "line"), (2, u "discarded"), (0, u "J"), (2, u "uncounted"), (2, u "lineStart"), (2, u "uncountedAtLineStart"), (4, u "endTagOffset"), (2, u "endTagBeginsLine"), (2, u "byteOrderMarkLength"), (2, u "firstLineBreak"), (2, u "startTagLine"), (2, u "textLine"), (2, u "depth"), (2, u "rootSeen"), (2, u "bindings"), (17, u "bound"), (20, u "charset"), (0, u "Ljava/nio/charset/Charset;"), (19, u "(I)Z"), (42, .class_ 274), (1, u "com/example/cabezal/cabezal/xml/XmlParser$Problem"), (80, .class_ 356), (0, u "com/example/cabezal/cabezal/xml/XmlParser$Utf8Transcoder"), (23, u "VERSION_NUMBER"), (0, u "Ljava/util/regex/Pattern;"), (18, u "ENCODING_NAME"), (98, .class_ 500), (0, u "com/example/cabezal/cabezal/xml/XmlParser$Refusal"), (1, .class_ 504), (1, u "com/example/cabezal/cabezal/xml/XmlParser$Stop"), (25, u "attributeCount"), (87, u "attributeSeen"), (0, u "Ljava/util/Set;"), (186, .integer 55295), (1, .integer 65533), (0, .fieldref 1 810), (0, .nameAndType 811 20), (0, u "NAME_KIND"), (9, u "isNameStart"), (16, .integer 63744), (0, .integer 64975), (0, .integer 65008), (0, .integer 983039), (28, .class_ 871), (0, u "com/example/cabezal/cabezal/xml/StartTagLocator"), (0, u "PAST_LIMIT"), (3, u "PAST_LIMIT_ENGLISH"), (2, u "BUFFER"), (0, u "TEXT_CHUNK"), (1, u "FEW_ATTRIBUTES"), (1, u "MAX_DEPTH"), (1, u "MAX_ATTRIBUTES"), (1, u "MAX_NAME"), (1, u "UCS_2"), (0, u "DECLARATION_CHARACTERS"), (0, u "SHOWN"), (1, u "MAX_VALUES"), (0, u "MAX_BINDINGS"), (0, u "MAX_BOUND"), (0, u "NAME_START"), (0, u "B"), (1, u "NAME_PART")] 62

def k4c0 : Code := { maxStack := 2, maxLocals := 1, code := prog_120_method_47_code, exceptionTable := #[], attributes := #[] }
def k4m0 : Method := { name := "isNameStart", desc := "(I)Z", sig := { parameters := [.int], returnType := some .boolean }, accessFlags := 8, code := some k4c0 }
/-- com/example/cabezal/cabezal/xml/XmlParser -/
def k4 : Class := { plain "com/example/cabezal/cabezal/xml/XmlParser" (some 0) with
  accessFlags := 49
  interfaces := #[3]
  cf := some (fileOf pool4 1 #[.nestMembers #[355, 57, 9, 45, 272, 499, 502]] #[{ accessFlags := 8, nameIndex := 821, descriptorIndex := 229, attributes := #[] }] 49 4 #[870] #[{ accessFlags := 26, nameIndex := 872, descriptorIndex := 111, attributes := #[] }, { accessFlags := 26, nameIndex := 876, descriptorIndex := 111, attributes := #[] }, { accessFlags := 26, nameIndex := 879, descriptorIndex := 24, attributes := #[] }, { accessFlags := 26, nameIndex := 880, descriptorIndex := 24, attributes := #[] }, { accessFlags := 26, nameIndex := 882, descriptorIndex := 24, attributes := #[] }, { accessFlags := 25, nameIndex := 884, descriptorIndex := 24, attributes := #[] }, { accessFlags := 26, nameIndex := 886, descriptorIndex := 24, attributes := #[] }, { accessFlags := 26, nameIndex := 888, descriptorIndex := 24, attributes := #[] }, { accessFlags := 26, nameIndex := 380, descriptorIndex := 381, attributes := #[] }, { accessFlags := 26, nameIndex := 400, descriptorIndex := 381, attributes := #[] }, { accessFlags := 26, nameIndex := 890, descriptorIndex := 111, attributes := #[] }, { accessFlags := 26, nameIndex := 891, descriptorIndex := 111, attributes := #[] }, { accessFlags := 26, nameIndex := 892, descriptorIndex := 24, attributes := #[] }, { accessFlags := 26, nameIndex := 894, descriptorIndex := 24, attributes := #[] }, { accessFlags := 26, nameIndex := 895, descriptorIndex := 24, attributes := #[] }, { accessFlags := 26, nameIndex := 896, descriptorIndex := 24, attributes := #[] }, { accessFlags := 26, nameIndex := 897, descriptorIndex := 898, attributes := #[] }, { accessFlags := 26, nameIndex := 900, descriptorIndex := 898, attributes := #[] }, { accessFlags := 26, nameIndex := 811, descriptorIndex := 20, attributes := #[] }, { accessFlags := 18, nameIndex := 87, descriptorIndex := 88, attributes := #[] }, { accessFlags := 18, nameIndex := 91, descriptorIndex := 24, attributes := #[] }, { accessFlags := 18, nameIndex := 14, descriptorIndex := 15, attributes := #[] }, { accessFlags := 2, nameIndex := 106, descriptorIndex := 107, attributes := #[] }, { accessFlags := 2, nameIndex := 110, descriptorIndex := 111, attributes := #[] }, { accessFlags := 2, nameIndex := 114, descriptorIndex := 115, attributes := #[] }, { accessFlags := 2, nameIndex := 208, descriptorIndex := 209, attributes := #[] }, { accessFlags := 18, nameIndex := 19, descriptorIndex := 20, attributes := #[] }, { accessFlags := 2, nameIndex := 118, descriptorIndex := 24, attributes := #[] }, { accessFlags := 2, nameIndex := 121, descriptorIndex := 24, attributes := #[] }, { accessFlags := 2, nameIndex := 124, descriptorIndex := 88, attributes := #[] }, { accessFlags := 2, nameIndex := 23, descriptorIndex := 24, attributes := #[] }, { accessFlags := 2, nameIndex := 127, descriptorIndex := 24, attributes := #[] }, { accessFlags := 2, nameIndex := 130, descriptorIndex := 131, attributes := #[] }, { accessFlags := 2, nameIndex := 134, descriptorIndex := 131, attributes := #[] }, { accessFlags := 2, nameIndex := 137, descriptorIndex := 131, attributes := #[] }, { accessFlags := 2, nameIndex := 140, descriptorIndex := 131, attributes := #[] }, { accessFlags := 2, nameIndex := 145, descriptorIndex := 131, attributes := #[] }, { accessFlags := 2, nameIndex := 148, descriptorIndex := 88, attributes := #[] }, { accessFlags := 2, nameIndex := 151, descriptorIndex := 24, attributes := #[] }, { accessFlags := 2, nameIndex := 154, descriptorIndex := 111, attributes := #[] }, { accessFlags := 2, nameIndex := 157, descriptorIndex := 24, attributes := #[] }, { accessFlags := 2, nameIndex := 160, descriptorIndex := 24, attributes := #[] }, { accessFlags := 18, nameIndex := 94, descriptorIndex := 50, attributes := #[] }, { accessFlags := 18, nameIndex := 97, descriptorIndex := 30, attributes := #[] }, { accessFlags := 18, nameIndex := 100, descriptorIndex := 37, attributes := #[] }, { accessFlags := 18, nameIndex := 103, descriptorIndex := 37, attributes := #[] }, { accessFlags := 2, nameIndex := 163, descriptorIndex := 24, attributes := #[] }, { accessFlags := 2, nameIndex := 166, descriptorIndex := 88, attributes := #[] }, { accessFlags := 2, nameIndex := 29, descriptorIndex := 30, attributes := #[] }, { accessFlags := 2, nameIndex := 33, descriptorIndex := 30, attributes := #[] }, { accessFlags := 2, nameIndex := 36, descriptorIndex := 37, attributes := #[] }, { accessFlags := 2, nameIndex := 169, descriptorIndex := 24, attributes := #[] }, { accessFlags := 2, nameIndex := 187, descriptorIndex := 24, attributes := #[] }, { accessFlags := 18, nameIndex := 43, descriptorIndex := 44, attributes := #[] }, { accessFlags := 2, nameIndex := 49, descriptorIndex := 50, attributes := #[] }, { accessFlags := 2, nameIndex := 53, descriptorIndex := 30, attributes := #[] }, { accessFlags := 2, nameIndex := 56, descriptorIndex := 30, attributes := #[] }, { accessFlags := 2, nameIndex := 530, descriptorIndex := 24, attributes := #[] }, { accessFlags := 2, nameIndex := 618, descriptorIndex := 619, attributes := #[] }, { accessFlags := 18, nameIndex := 64, descriptorIndex := 65, attributes := #[] }, { accessFlags := 18, nameIndex := 68, descriptorIndex := 69, attributes := #[] }, { accessFlags := 2, nameIndex := 72, descriptorIndex := 69, attributes := #[] }])
  fields := #[{ name := "PAST_LIMIT", type := (.object "java/lang/String"), accessFlags := 26, slot := 0, constantValue := 0 }, { name := "PAST_LIMIT_ENGLISH", type := (.object "java/lang/String"), accessFlags := 26, slot := 1, constantValue := 0 }, { name := "BUFFER", type := .int, accessFlags := 26, slot := 2, constantValue := 0 }, { name := "TEXT_CHUNK", type := .int, accessFlags := 26, slot := 3, constantValue := 0 }, { name := "FEW_ATTRIBUTES", type := .int, accessFlags := 26, slot := 4, constantValue := 0 }, { name := "MAX_DEPTH", type := .int, accessFlags := 25, slot := 5, constantValue := 0 }, { name := "MAX_ATTRIBUTES", type := .int, accessFlags := 26, slot := 6, constantValue := 0 }, { name := "MAX_NAME", type := .int, accessFlags := 26, slot := 7, constantValue := 0 }, { name := "VERSION_NUMBER", type := (.object "java/util/regex/Pattern"), accessFlags := 26, slot := 8, constantValue := 0 }, { name := "ENCODING_NAME", type := (.object "java/util/regex/Pattern"), accessFlags := 26, slot := 9, constantValue := 0 }, { name := "UCS_2", type := (.object "java/lang/String"), accessFlags := 26, slot := 10, constantValue := 0 }, { name := "DECLARATION_CHARACTERS", type := (.object "java/lang/String"), accessFlags := 26, slot := 11, constantValue := 0 }, { name := "SHOWN", type := .int, accessFlags := 26, slot := 12, constantValue := 0 }, { name := "MAX_VALUES", type := .int, accessFlags := 26, slot := 13, constantValue := 0 }, { name := "MAX_BINDINGS", type := .int, accessFlags := 26, slot := 14, constantValue := 0 }, { name := "MAX_BOUND", type := .int, accessFlags := 26, slot := 15, constantValue := 0 }, { name := "NAME_START", type := .byte, accessFlags := 26, slot := 16, constantValue := 0 }, { name := "NAME_PART", type := .byte, accessFlags := 26, slot := 17, constantValue := 0 }, { name := "NAME_KIND", type := (.array .byte), accessFlags := 26, slot := 18, constantValue := 0 }, { name := "inSpanish", type := .boolean, accessFlags := 18, slot := 0, constantValue := 0 }, { name := "maxDepth", type := .int, accessFlags := 18, slot := 1, constantValue := 0 }, { name := "symbols", type := (.object "com/example/cabezal/cabezal/xml/XmlParser$Symbols"), accessFlags := 18, slot := 2, constantValue := 0 }, { name := "in", type := (.object "java/io/InputStream"), accessFlags := 2, slot := 3, constantValue := 0 }, { name := "systemId", type := (.object "java/lang/String"), accessFlags := 2, slot := 4, constantValue := 0 }, { name := "handler", type := (.object "org/xml/sax/ContentHandler"), accessFlags := 2, slot := 5, constantValue := 0 }, { name := "charset", type := (.object "java/nio/charset/Charset"), accessFlags := 2, slot := 6, constantValue := 0 }, { name := "buf", type := (.array .byte), accessFlags := 18, slot := 7, constantValue := 0 }, { name := "pos", type := .int, accessFlags := 2, slot := 8, constantValue := 0 }, { name := "limit", type := .int, accessFlags := 2, slot := 9, constantValue := 0 }, { name := "eof", type := .boolean, accessFlags := 2, slot := 10, constantValue := 0 }, { name := "mark", type := .int, accessFlags := 2, slot := 11, constantValue := 0 }, { name := "line", type := .int, accessFlags := 2, slot := 12, constantValue := 0 }, { name := "discarded", type := .long, accessFlags := 2, slot := 13, constantValue := 0 }, { name := "uncounted", type := .long, accessFlags := 2, slot := 14, constantValue := 0 }, { name := "lineStart", type := .long, accessFlags := 2, slot := 15, constantValue := 0 }, { name := "uncountedAtLineStart", type := .long, accessFlags := 2, slot := 16, constantValue := 0 }, { name := "endTagOffset", type := .long, accessFlags := 2, slot := 17, constantValue := 0 }, { name := "endTagBeginsLine", type := .boolean, accessFlags := 2, slot := 18, constantValue := 0 }, { name := "byteOrderMarkLength", type := .int, accessFlags := 2, slot := 19, constantValue := 0 }, { name := "firstLineBreak", type := (.object "java/lang/String"), accessFlags := 2, slot := 20, constantValue := 0 }, { name := "startTagLine", type := .int, accessFlags := 2, slot := 21, constantValue := 0 }, { name := "textLine", type := .int, accessFlags := 2, slot := 22, constantValue := 0 }, { name := "open", type := (.array (.object "com/example/cabezal/cabezal/xml/XmlParser$Symbol")), accessFlags := 18, slot := 23, constantValue := 0 }, { name := "openUris", type := (.array (.object "java/lang/String")), accessFlags := 18, slot := 24, constantValue := 0 }, { name := "openBindings", type := (.array .int), accessFlags := 18, slot := 25, constantValue := 0 }, { name := "openBound", type := (.array .int), accessFlags := 18, slot := 26, constantValue := 0 }, { name := "depth", type := .int, accessFlags := 2, slot := 27, constantValue := 0 }, { name := "rootSeen", type := .boolean, accessFlags := 2, slot := 28, constantValue := 0 }, { name := "boundPrefixes", type := (.array (.object "java/lang/String")), accessFlags := 2, slot := 29, constantValue := 0 }, { name := "boundUris", type := (.array (.object "java/lang/String")), accessFlags := 2, slot := 30, constantValue := 0 }, { name := "hiddenBindings", type := (.array .int), accessFlags := 2, slot := 31, constantValue := 0 }, { name := "bindings", type := .int, accessFlags := 2, slot := 32, constantValue := 0 }, { name := "bound", type := .int, accessFlags := 2, slot := 33, constantValue := 0 }, { name := "innermostBindings", type := (.object "java/util/Map"), accessFlags := 18, slot := 34, constantValue := 0 }, { name := "attributeNames", type := (.array (.object "com/example/cabezal/cabezal/xml/XmlParser$Symbol")), accessFlags := 2, slot := 35, constantValue := 0 }, { name := "attributeValues", type := (.array (.object "java/lang/String")), accessFlags := 2, slot := 36, constantValue := 0 }, { name := "attributeUris", type := (.array (.object "java/lang/String")), accessFlags := 2, slot := 37, constantValue := 0 }, { name := "attributeCount", type := .int, accessFlags := 2, slot := 38, constantValue := 0 }, { name := "attributeSeen", type := (.object "java/util/Set"), accessFlags := 2, slot := 39, constantValue := 0 }, { name := "attributes", type := (.object "org/xml/sax/Attributes"), accessFlags := 18, slot := 40, constantValue := 0 }, { name := "chars", type := (.array .char), accessFlags := 18, slot := 41, constantValue := 0 }, { name := "value", type := (.array .char), accessFlags := 2, slot := 42, constantValue := 0 }]
  methods := #[k4m0]
  instanceTypes := #[.boolean, .int, (.object "com/example/cabezal/cabezal/xml/XmlParser$Symbols"), (.object "java/io/InputStream"), (.object "java/lang/String"), (.object "org/xml/sax/ContentHandler"), (.object "java/nio/charset/Charset"), (.array .byte), .int, .int, .boolean, .int, .int, .long, .long, .long, .long, .long, .boolean, .int, (.object "java/lang/String"), .int, .int, (.array (.object "com/example/cabezal/cabezal/xml/XmlParser$Symbol")), (.array (.object "java/lang/String")), (.array .int), (.array .int), .int, .boolean, (.array (.object "java/lang/String")), (.array (.object "java/lang/String")), (.array .int), .int, .int, (.object "java/util/Map"), (.array (.object "com/example/cabezal/cabezal/xml/XmlParser$Symbol")), (.array (.object "java/lang/String")), (.array (.object "java/lang/String")), .int, (.object "java/util/Set"), (.object "org/xml/sax/Attributes"), (.array .char), (.array .char)]
  staticTypes := #[(.object "java/lang/String"), (.object "java/lang/String"), .int, .int, .int, .int, .int, .int, (.object "java/util/regex/Pattern"), (.object "java/util/regex/Pattern"), (.object "java/lang/String"), (.object "java/lang/String"), .int, .int, .int, .int, .byte, .byte, (.array .byte)]
  resolved := Array.replicate 963 none
  statics := some 0 }

def pool5 : Array CpInfo := pool [(1, u "java/lang/Cloneable"), (0, .class_ 1), (0, u "java/lang/Object"), (0, .class_ 3)] 3

/-- java/lang/Cloneable -/
def k5 : Class := { plain "java/lang/Cloneable" (some 0) with
  accessFlags := 1537
  interfaces := #[]
  cf := some (fileOf pool5 2 #[] #[] 1537 4 #[] #[])
  fields := #[]
  methods := #[]
  instanceTypes := #[]
  staticTypes := #[]
  resolved := Array.replicate 8 none
  statics := none }

def pool6 : Array CpInfo := pool [(1, u "java/io/Serializable"), (0, .class_ 1), (0, u "java/lang/Object"), (0, .class_ 3)] 3

/-- java/io/Serializable -/
def k6 : Class := { plain "java/io/Serializable" (some 0) with
  accessFlags := 1537
  interfaces := #[]
  cf := some (fileOf pool6 2 #[] #[] 1537 4 #[] #[])
  fields := #[]
  methods := #[]
  instanceTypes := #[]
  staticTypes := #[]
  resolved := Array.replicate 8 none
  statics := none }

/-- the primitive byte -/
def k7 : Class := { plain "byte" none with kind := .primitive 'B', accessFlags := 0x411 }
/-- [B -/
def k8 : Class := { plain "[B" (some 0) with kind := .array 7 .byte, interfaces := #[5, 6], accessFlags := 1041 }

/-- the primitive int -/
def k9 : Class := { plain "int" none with kind := .primitive 'I', accessFlags := 0x411 }
/-- [I -/
def k10 : Class := { plain "[I" (some 0) with kind := .array 9 .int, interfaces := #[5, 6], accessFlags := 1041 }

def heap : Heap := #[{ cls := 4, slots := #[.null, .null, .int 0, .int 0, .int 0, .int 0, .int 0, .int 0, .null, .null, .null, .null, .int 0, .int 0, .int 0, .int 0, .int 0, .int 0, .ref 1], vm := .statics 4 },
  { cls := 8, slots := #[.int 0, .int 0, .int 0, .int 0, .int 0, .int 0, .int 0, .int 0, .int 0, .int 0, .int 0, .int 0, .int 0, .int 0, .int 0, .int 0, .int 0, .int 0, .int 0, .int 0, .int 0, .int 0, .int 0, .int 0, .int 0, .int 0, .int 0, .int 0, .int 0, .int 0, .int 0, .int 0, .int 0, .int 0, .int 0, .int 0, .int 0, .int 0, .int 0, .int 0, .int 0, .int 0, .int 0, .int 0, .int 0, .int 2, .int 2, .int 0, .int 2, .int 2, .int 2, .int 2, .int 2, .int 2, .int 2, .int 2, .int 2, .int 2, .int 3, .int 0, .int 0, .int 0, .int 0, .int 0, .int 0, .int 3, .int 3, .int 3, .int 3, .int 3, .int 3, .int 3, .int 3, .int 3, .int 3, .int 3, .int 3, .int 3, .int 3, .int 3, .int 3, .int 3, .int 3, .int 3, .int 3, .int 3, .int 3, .int 3, .int 3, .int 3, .int 3, .int 0, .int 0, .int 0, .int 0, .int 3, .int 0, .int 3, .int 3, .int 3, .int 3, .int 3, .int 3, .int 3, .int 3, .int 3, .int 3, .int 3, .int 3, .int 3, .int 3, .int 3, .int 3, .int 3, .int 3, .int 3, .int 3, .int 3, .int 3, .int 3, .int 3, .int 3, .int 3, .int 0, .int 0, .int 0, .int 0, .int 0], vm := .none }]
def classes : Array Class := #[k0, k1, k2, k3, k4, k5, k6, k7, k8, k9, k10]
def interned : List (Array UInt16 × Addr) := []
def slotsUsed : Nat := 147
def theMethod : MethodId := ⟨1, 1⟩
def args0 : Array Value := #[.int 5, .int 7]
def aboutOver (below : List Frame) : State where
  vm := { classes := classes, interned := interned.toArray }
  heap := heap
  slotsUsed := slotsUsed
  threads := #[{ frames := .invoking theMethod args0 :: below }]
def below0 : List Frame := [.native { method := ⟨0, 0⟩, args := #[] }]
def about1 : State := aboutOver below0
def p0 : Program := .bare "" "" ""
def e0 : Env := launch0.env 0 0 0
theorem w_frames : about1.frames = Frame.invoking theMethod args0 :: below0 := rfl
set_option maxRecDepth 65536 in
theorem w_args : argsFit about1.vm theMethod args0 = true := by decide +kernel
set_option maxRecDepth 65536 in
theorem w_heap : heapFits about1 = true := by decide +kernel
set_option maxRecDepth 65536 in
theorem w_runnable : about1.curStatus? = some .runnable := by decide +kernel
set_option maxRecDepth 65536 in
theorem w_alone : about1.alone = true := by decide +kernel
set_option maxRecDepth 65536 in
theorem w_named : about1.methodNamed? x = some theMethod := by decide +kernel
set_option maxRecDepth 65536 in
theorem w_hears : about1.hears theMethod below0 = true := by decide +kernel
set_option maxRecDepth 65536 in
theorem w_ripe : about1.ripe theMethod args0 below0 = true := by decide +kernel
theorem w_running : about1.status = .running := rfl
set_option maxRecDepth 65536 in
theorem w_room : about1.hasRoom e0.platform room_1 = true :=
  launch0.hasRoom_least _ room_1 (by decide +kernel) (by decide +kernel) (by decide +kernel) (by decide +kernel) (by decide +kernel) (by decide +kernel)
theorem allAtoms_all (ts : List Jvm.Cond) (a : Array Jvm.Value) (st : Jvm.State) : (allAtoms ts).before a st = ts.all (fun c => c.before a st) := by
  induction ts with
  | nil => rfl
  | cons c t ih =>
    show (Jvm.Cond.and c (allAtoms t)).before a st = _
    rw [Jvm.Cond.before_and, ih, List.all_cons]
def words1 : List Jvm.Cond := Jvm.Cond.code x code maxLocals ret :: tables_1
/-- a 'code' word, met by the world's own term for the bytes: nothing is compared byte by byte -/
theorem code_word {y : MethodName} {bytes : ByteArray} {mx : Nat} {rt : Option FieldType} {a : Array Value} {s : State} {m : MethodId} {meth : Method} {c : Code} (h1 : s.methodNamed? y = some m) (h2 : s.vm.method? m = some meth) (h3 : meth.code = some c) (h4 : c.code = bytes)
    (h5 : (c.maxLocals == mx && c.exceptionTable.isEmpty && decide (c.maxStack ≤ mostOperands) && decide (meth.sig.returnType = rt) && !meth.locks && decide (parseMethodDescriptor y.desc = some meth.sig)) = true) : (Jvm.Cond.code y bytes mx rt).before a s = true := by
  simp only [Bool.and_eq_true, beq_iff_eq, Bool.not_eq_true', decide_eq_true_eq] at h5
  obtain ⟨⟨⟨⟨⟨g1, g2⟩, g3⟩, g4⟩, g5⟩, g6⟩ := h5
  simp [Cond.before, Cond.holds, Cond.value, h1, h2, h3, h4, g1, g2, g3, g4, g5, g6]
def isCode : Jvm.Cond → Bool
  | .code _ _ _ _ => true
  | _ => false
theorem all_split {L : List Jvm.Cond} {P : Jvm.Cond → Bool} (h1 : L.all (fun c => isCode c || P c) = true) (h2 : ∀ c ∈ L.filter isCode, P c = true) : L.all P = true := by
  refine List.all_eq_true.mpr fun c hc => ?_
  have h := List.all_eq_true.mp h1 c hc
  rcases Bool.eq_false_or_eq_true (isCode c) with hi | hi
  · exact h2 c (List.mem_filter.mpr ⟨hc, hi⟩)
  · simpa [hi] using h
set_option maxRecDepth 65536 in
theorem w_c0 : (Jvm.Cond.code x code maxLocals ret).before args0 about1 = true := code_word (m := ⟨1, 1⟩) (meth := k1m1) (c := k1c1) (by decide +kernel) rfl rfl rfl (by decide +kernel)
set_option maxRecDepth 65536 in
theorem w_c1 : (Jvm.Cond.code ({ cls := "com/example/cabezal/cabezal/xml/XmlParser", name := "isNameStart", desc := "(I)Z" } : Jvm.MethodName) prog_120_method_47_code (1 : Nat) (Option.some Jvm.ClassFile.FieldType.boolean)).before args0 about1 = true := code_word (m := ⟨4, 0⟩) (meth := k4m0) (c := k4c0) (by decide +kernel) rfl rfl rfl (by decide +kernel)
set_option maxRecDepth 65536 in
theorem w_c2 : (Jvm.Cond.code ({ cls := "com/example/cabezal/cabezal/xml/XmlParserIsNameStartPinLaw", name := "expected", desc := "(I)Z" } : Jvm.MethodName) method_3_code (2 : Nat) (Option.some Jvm.ClassFile.FieldType.boolean)).before args0 about1 = true := code_word (m := ⟨1, 2⟩) (meth := k1m2) (c := k1c2) (by decide +kernel) rfl rfl rfl (by decide +kernel)
def codes1 : List Jvm.Cond := [Jvm.Cond.code x code maxLocals ret, Jvm.Cond.code ({ cls := "com/example/cabezal/cabezal/xml/XmlParser", name := "isNameStart", desc := "(I)Z" } : Jvm.MethodName) prog_120_method_47_code (1 : Nat) (Option.some Jvm.ClassFile.FieldType.boolean), Jvm.Cond.code ({ cls := "com/example/cabezal/cabezal/xml/XmlParserIsNameStartPinLaw", name := "expected", desc := "(I)Z" } : Jvm.MethodName) method_3_code (2 : Nat) (Option.some Jvm.ClassFile.FieldType.boolean)]
set_option maxRecDepth 65536 in
theorem codes_eq : words1.filter isCode = codes1 := rfl
theorem w_codes : ∀ c ∈ words1.filter isCode, c.before args0 about1 = true := by
  rw [codes_eq]
  intro c hc
  simp only [codes1, List.mem_cons, List.not_mem_nil, or_false] at hc
  rcases hc with rfl | rfl | rfl
  · exact w_c0
  · exact w_c1
  · exact w_c2
set_option maxRecDepth 65536 in
theorem w_t1 : (words1.take 24).all (fun c => isCode c || c.before args0 about1) = true := by decide +kernel
set_option maxRecDepth 65536 in
theorem w_t2 : (words1.drop 24).all (fun c => isCode c || c.before args0 about1) = true := by decide +kernel
theorem w_tables : (allAtoms (Jvm.Cond.code x code maxLocals ret :: tables_1)).before args0 about1 = true := by
  rw [allAtoms_all]
  show words1.all (fun c => c.before args0 about1) = true
  refine all_split ?_ w_codes
  rw [← List.take_append_drop 24 words1, List.all_append, w_t1, w_t2]
  rfl
set_option maxRecDepth 65536 in
theorem w_case : (Jvm.Cond.and given_1 narrow_1).before args0 about1 = true := by decide +kernel
theorem w_applies : (headSpec (Jvm.Cond.code x code maxLocals ret :: tables_1) room_1).applies x e0.platform about1 = true :=
  (Spec.applies_iff w_frames).mpr ⟨w_running, w_runnable, w_alone, w_named, w_hears, w_ripe, w_room, w_tables⟩
theorem atStart : AtStart classFile x code maxLocals ret World_1 tables_1 room_1 Calls_1 rest_1 Pre_1 launch0 p0 e0 about1 theMethod args0 below0 :=
  ⟨lists_1, trivial, launch0.admits_env _ _ _, launch0.least_env, fairChoices_fair.cas, fairChoices_fair.clock, w_frames, w_args, w_heap, w_applies, trivial, trivial, w_case⟩
end start1
theorem witness_1 : WitnessClaimed_1 := ⟨start1.p0, start1.e0, start1.about1, start1.theMethod, start1.args0, start1.below0, start1.atStart⟩
end Jvm.Pilot.@@N@@
