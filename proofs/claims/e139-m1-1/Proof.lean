import JvmDerived
import JvmDerived.Pilot.@@N@@Statement
import JvmDerived.Pilot.@@N@@Code
set_option linter.unusedVariables false
set_option linter.unusedSimpArgs false
namespace Jvm.Pilot.@@N@@
open Jvm Jvm.ClassFile Sem Op Lib Jvm.Free Jvm.Stand Jvm.LawKit Jvm.RoadKit Bundle Jvm.Pilot.@@N@@.Jvm.D
/-! own kit, part 1: what a walk still owes, as a predicate on the state it stands at -/
section Own
variable {p : Program} {l : Launch} {e : Env} {R : Room} {s : State} {m : MethodId} {args : Array Value} {below : List Frame} {meth : Method} {c : Code} {T : State} {locs : List Loc} {cells slots : Nat} {Z : State} {a0 : Array Value} {h : Heap} {Q : Option Value → Heap → List Loc → Prop} {kc ks : Nat}
def own_End (p : Program) (e : Env) (below : List Frame) (s : State) (Q : Option Value → Heap → List Loc → Prop) (kc ks : Nat) (A : State) : Prop :=
  ∃ s₂ o, Steps p.tables e below A s₂ ∧ s₂.status = .running ∧ Ended s₂ below o ∧ ∃ v L, o = .returned v ∧ Q v s₂.heap L ∧ FrameEnd s o s₂ L kc ks
theorem own_go {A B : State} (h : ∀ t, Steps p.tables e below B t → Steps p.tables e below A t) (k : own_End p e below s Q kc ks B) : own_End p e below s Q kc ks A := by
  obtain ⟨s₂, o, h1, r⟩ := k
  exact ⟨s₂, o, h _ h1, r⟩
/-- a word on 'what is owed' is shown first and used behind -/
theorem own_join {A : State} (F : (State → Prop) → Prop) (h1 : F (own_End p e below s Q kc ks)) (h2 : F (own_End p e below s Q kc ks) → own_End p e below s Q kc ks A) : own_End p e below s Q kc ks A := h2 h1
abbrev own_Met (l : Launch) (y : MethodName) (bytes : ByteArray) (maxL : Nat) (rt : Option FieldType) (ws : List Jvm.Cond) (rm : Room) (as' : Array Value) (Z : State) (h0 : Heap) (Q : Option Value → Heap → List Loc → Prop) : Prop :=
  MetFree l y (head1 (Jvm.Cond.code y bytes maxL rt :: ws) rm) (fun a U => a = as' ∧ Z.Warmed39 U.vm ∧ U.heap = h0) (fun _ _ _ _ _ => True) (fun _ U o U' => ∃ v L, o = .returned v ∧ Q v U'.heap L ∧ FrameEnd U o U' L rm.cells rm.slots)
theorem own_body {y : MethodName} {bytes : ByteArray} {maxL : Nat} {rt : Option FieldType} {ws : List Jvm.Cond} {rm : Room} {as' : Array Value} {h0 : Heap} (pn : plainFor y = true)
    (body : ∀ (p : Program) (e : Env) (s : State) (m : MethodId) (below : List Frame) (meth : Method) (c : Code) (s₁ : State), Stand p l e rm s m as' below meth c s₁ [] 0 0 → p.tables.exec = Jvm.exec → c.code = bytes → c.maxLocals = maxL → meth.sig.returnType = rt → meth.locks = false → s.vm.findClass y.cls = some m.cls → meth.name = y.name → Z.Warmed39 s.vm → s₁.heap = h0 → own_End p e below s Q rm.cells rm.slots (s₁.setTop (entryFrame m as' maxL))) :
    own_Met l y bytes maxL rt ws rm as' Z h0 Q := by
  refine MetFree.of_bodySF pn hisR ?_
  intro p e s m args below meth c s₁ Bd hml0 hP hK
  obtain ⟨rfl, hZ, hh⟩ := hP
  exact body p e s m below meth c s₁ (Stand.of_body Bd) Bd.exec Bd.bytes hml0 Bd.returns Bd.notSynchronized (findClass_of_methodNamed Bd.named) (name_of_methodNamed Bd.named Bd.method).1 hZ (by rw [← hh, Bd.state]; rfl)
theorem own_retN (X : Stand p l e R s m args below meth c T locs cells slots) (hx : p.tables.exec = Jvm.exec) {t : FieldType} (hret : meth.sig.returnType = some t) (hlk : meth.locks = false) (ht : t = .boolean ∨ t = .byte ∨ t = .char ∨ t = .short) {pc : Nat} {Ls : Array Slot} {z : Int32} {rest : List Value} (hd : decode c.code pc = .ok (.ireturn, 1)) (hq : Q (some (.int (nar t z))) T.heap locs) (h1 : cells ≤ kc) (h2 : slots ≤ ks) :
    own_End p e below s Q kc ks (T.setTop (mkF m pc Ls (.int z :: rest))) := by
  obtain ⟨fs, hr, hrun, hended, hW, hsame⟩ := X.leave (v := some (.int (nar t z))) (fun h => by rw [hret] at h; cases h) hlk
  exact ⟨_, _, retN X hx hret ht hd hr, hrun, hended, _, _, rfl, hq, ⟨_, rfl⟩, hW, hsame.mono h1 h2⟩
theorem own_retI (X : Stand p l e R s m args below meth c T locs cells slots) (hx : p.tables.exec = Jvm.exec) (hret : meth.sig.returnType = some .int) (hlk : meth.locks = false) {pc : Nat} {Ls : Array Slot} {z : Int32} {rest : List Value} (hd : decode c.code pc = .ok (.ireturn, 1)) (hq : Q (some (.int z)) T.heap locs) (h1 : cells ≤ kc) (h2 : slots ≤ ks) :
    own_End p e below s Q kc ks (T.setTop (mkF m pc Ls (.int z :: rest))) := by
  obtain ⟨fs, hr, hrun, hended, hW, hsame⟩ := X.leave (v := some (.int z)) (fun h => by rw [hret] at h; cases h) hlk
  exact ⟨_, _, retOut X hx hret rfl (Or.inl ⟨rfl, Or.inl rfl, z, rfl⟩) hd hr, hrun, hended, _, _, rfl, hq, ⟨_, rfl⟩, hW, hsame.mono h1 h2⟩
theorem own_retJ (X : Stand p l e R s m args below meth c T locs cells slots) (hx : p.tables.exec = Jvm.exec) (hret : meth.sig.returnType = some .long) (hlk : meth.locks = false) {pc : Nat} {Ls : Array Slot} {z : Int64} {rest : List Value} (hd : decode c.code pc = .ok (.lreturn, 1)) (hq : Q (some (.long z)) T.heap locs) (h1 : cells ≤ kc) (h2 : slots ≤ ks) :
    own_End p e below s Q kc ks (T.setTop (mkF m pc Ls (.long z :: rest))) := by
  obtain ⟨fs, hr, hrun, hended, hW, hsame⟩ := X.leave (v := some (.long z)) (fun h => by rw [hret] at h; cases h) hlk
  exact ⟨_, _, retOut X hx hret rfl (Or.inr (Or.inl ⟨rfl, rfl, z, rfl⟩)) hd hr, hrun, hended, _, _, rfl, hq, ⟨_, rfl⟩, hW, hsame.mono h1 h2⟩
theorem own_retA (X : Stand p l e R s m args below meth c T locs cells slots) (hx : p.tables.exec = Jvm.exec) {t : FieldType} (ht : t.isReference = true) (hret : meth.sig.returnType = some t) (hlk : meth.locks = false) {pc : Nat} {Ls : Array Slot} {b : Addr} (hd : decode c.code pc = .ok (.areturn, 1)) (hq : Q (some (.ref b)) T.heap locs) (h1 : cells ≤ kc) (h2 : slots ≤ ks) :
    own_End p e below s Q kc ks (T.setTop (mkF m pc Ls [.ref b])) := by
  obtain ⟨fs, hr, hrun, hended, hW, hsame⟩ := X.leave (v := some (.ref b)) (fun h => by rw [hret] at h; cases h) hlk
  exact ⟨_, _, X.areturnOut hx rfl hret ht hd hr, hrun, hended, _, _, rfl, hq, ⟨_, rfl⟩, hW, hsame.mono h1 h2⟩
theorem own_ret (X : Stand p l e R s m args below meth c T locs cells slots) (hx : p.tables.exec = Jvm.exec) (hret : meth.sig.returnType = none) (hlk : meth.locks = false) {pc : Nat} {Ls : Array Slot} (hd : decode c.code pc = .ok (.return_, 1)) (hq : Q none T.heap locs) (h1 : cells ≤ kc) (h2 : slots ≤ ks) :
    own_End p e below s Q kc ks (T.setTop (mkF m pc Ls [])) := by
  obtain ⟨fs, hr, hrun, hended, hW, hsame⟩ := X.leave (v := none) (fun _ => rfl) hlk
  exact ⟨_, _, X.returnOut hx hret hd hr, hrun, hended, _, _, rfl, hq, ⟨_, rfl⟩, hW, hsame.mono h1 h2⟩
/-! own kit, part 2: calls by a callee's contract -/
theorem own_callS (X : Stand p l e R s m args below meth c T locs cells slots) (hx : p.tables.exec = Jvm.exec) (hZ : Z.Warmed39 s.vm) {own : String} {index : Nat} {y : MethodName} {bytes : ByteArray} {maxL : Nat} {rt : Option FieldType} {rm : Room} {as' : Array Value} {Qc : Option Value → Heap → List Loc → Prop} (W : Nat)
    (hown : s.vm.findClass own = some m.cls) (w1 : (Cond.methodLink own index y).before a0 Z = true) (w2 : (Cond.static y).before a0 Z = true) (w3 : (Cond.initialized y.cls).before a0 Z = true) (w4 : (Cond.code y bytes maxL rt).before a0 Z = true)
    (hy : y.cls ≠ "java/lang/invoke/MethodHandle" ∧ y.cls ≠ "java/lang/invoke/VarHandle") (hM : own_Met l y bytes maxL rt [] rm as' Z h Qc) (eT : T.heap = h)
    {pc : Nat} {Ls : Array Slot} {st : List Value} (argsL rest : List Value) (hsize : Ls.size = c.maxLocals) (hst : st = argsL.reverse ++ rest) (has : argsL.toArray = as') (hlen : ∀ sig, parseMethodDescriptor y.desc = some sig → argsL.length = sig.parameters.length)
    (hW : (rest.map fun v => v.category).sum ≤ W) (hd : decode c.code pc = .ok (.invokestatic index, 3)) (hf : rm.frames + 1 ≤ R.frames) (hl : W + (maxL + 11) + rm.locals ≤ R.locals) (hc : cells + rm.cells ≤ R.cells) (hs : slots + rm.slots ≤ R.slots) :
    ∃ v T' L, Stand p l e R s m args below meth c T' (locs ++ L) (cells + rm.cells) (slots + rm.slots) ∧ Qc v T'.heap L ∧ ∀ t, Steps p.tables e below (T'.setTop (mkF m (pc + 3) Ls (v.toList ++ rest))) t → Steps p.tables e below (T.setTop (mkF m pc Ls st)) t := by
  obtain ⟨v, vm1, ⟨T', L', k', n'⟩, -, X', ⟨L, hQ, l1, y1, z1⟩, st'⟩ := Jvm.LawKit.callS X hx (y := y) hown (mvT hZ w1) (mvT hZ w2) (mvT hZ w3) (mvT hZ w4) hy (backOf (W := W) hM hZ w4 w3 hf hl) (g := mkF m pc Ls st) rfl hsize (argsL := argsL) (rest := rest) hlen hst (by show 2 * 0 + _ ≤ _; omega) hd (fun _ _ => ⟨has, eT, hc, hs⟩)
  dsimp only [Pt.U, Pt.locs, Pt.cells, Pt.slots] at X' l1 y1 z1 st' hQ
  subst l1 y1 z1
  exact ⟨v, T', L, X', hQ, st'⟩
theorem own_callV (X : Stand p l e R s m args below meth c T locs cells slots) (hx : p.tables.exec = Jvm.exec) (hZ : Z.Warmed39 s.vm) {own C : String} {index : Nat} {y : MethodName} {bytes : ByteArray} {maxL : Nat} {rt : Option FieldType} {rm : Room} {as' : Array Value} {Qc : Option Value → Heap → List Loc → Prop} (W : Nat)
    (hown : s.vm.findClass own = some m.cls) (w1 : (Cond.methodLink own index y).before a0 Z = true) (w2 : (Cond.declares y).before a0 Z = true) (w3 : (Cond.selects C y y).before a0 Z = true) (w4 : (Cond.instanceMethod y).before a0 Z = true) (w5 : (Cond.initialized y.cls).before a0 Z = true) (w6 : (Cond.code y bytes maxL rt).before a0 Z = true)
    (hy : y.cls ≠ "java/lang/invoke/MethodHandle" ∧ y.cls ≠ "java/lang/invoke/VarHandle") (hM : own_Met l y bytes maxL rt [] rm as' Z h Qc) (eT : T.heap = h) {b : Addr} (E : Exa Z h b C)
    {pc : Nat} {Ls : Array Slot} {st : List Value} (argsL rest : List Value) (hsize : Ls.size = c.maxLocals) (hst : st = argsL.reverse ++ .ref b :: rest) (has : (.ref b :: argsL).toArray = as') (hlen : ∀ sig, parseMethodDescriptor y.desc = some sig → argsL.length = sig.parameters.length)
    (hW : (rest.map fun v => v.category).sum ≤ W) (hd : decode c.code pc = .ok (.invokevirtual index, 3)) (hf : rm.frames + 1 ≤ R.frames) (hl : W + (maxL + 11) + rm.locals ≤ R.locals) (hc : cells + rm.cells ≤ R.cells) (hs : slots + rm.slots ≤ R.slots) :
    ∃ v T' L, Stand p l e R s m args below meth c T' (locs ++ L) (cells + rm.cells) (slots + rm.slots) ∧ Qc v T'.heap L ∧ ∀ t, Steps p.tables e below (T'.setTop (mkF m (pc + 3) Ls (v.toList ++ rest))) t → Steps p.tables e below (T.setTop (mkF m pc Ls st)) t := by
  obtain ⟨cq, kq, q1, q2, q3⟩ := isOf hZ eT E
  obtain ⟨v, vm1, ⟨T', L', k', n'⟩, -, X', ⟨L, hQ, l1, y1, z1⟩, st'⟩ := X.virtualBack hx (y := y) (z := y) hown (mvT hZ w1) (mvT hZ w2) (notFace_of_selects (args := #[]) (mvT hZ w3)) (mvT hZ w3) (mvT hZ w4) hy (backOf (W := W) hM hZ w6 w5 hf hl) q1 q3 (g := mkF m pc Ls st) rfl hsize (Steps.refl _) (argsL := argsL) (rest := rest) hlen hst (by show 2 * 0 + _ ≤ _; omega) hd (fun _ _ => ⟨has, eT, hc, hs⟩)
  dsimp only [Pt.U, Pt.locs, Pt.cells, Pt.slots] at X' l1 y1 z1 st' hQ
  subst l1 y1 z1
  exact ⟨v, T', L, X', hQ, fun t k => st'.trans k⟩
theorem own_callI (X : Stand p l e R s m args below meth c T locs cells slots) (hx : p.tables.exec = Jvm.exec) (hZ : Z.Warmed39 s.vm) {own : String} {index : Nat} {y : MethodName} {bytes : ByteArray} {maxL : Nat} {rm : Room} {as' : Array Value} {Qc : Option Value → Heap → List Loc → Prop} (W : Nat) (hi : y.name = "<init>")
    (hown : s.vm.findClass own = some m.cls) (w1 : (Cond.methodLink own index y).before a0 Z = true) (w4 : (Cond.instanceMethod y).before a0 Z = true) (w5 : (Cond.initialized y.cls).before a0 Z = true) (w6 : (Cond.code y bytes maxL none).before a0 Z = true)
    (hy : y.cls ≠ "java/lang/invoke/MethodHandle" ∧ y.cls ≠ "java/lang/invoke/VarHandle") (hM : own_Met l y bytes maxL none [] rm as' Z h Qc) (eT : T.heap = h) {b : Addr}
    {pc : Nat} {Ls : Array Slot} {st : List Value} (argsL rest : List Value) (hsize : Ls.size = c.maxLocals) (hst : st = argsL.reverse ++ .ref b :: rest) (has : (.ref b :: argsL).toArray = as') (hlen : ∀ sig, parseMethodDescriptor y.desc = some sig → argsL.length = sig.parameters.length)
    (hW : (rest.map fun v => v.category).sum ≤ W) (hd : decode c.code pc = .ok (.invokespecial index, 3)) (hf : rm.frames + 1 ≤ R.frames) (hl : W + (maxL + 11) + rm.locals ≤ R.locals) (hc : cells + rm.cells ≤ R.cells) (hs : slots + rm.slots ≤ R.slots) :
    ∃ v T' L, Stand p l e R s m args below meth c T' (locs ++ L) (cells + rm.cells) (slots + rm.slots) ∧ Qc v T'.heap L ∧ ∀ t, Steps p.tables e below (T'.setTop (mkF m (pc + 3) Ls (v.toList ++ rest))) t → Steps p.tables e below (T.setTop (mkF m pc Ls st)) t := by
  obtain ⟨v, vm1, ⟨T', L', k', n'⟩, -, X', ⟨L, hQ, l1, y1, z1⟩, st'⟩ := X.specialBack hx (y := y) hi hown (mvT hZ w1) (mvT hZ w4) (mvT hZ w6) hy (backOf (W := W) hM hZ w6 w5 hf hl) (g := mkF m pc Ls st) rfl hsize (Steps.refl _) (a := b) (argsL := argsL) (rest := rest) hlen hst (by show 2 * 0 + _ ≤ _; omega) hd (fun _ _ => ⟨has, eT, hc, hs⟩)
  dsimp only [Pt.U, Pt.locs, Pt.cells, Pt.slots] at X' l1 y1 z1 st' hQ
  subst l1 y1 z1
  exact ⟨v, T', L, X', hQ, fun t k => st'.trans k⟩
/-! own kit, part 3: comparisons, said of the numbers -/
theorem own_ltY {x y : Int32} {k : Int} (hy : y.toInt = k) (q : x.toInt < k) : if_icmp.holds .lt x y = true := (tlt (Int32.lt_iff_toInt_lt.mpr (by omega))).1
theorem own_ltN {x y : Int32} {k : Int} (hy : y.toInt = k) (q : ¬ x.toInt < k) : if_icmp.holds .lt x y = false := (flt (fun z => q (by have := Int32.lt_iff_toInt_lt.mp z; omega))).1
theorem own_geY {x y : Int32} {k : Int} (hy : y.toInt = k) (q : k ≤ x.toInt) : if_icmp.holds .ge x y = true := (flt (fun z => by have := Int32.lt_iff_toInt_lt.mp z; omega)).2.1
theorem own_geN {x y : Int32} {k : Int} (hy : y.toInt = k) (q : ¬ k ≤ x.toInt) : if_icmp.holds .ge x y = false := (tlt (Int32.lt_iff_toInt_lt.mpr (by omega))).2.1
theorem own_gtY {x y : Int32} {k : Int} (hy : y.toInt = k) (q : k < x.toInt) : if_icmp.holds .gt x y = true := (tlt (x := y) (y := x) (Int32.lt_iff_toInt_lt.mpr (by omega))).2.2.1
theorem own_gtN {x y : Int32} {k : Int} (hy : y.toInt = k) (q : ¬ k < x.toInt) : if_icmp.holds .gt x y = false := (flt (x := y) (y := x) (fun z => q (by have := Int32.lt_iff_toInt_lt.mp z; omega))).2.2.1
theorem own_leY {x y : Int32} {k : Int} (hy : y.toInt = k) (q : x.toInt ≤ k) : if_icmp.holds .le x y = true := (flt (x := y) (y := x) (fun z => by have := Int32.lt_iff_toInt_lt.mp z; omega)).2.2.2
theorem own_leN {x y : Int32} {k : Int} (hy : y.toInt = k) (q : ¬ x.toInt ≤ k) : if_icmp.holds .le x y = false := (tlt (x := y) (y := x) (Int32.lt_iff_toInt_lt.mpr (by omega))).2.2.2
theorem own_eqY {x y : Int32} {k : Int} (hy : y.toInt = k) (q : x.toInt = k) : if_icmp.holds .eq x y = true := (teq (Int32.toInt_inj.mp (by omega))).1
theorem own_eqN {x y : Int32} {k : Int} (hy : y.toInt = k) (q : ¬ x.toInt = k) : if_icmp.holds .eq x y = false := (feq (fun z => q (by rw [z]; exact hy))).1
theorem own_neY {x y : Int32} {k : Int} (hy : y.toInt = k) (q : ¬ x.toInt = k) : if_icmp.holds .ne x y = true := (feq (fun z => q (by rw [z]; exact hy))).2
theorem own_neN {x y : Int32} {k : Int} (hy : y.toInt = k) (q : ¬ ¬ x.toInt = k) : if_icmp.holds .ne x y = false := (teq (Int32.toInt_inj.mp (by omega))).2
theorem own_0 {cd : ClassFile.Cond} {x : Int32} {b : Bool} (q : if_icmp.holds cd x 0 = b) : ifCond.holds cd x = b := (if0 cd x).trans q
theorem own_cmp (x y : Int64) : (x.toInt < y.toInt ∧ XT.cmpL x y = -1) ∨ (x.toInt = y.toInt ∧ XT.cmpL x y = 0) ∨ (y.toInt < x.toInt ∧ XT.cmpL x y = 1) := by
  unfold XT.cmpL
  by_cases h1 : y < x
  · exact Or.inr (Or.inr ⟨Int64.lt_iff_toInt_lt.mp h1, if_pos h1⟩)
  · by_cases h2 : x = y
    · exact Or.inr (Or.inl ⟨by rw [h2], by rw [if_neg h1, if_pos h2]⟩)
    · refine Or.inl ⟨?_, by rw [if_neg h1, if_neg h2]⟩
      have q1 : ¬ y.toInt < x.toInt := fun z => h1 (Int64.lt_iff_toInt_lt.mpr z)
      have q2 : ¬ x.toInt = y.toInt := fun z => h2 (Int64.toInt_inj.mp z)
      omega
theorem own_lltY {x y : Int64} {k : Int} (hy : y.toInt = k) (q : x.toInt < k) : ifCond.holds .lt (XT.cmpL x y) = true := by rcases own_cmp x y with ⟨h, e⟩ | ⟨h, e⟩ | ⟨h, e⟩ <;> first | (exfalso; omega) | (rw [e]; decide)
theorem own_lltN {x y : Int64} {k : Int} (hy : y.toInt = k) (q : ¬ x.toInt < k) : ifCond.holds .lt (XT.cmpL x y) = false := by rcases own_cmp x y with ⟨h, e⟩ | ⟨h, e⟩ | ⟨h, e⟩ <;> first | (exfalso; omega) | (rw [e]; decide)
theorem own_lgeY {x y : Int64} {k : Int} (hy : y.toInt = k) (q : k ≤ x.toInt) : ifCond.holds .ge (XT.cmpL x y) = true := by rcases own_cmp x y with ⟨h, e⟩ | ⟨h, e⟩ | ⟨h, e⟩ <;> first | (exfalso; omega) | (rw [e]; decide)
theorem own_lgeN {x y : Int64} {k : Int} (hy : y.toInt = k) (q : ¬ k ≤ x.toInt) : ifCond.holds .ge (XT.cmpL x y) = false := by rcases own_cmp x y with ⟨h, e⟩ | ⟨h, e⟩ | ⟨h, e⟩ <;> first | (exfalso; omega) | (rw [e]; decide)
theorem own_lgtY {x y : Int64} {k : Int} (hy : y.toInt = k) (q : k < x.toInt) : ifCond.holds .gt (XT.cmpL x y) = true := by rcases own_cmp x y with ⟨h, e⟩ | ⟨h, e⟩ | ⟨h, e⟩ <;> first | (exfalso; omega) | (rw [e]; decide)
theorem own_lgtN {x y : Int64} {k : Int} (hy : y.toInt = k) (q : ¬ k < x.toInt) : ifCond.holds .gt (XT.cmpL x y) = false := by rcases own_cmp x y with ⟨h, e⟩ | ⟨h, e⟩ | ⟨h, e⟩ <;> first | (exfalso; omega) | (rw [e]; decide)
theorem own_lleY {x y : Int64} {k : Int} (hy : y.toInt = k) (q : x.toInt ≤ k) : ifCond.holds .le (XT.cmpL x y) = true := by rcases own_cmp x y with ⟨h, e⟩ | ⟨h, e⟩ | ⟨h, e⟩ <;> first | (exfalso; omega) | (rw [e]; decide)
theorem own_lleN {x y : Int64} {k : Int} (hy : y.toInt = k) (q : ¬ x.toInt ≤ k) : ifCond.holds .le (XT.cmpL x y) = false := by rcases own_cmp x y with ⟨h, e⟩ | ⟨h, e⟩ | ⟨h, e⟩ <;> first | (exfalso; omega) | (rw [e]; decide)
theorem own_leqY {x y : Int64} {k : Int} (hy : y.toInt = k) (q : x.toInt = k) : ifCond.holds .eq (XT.cmpL x y) = true := by rcases own_cmp x y with ⟨h, e⟩ | ⟨h, e⟩ | ⟨h, e⟩ <;> first | (exfalso; omega) | (rw [e]; decide)
theorem own_leqN {x y : Int64} {k : Int} (hy : y.toInt = k) (q : ¬ x.toInt = k) : ifCond.holds .eq (XT.cmpL x y) = false := by rcases own_cmp x y with ⟨h, e⟩ | ⟨h, e⟩ | ⟨h, e⟩ <;> first | (exfalso; omega) | (rw [e]; decide)
theorem own_lneY {x y : Int64} {k : Int} (hy : y.toInt = k) (q : ¬ x.toInt = k) : ifCond.holds .ne (XT.cmpL x y) = true := by rcases own_cmp x y with ⟨h, e⟩ | ⟨h, e⟩ | ⟨h, e⟩ <;> first | (exfalso; omega) | (rw [e]; decide)
theorem own_lneN {x y : Int64} {k : Int} (hy : y.toInt = k) (q : ¬ ¬ x.toInt = k) : ifCond.holds .ne (XT.cmpL x y) = false := by rcases own_cmp x y with ⟨h, e⟩ | ⟨h, e⟩ | ⟨h, e⟩ <;> first | (exfalso; omega) | (rw [e]; decide)
theorem own_yes {P : Prop} [Decidable P] (q : P) : (some (Value.int (nar .boolean 1)) : Option Value) = some (.int (if P then 1 else 0)) := by rw [if_pos q]; rfl
theorem own_no {P : Prop} [Decidable P] (q : ¬ P) : (some (Value.int (nar .boolean 0)) : Option Value) = some (.int (if P then 1 else 0)) := by rw [if_neg q]; rfl
theorem own_nyes {P : Prop} [Decidable P] (q : P) : (some (Value.int (nar .boolean 0)) : Option Value) = some (.int (if P then 0 else 1)) := by rw [if_pos q]; rfl
theorem own_nno {P : Prop} [Decidable P] (q : ¬ P) : (some (Value.int (nar .boolean 1)) : Option Value) = some (.int (if P then 0 else 1)) := by rw [if_neg q]; rfl
theorem own_bneY {P : Prop} [Decidable P] (q : P) : ifCond.holds .ne (if P then (1 : Int32) else 0) = true := by rw [if_pos q]; rfl
theorem own_bneN {P : Prop} [Decidable P] (q : ¬ P) : ifCond.holds .ne (if P then (1 : Int32) else 0) = false := by rw [if_neg q]; rfl
theorem own_beqY {P : Prop} [Decidable P] (q : ¬ P) : ifCond.holds .eq (if P then (1 : Int32) else 0) = true := by rw [if_neg q]; rfl
theorem own_beqN {P : Prop} [Decidable P] (q : ¬ ¬ P) : ifCond.holds .eq (if P then (1 : Int32) else 0) = false := by rw [if_pos (Decidable.not_not.mp q)]; rfl
/-! own kit, part 4: an array of which only the kind, the length and 'its places hold values of the kind' is kept -/
def own_A (Z : State) (h : Heap) (a : Addr) (ty : FieldType) (n : Nat) : Prop := ∃ c : Cell, Arr Z h a c ty ∧ c.slots.size = n ∧ ∀ i, i < n → ∃ v, c.slots[i]? = some v ∧ fits ty v = true
theorem own_A.lt {a : Addr} {ty : FieldType} {n : Nat} (A : own_A Z h a ty n) : a < h.size := by obtain ⟨c, A, -⟩ := A; exact A.lt
theorem own_A.of {h' : Heap} {a : Addr} {ty : FieldType} {n : Int32} {k : ClassId} {j : Nat} (A : Arr Z h a (newA k ty n) ty) (q : ¬ n < 0) (hn : n.toNatClampNeg = j) : own_A Z h a ty j := by
  obtain ⟨c, A, -, S, -, H, G⟩ := Arv.new A q
  exact ⟨c, A, S.trans hn, fun i hi => ⟨_, H i (by omega), G i (by omega)⟩⟩
theorem own_A.ext {h' : Heap} {a : Addr} {ty : FieldType} {n : Nat} (A : own_A Z h a ty n) (E : Ext h h') : own_A Z h' a ty n := by obtain ⟨c, A, r⟩ := A; exact ⟨c, A.ext E, r⟩
theorem own_A.other {h' : Heap} {a b : Addr} {ty : FieldType} {n sl : Nat} {v : Value} (A : own_A Z h a ty n) (W : Wr h h' b sl v) (q : a ≠ b) : own_A Z h' a ty n := by obtain ⟨c, A, r⟩ := A; exact ⟨c, A.other W q, r⟩
theorem own_A.set {h' : Heap} {a : Addr} {ty : FieldType} {n j : Nat} {v : Value} (A : own_A Z h a ty n) (W : Wr h h' a j v) (hv : fits ty v = true) : own_A Z h' a ty n := by
  obtain ⟨c, A, S, H⟩ := A
  refine ⟨_, A.same W, by rw [sz_set]; exact S, fun i hi => ?_⟩
  by_cases hij : i = j
  · subst hij
    exact ⟨v, by simp [Cell.setSlot, S, hi], hv⟩
  · obtain ⟨w, h1, h2⟩ := H i hi
    refine ⟨w, ?_, h2⟩
    simp only [Cell.setSlot]
    rw [Array.getElem?_setIfInBounds_ne (fun z => hij z.symm)]
    exact h1
theorem own_inb {c : Cell} {n : Nat} {j : Int32} (S : c.slots.size = n) (h1 : 0 ≤ j.toInt) (h2 : j.toInt < n) : ¬ (j < 0 ∨ c.slots.size ≤ j.toNatClampNeg) := by
  have h3 : ¬ j < 0 := fun z => by have := Int32.lt_iff_toInt_lt.mp z; have e : (0 : Int32).toInt = 0 := rfl; omega
  have := nat_of h3
  rintro (z | z)
  · exact h3 z
  · omega
theorem own_stI (X : Stand p l e R s m args below meth c T locs cells slots) (hx : p.tables.exec = Jvm.exec) (hZ : Z.Warmed39 s.vm) (eT : T.heap = h) {a : Addr} {n : Nat} (A : own_A Z h a .int n) {j x : Int32} (h1 : 0 ≤ j.toInt) (h2 : j.toInt < n) {pc : Nat} {Ls : Array Slot} {rest : List Value} (hd : decode c.code pc = .ok (.iastore, 1)) :
    ∃ T' h', Stand p l e R s m args below meth c T' (locs ++ [⟨a, j.toNatClampNeg⟩]) cells slots ∧ T'.heap = h' ∧ Wr h h' a j.toNatClampNeg (.int x) ∧ own_A Z h' a .int n ∧ ∀ t, Steps p.tables e below (T'.setTop (mkF m (pc + 1) Ls rest)) t → Steps p.tables e below (T.setTop (mkF m pc Ls (.int x :: .int j :: .ref a :: rest))) t := by
  have A0 := A
  obtain ⟨cl, A1, S, H⟩ := A
  obtain ⟨T', h', X', e', W, st⟩ := stI X hx hZ eT A1 (j := j) (x := x) (own_inb S h1 h2) (g := mkF m pc Ls (.int x :: .int j :: .ref a :: rest)) rfl rfl hd
  exact ⟨T', h', X', e', W, A0.set W rfl, st⟩
theorem own_stJ (X : Stand p l e R s m args below meth c T locs cells slots) (hx : p.tables.exec = Jvm.exec) (hZ : Z.Warmed39 s.vm) (eT : T.heap = h) {a : Addr} {n : Nat} (A : own_A Z h a .long n) {j : Int32} {x : Int64} (h1 : 0 ≤ j.toInt) (h2 : j.toInt < n) {pc : Nat} {Ls : Array Slot} {rest : List Value} (hd : decode c.code pc = .ok (.lastore, 1)) :
    ∃ T' h', Stand p l e R s m args below meth c T' (locs ++ [⟨a, j.toNatClampNeg⟩]) cells slots ∧ T'.heap = h' ∧ Wr h h' a j.toNatClampNeg (.long x) ∧ own_A Z h' a .long n ∧ ∀ t, Steps p.tables e below (T'.setTop (mkF m (pc + 1) Ls rest)) t → Steps p.tables e below (T.setTop (mkF m pc Ls (.long x :: .int j :: .ref a :: rest))) t := by
  have A0 := A
  obtain ⟨cl, A1, S, H⟩ := A
  obtain ⟨T', h', X', e', W, st⟩ := stJ X hx hZ eT A1 (j := j) (x := x) (own_inb S h1 h2) (g := mkF m pc Ls (.long x :: .int j :: .ref a :: rest)) rfl rfl hd
  exact ⟨T', h', X', e', W, A0.set W rfl, st⟩
theorem own_ldI (X : Stand p l e R s m args below meth c T locs cells slots) (hx : p.tables.exec = Jvm.exec) (hZ : Z.Warmed39 s.vm) (eT : T.heap = h) {a : Addr} {n : Nat} (A : own_A Z h a .int n) {j : Int32} (h1 : 0 ≤ j.toInt) (h2 : j.toInt < n) {pc : Nat} {Ls : Array Slot} {rest : List Value} (hd : decode c.code pc = .ok (.iaload, 1)) :
    ∃ x : Int32, ∀ t, Steps p.tables e below (T.setTop (mkF m (pc + 1) Ls (.int x :: rest))) t → Steps p.tables e below (T.setTop (mkF m pc Ls (.int j :: .ref a :: rest))) t := by
  obtain ⟨cl, A1, S, H⟩ := A
  have hin := own_inb S h1 h2
  obtain ⟨v, g1, g2⟩ := H j.toNatClampNeg (by rw [← S]; exact Nat.lt_of_not_le fun q => hin (Or.inr q))
  obtain ⟨x, rfl⟩ := fit_I g2 (Or.inl rfl)
  exact ⟨x, fun t k => X.iaload hx (by rw [eT]; exact A1.1) (State.isArrayOf_alike hZ.alike A1.2.1) A1.2.2 hin g1 (g := mkF m pc Ls (.int j :: .ref a :: rest)) rfl rfl hd t k⟩
theorem own_ldJ (X : Stand p l e R s m args below meth c T locs cells slots) (hx : p.tables.exec = Jvm.exec) (hZ : Z.Warmed39 s.vm) (eT : T.heap = h) {a : Addr} {n : Nat} (A : own_A Z h a .long n) {j : Int32} (h1 : 0 ≤ j.toInt) (h2 : j.toInt < n) {pc : Nat} {Ls : Array Slot} {rest : List Value} (hd : decode c.code pc = .ok (.laload, 1)) :
    ∃ x : Int64, ∀ t, Steps p.tables e below (T.setTop (mkF m (pc + 1) Ls (.long x :: rest))) t → Steps p.tables e below (T.setTop (mkF m pc Ls (.int j :: .ref a :: rest))) t := by
  obtain ⟨cl, A1, S, H⟩ := A
  have hin := own_inb S h1 h2
  obtain ⟨v, g1, g2⟩ := H j.toNatClampNeg (by rw [← S]; exact Nat.lt_of_not_le fun q => hin (Or.inr q))
  obtain ⟨x, rfl⟩ := fit_J g2
  exact ⟨x, fun t k => X.laload hx (by rw [eT]; exact A1.1) (State.isArrayOf_alike hZ.alike A1.2.1) A1.2.2 hin g1 (g := mkF m pc Ls (.int j :: .ref a :: rest)) rfl rfl hd t k⟩
theorem own_len (X : Stand p l e R s m args below meth c T locs cells slots) (hx : p.tables.exec = Jvm.exec) (hZ : Z.Warmed39 s.vm) (eT : T.heap = h) {a : Addr} {n : Nat} {ty : FieldType} (A : own_A Z h a ty n) {pc : Nat} {Ls : Array Slot} {rest : List Value} (hd : decode c.code pc = .ok (.arraylength, 1)) :
    ∀ t, Steps p.tables e below (T.setTop (mkF m (pc + 1) Ls (.int n.toInt32 :: rest))) t → Steps p.tables e below (T.setTop (mkF m pc Ls (.ref a :: rest))) t := by
  obtain ⟨cl, A1, S, H⟩ := A
  subst S
  exact fun t k => X.arraylength hx (by rw [eT]; exact A1.1) (State.isArrayOf_alike hZ.alike A1.2.1) (g := mkF m pc Ls (.ref a :: rest)) rfl rfl hd t k
/-! own kit, part 5: an array by the function that tells what its places hold -/
def own_F (Z : State) (h : Heap) (a : Addr) (k : ClassId) (ty : FieldType) (n : Nat) (f : Nat → Value) : Prop := ∃ c : Cell, Arr Z h a c ty ∧ c.cls = k ∧ c.slots.size = n ∧ ∀ i, i < n → c.slots[i]? = some (f i)
def own_up (f : Nat → Value) (j : Nat) (v : Value) : Nat → Value := fun i => if i = j then v else f i
section F
variable {h' : Heap} {a b : Addr} {k : ClassId} {ty : FieldType} {n : Nat} {f : Nat → Value} {j x : Int32} {y : Int64} {i : Nat} {v : Value} {pc : Nat} {Ls : Array Slot} {rest : List Value}
theorem own_F.cong {g : Nat → Value} (F : own_F Z h a k ty n f) (q : ∀ i, i < n → f i = g i) : own_F Z h a k ty n g := by obtain ⟨c, A, r1, r2, r3⟩ := F; exact ⟨c, A, r1, r2, fun i hi => by rw [← q i hi]; exact r3 i hi⟩
theorem own_F.lt (F : own_F Z h a k ty n f) : a < h.size := by obtain ⟨c, A, -⟩ := F; exact A.lt
theorem own_F.ext (F : own_F Z h a k ty n f) (E : Ext h h') : own_F Z h' a k ty n f := by obtain ⟨c, A, r⟩ := F; exact ⟨c, A.ext E, r⟩
theorem own_F.other {sl : Nat} (F : own_F Z h a k ty n f) (W : Wr h h' b sl v) (q : a ≠ b) : own_F Z h' a k ty n f := by obtain ⟨c, A, r⟩ := F; exact ⟨c, A.other W q, r⟩
theorem own_F.keep {ws : List Addr} (F : own_F Z h a k ty n f) (K : Keep h h' ws) (q : a ∉ ws) : own_F Z h' a k ty n f := by obtain ⟨c, A, r⟩ := F; exact ⟨c, ⟨K.2.1 a c A.1 q, A.2⟩, r⟩
theorem own_F.new {z : Int32} (A : Arr Z h a (newA k ty z) ty) (q : ¬ z < 0) (hn : z.toNatClampNeg = n) : own_F Z h a k ty n (fun _ => defaultValue ty) := by
  refine ⟨_, A, rfl, (sz_new _ _ _).trans hn, fun i hi => ?_⟩
  simp [newA, hn, hi]
theorem own_F.set (F : own_F Z h a k ty n f) (W : Wr h h' a i v) : own_F Z h' a k ty n (own_up f i v) := by
  obtain ⟨c, A, q, S, H⟩ := F
  refine ⟨_, A.same W, q, by rw [sz_set]; exact S, fun j hj => ?_⟩
  unfold own_up
  by_cases hij : j = i
  · subst hij
    rw [if_pos rfl]; simp [Cell.setSlot, S, hj]
  · rw [if_neg hij]
    simp only [Cell.setSlot]
    rw [Array.getElem?_setIfInBounds_ne (fun z => hij z.symm)]
    exact H j hj
theorem own_nat (hj : j.toInt = i) : j.toNatClampNeg = i ∧ ¬ j < 0 := by
  have h3 : ¬ j < 0 := fun z => by have := Int32.lt_iff_toInt_lt.mp z; have e : (0 : Int32).toInt = 0 := rfl; omega
  have := nat_of h3
  exact ⟨by omega, h3⟩
theorem own_in {c : Cell} (S : c.slots.size = n) (hj : j.toInt = i) (hi : i < n) : ¬ (j < 0 ∨ c.slots.size ≤ j.toNatClampNeg) := by
  obtain ⟨e1, e2⟩ := own_nat hj
  rintro (z | z)
  · exact e2 z
  · omega
theorem own_fstI (X : Stand p l e R s m args below meth c T locs cells slots) (hx : p.tables.exec = Jvm.exec) (hZ : Z.Warmed39 s.vm) (eT : T.heap = h) (F : own_F Z h a k .int n f) (i : Nat) (hj : j.toInt = i) (hi : i < n) (hd : decode c.code pc = .ok (.iastore, 1)) :
    ∃ T' h', Stand p l e R s m args below meth c T' (locs ++ [⟨a, i⟩]) cells slots ∧ T'.heap = h' ∧ Wr h h' a i (.int x) ∧ own_F Z h' a k .int n (own_up f i (.int x)) ∧ ∀ t, Steps p.tables e below (T'.setTop (mkF m (pc + 1) Ls rest)) t → Steps p.tables e below (T.setTop (mkF m pc Ls (.int x :: .int j :: .ref a :: rest))) t := by
  have F0 := F
  obtain ⟨cl, A, q, S, H⟩ := F
  obtain ⟨T', h', X', e', W, st⟩ := stI X hx hZ eT A (j := j) (x := x) (own_in S hj hi) (g := mkF m pc Ls (.int x :: .int j :: .ref a :: rest)) rfl rfl hd
  rw [(own_nat hj).1] at X' W
  exact ⟨T', h', X', e', W, F0.set W, st⟩
theorem own_fstJ (X : Stand p l e R s m args below meth c T locs cells slots) (hx : p.tables.exec = Jvm.exec) (hZ : Z.Warmed39 s.vm) (eT : T.heap = h) (F : own_F Z h a k .long n f) (i : Nat) (hj : j.toInt = i) (hi : i < n) (hd : decode c.code pc = .ok (.lastore, 1)) :
    ∃ T' h', Stand p l e R s m args below meth c T' (locs ++ [⟨a, i⟩]) cells slots ∧ T'.heap = h' ∧ Wr h h' a i (.long y) ∧ own_F Z h' a k .long n (own_up f i (.long y)) ∧ ∀ t, Steps p.tables e below (T'.setTop (mkF m (pc + 1) Ls rest)) t → Steps p.tables e below (T.setTop (mkF m pc Ls (.long y :: .int j :: .ref a :: rest))) t := by
  have F0 := F
  obtain ⟨cl, A, q, S, H⟩ := F
  obtain ⟨T', h', X', e', W, st⟩ := stJ X hx hZ eT A (j := j) (x := y) (own_in S hj hi) (g := mkF m pc Ls (.long y :: .int j :: .ref a :: rest)) rfl rfl hd
  rw [(own_nat hj).1] at X' W
  exact ⟨T', h', X', e', W, F0.set W, st⟩
theorem own_fstC (X : Stand p l e R s m args below meth c T locs cells slots) (hx : p.tables.exec = Jvm.exec) (hZ : Z.Warmed39 s.vm) (eT : T.heap = h) (F : own_F Z h a k .char n f) (i : Nat) (hj : j.toInt = i) (hi : i < n) (hd : decode c.code pc = .ok (.castore, 1)) :
    ∃ T' h', Stand p l e R s m args below meth c T' (locs ++ [⟨a, i⟩]) cells slots ∧ T'.heap = h' ∧ Wr h h' a i (.int (nar .char x)) ∧ own_F Z h' a k .char n (own_up f i (.int (nar .char x))) ∧ ∀ t, Steps p.tables e below (T'.setTop (mkF m (pc + 1) Ls rest)) t → Steps p.tables e below (T.setTop (mkF m pc Ls (.int x :: .int j :: .ref a :: rest))) t := by
  have F0 := F
  obtain ⟨cl, A, q, S, H⟩ := F
  obtain ⟨T', h', X', e', W, st⟩ := stC X hx hZ eT A (j := j) (x := x) (own_in S hj hi) (g := mkF m pc Ls (.int x :: .int j :: .ref a :: rest)) rfl rfl hd
  rw [(own_nat hj).1] at X' W
  exact ⟨T', h', X', e', W, F0.set W, st⟩
theorem own_fstZ (X : Stand p l e R s m args below meth c T locs cells slots) (hx : p.tables.exec = Jvm.exec) (hZ : Z.Warmed39 s.vm) (eT : T.heap = h) (F : own_F Z h a k .boolean n f) (i : Nat) (hj : j.toInt = i) (hi : i < n) (hd : decode c.code pc = .ok (.bastore, 1)) :
    ∃ T' h', Stand p l e R s m args below meth c T' (locs ++ [⟨a, i⟩]) cells slots ∧ T'.heap = h' ∧ Wr h h' a i (.int (nar .boolean x)) ∧ own_F Z h' a k .boolean n (own_up f i (.int (nar .boolean x))) ∧ ∀ t, Steps p.tables e below (T'.setTop (mkF m (pc + 1) Ls rest)) t → Steps p.tables e below (T.setTop (mkF m pc Ls (.int x :: .int j :: .ref a :: rest))) t := by
  have F0 := F
  obtain ⟨cl, A, q, S, H⟩ := F
  obtain ⟨T', h', X', e', W, st⟩ := stZ X hx hZ eT A (j := j) (x := x) (own_in S hj hi) (g := mkF m pc Ls (.int x :: .int j :: .ref a :: rest)) rfl rfl hd
  rw [(own_nat hj).1] at X' W
  exact ⟨T', h', X', e', W, F0.set W, st⟩
theorem own_fstA (X : Stand p l e R s m args below meth c T locs cells slots) (hx : p.tables.exec = Jvm.exec) (hZ : Z.Warmed39 s.vm) (eT : T.heap = h) (F : own_F Z h a k ty n f) (hty : ty.isReference = true) (O : Sto Z h a v) (i : Nat) (hj : j.toInt = i) (hi : i < n) (hd : decode c.code pc = .ok (.aastore, 1)) :
    ∃ T' h', Stand p l e R s m args below meth c T' (locs ++ [⟨a, i⟩]) cells slots ∧ T'.heap = h' ∧ Wr h h' a i v ∧ own_F Z h' a k ty n (own_up f i v) ∧ ∀ t, Steps p.tables e below (T'.setTop (mkF m (pc + 1) Ls rest)) t → Steps p.tables e below (T.setTop (mkF m pc Ls (v :: .int j :: .ref a :: rest))) t := by
  have F0 := F
  obtain ⟨cl, A, q, S, H⟩ := F
  obtain ⟨T', h', X', e', W, st⟩ := stR X hx hZ eT A (j := j) (v := v) (own_in S hj hi) hty O (g := mkF m pc Ls (v :: .int j :: .ref a :: rest)) rfl rfl hd
  rw [(own_nat hj).1] at X' W
  exact ⟨T', h', X', e', W, F0.set W, st⟩
theorem own_fldI (X : Stand p l e R s m args below meth c T locs cells slots) (hx : p.tables.exec = Jvm.exec) (hZ : Z.Warmed39 s.vm) (eT : T.heap = h) (F : own_F Z h a k .int n f) (i : Nat) (hj : j.toInt = i) (hi : i < n) (hv : f i = v) (hd : decode c.code pc = .ok (.iaload, 1)) :
    ∀ t, Steps p.tables e below (T.setTop (mkF m (pc + 1) Ls (v :: rest))) t → Steps p.tables e below (T.setTop (mkF m pc Ls (.int j :: .ref a :: rest))) t := by
  obtain ⟨cl, A, q, S, H⟩ := F
  exact fun t kk => X.iaload hx (by rw [eT]; exact A.1) (State.isArrayOf_alike hZ.alike A.2.1) A.2.2 (own_in S hj hi) (by rw [(own_nat hj).1, ← hv]; exact H i hi) (g := mkF m pc Ls (.int j :: .ref a :: rest)) rfl rfl hd t kk
theorem own_fldJ (X : Stand p l e R s m args below meth c T locs cells slots) (hx : p.tables.exec = Jvm.exec) (hZ : Z.Warmed39 s.vm) (eT : T.heap = h) (F : own_F Z h a k .long n f) (i : Nat) (hj : j.toInt = i) (hi : i < n) (hv : f i = v) (hd : decode c.code pc = .ok (.laload, 1)) :
    ∀ t, Steps p.tables e below (T.setTop (mkF m (pc + 1) Ls (v :: rest))) t → Steps p.tables e below (T.setTop (mkF m pc Ls (.int j :: .ref a :: rest))) t := by
  obtain ⟨cl, A, q, S, H⟩ := F
  exact fun t kk => X.laload hx (by rw [eT]; exact A.1) (State.isArrayOf_alike hZ.alike A.2.1) A.2.2 (own_in S hj hi) (by rw [(own_nat hj).1, ← hv]; exact H i hi) (g := mkF m pc Ls (.int j :: .ref a :: rest)) rfl rfl hd t kk
theorem own_fldC (X : Stand p l e R s m args below meth c T locs cells slots) (hx : p.tables.exec = Jvm.exec) (hZ : Z.Warmed39 s.vm) (eT : T.heap = h) (F : own_F Z h a k .char n f) (i : Nat) (hj : j.toInt = i) (hi : i < n) (hv : f i = v) (hd : decode c.code pc = .ok (.caload, 1)) :
    ∀ t, Steps p.tables e below (T.setTop (mkF m (pc + 1) Ls (v :: rest))) t → Steps p.tables e below (T.setTop (mkF m pc Ls (.int j :: .ref a :: rest))) t := by
  obtain ⟨cl, A, q, S, H⟩ := F
  exact fun t kk => X.caload hx (by rw [eT]; exact A.1) (State.isArrayOf_alike hZ.alike A.2.1) A.2.2 (own_in S hj hi) (by rw [(own_nat hj).1, ← hv]; exact H i hi) (g := mkF m pc Ls (.int j :: .ref a :: rest)) rfl rfl hd t kk
theorem own_fldZ (X : Stand p l e R s m args below meth c T locs cells slots) (hx : p.tables.exec = Jvm.exec) (hZ : Z.Warmed39 s.vm) (eT : T.heap = h) (F : own_F Z h a k .boolean n f) (i : Nat) (hj : j.toInt = i) (hi : i < n) (hv : f i = v) (hd : decode c.code pc = .ok (.baload, 1)) :
    ∀ t, Steps p.tables e below (T.setTop (mkF m (pc + 1) Ls (v :: rest))) t → Steps p.tables e below (T.setTop (mkF m pc Ls (.int j :: .ref a :: rest))) t := by
  obtain ⟨cl, A, q, S, H⟩ := F
  exact fun t kk => X.baloadBooleans hx (by rw [eT]; exact A.1) (State.isArrayOf_alike hZ.alike A.2.1) A.2.2 (own_in S hj hi) (by rw [(own_nat hj).1, ← hv]; exact H i hi) (g := mkF m pc Ls (.int j :: .ref a :: rest)) rfl rfl hd t kk
theorem own_fldA (X : Stand p l e R s m args below meth c T locs cells slots) (hx : p.tables.exec = Jvm.exec) (hZ : Z.Warmed39 s.vm) (eT : T.heap = h) (F : own_F Z h a k ty n f) (hty : ty.isReference = true) (i : Nat) (hj : j.toInt = i) (hi : i < n) (hv : f i = v) (hd : decode c.code pc = .ok (.aaload, 1)) :
    ∀ t, Steps p.tables e below (T.setTop (mkF m (pc + 1) Ls (v :: rest))) t → Steps p.tables e below (T.setTop (mkF m pc Ls (.int j :: .ref a :: rest))) t := by
  obtain ⟨cl, A, q, S, H⟩ := F
  exact fun t kk => X.aaload hx (by rw [eT]; exact A.1) (State.isArrayOf_alike hZ.alike A.2.1) hty A.2.2 (own_in S hj hi) (by rw [(own_nat hj).1, ← hv]; exact H i hi) (g := mkF m pc Ls (.int j :: .ref a :: rest)) rfl rfl hd t kk
theorem own_flen (X : Stand p l e R s m args below meth c T locs cells slots) (hx : p.tables.exec = Jvm.exec) (hZ : Z.Warmed39 s.vm) (eT : T.heap = h) (F : own_F Z h a k ty n f) (hd : decode c.code pc = .ok (.arraylength, 1)) :
    ∀ t, Steps p.tables e below (T.setTop (mkF m (pc + 1) Ls (.int n.toInt32 :: rest))) t → Steps p.tables e below (T.setTop (mkF m pc Ls (.ref a :: rest))) t := by
  obtain ⟨cl, A, q, S, H⟩ := F
  subst S
  exact fun t kk => X.arraylength hx (by rw [eT]; exact A.1) (State.isArrayOf_alike hZ.alike A.2.1) (g := mkF m pc Ls (.ref a :: rest)) rfl rfl hd t kk
theorem own_F.sto {ty : FieldType} {y : Addr} {C : String} (F : own_F Z h a k (.array ty) n f) (O : OvrA Z k ty C) (E : Exa Z h y C) : Sto Z h a (.ref y) := by
  obtain ⟨c, A, q, -⟩ := F
  exact Sto.ofVA A q O (Ins.self E)
theorem own_up_eq : own_up f i v i = v := if_pos rfl
theorem own_up_ne {j : Nat} (q : j ≠ i) : own_up f i v j = f j := if_neg q
end F
end Own
theorem d1_0 : decode prog_157_method_2_code 0 = .ok (.iload_n 0, 1) := by decide +kernel
theorem d1_1 : decode prog_157_method_2_code 1 = .ok (.sipush 128, 3) := by decide +kernel
theorem d1_4 : decode prog_157_method_2_code 4 = .ok (.if_icmp .ge 39, 3) := by decide +kernel
theorem d1_7 : decode prog_157_method_2_code 7 = .ok (.iload_n 0, 1) := by decide +kernel
theorem d1_8 : decode prog_157_method_2_code 8 = .ok (.bipush 97, 2) := by decide +kernel
theorem d1_10 : decode prog_157_method_2_code 10 = .ok (.if_icmp .lt 9, 3) := by decide +kernel
theorem d1_13 : decode prog_157_method_2_code 13 = .ok (.iload_n 0, 1) := by decide +kernel
theorem d1_14 : decode prog_157_method_2_code 14 = .ok (.bipush 122, 2) := by decide +kernel
theorem d1_16 : decode prog_157_method_2_code 16 = .ok (.if_icmp .le 21, 3) := by decide +kernel
theorem d1_19 : decode prog_157_method_2_code 19 = .ok (.iload_n 0, 1) := by decide +kernel
theorem d1_20 : decode prog_157_method_2_code 20 = .ok (.bipush 65, 2) := by decide +kernel
theorem d1_22 : decode prog_157_method_2_code 22 = .ok (.if_icmp .lt 9, 3) := by decide +kernel
theorem d1_25 : decode prog_157_method_2_code 25 = .ok (.iload_n 0, 1) := by decide +kernel
theorem d1_26 : decode prog_157_method_2_code 26 = .ok (.bipush 90, 2) := by decide +kernel
theorem d1_28 : decode prog_157_method_2_code 28 = .ok (.if_icmp .le 9, 3) := by decide +kernel
theorem d1_31 : decode prog_157_method_2_code 31 = .ok (.iload_n 0, 1) := by decide +kernel
theorem d1_32 : decode prog_157_method_2_code 32 = .ok (.bipush 95, 2) := by decide +kernel
theorem d1_34 : decode prog_157_method_2_code 34 = .ok (.if_icmp .ne 7, 3) := by decide +kernel
theorem d1_37 : decode prog_157_method_2_code 37 = .ok (.iconst 1, 1) := by decide +kernel
theorem d1_38 : decode prog_157_method_2_code 38 = .ok (.goto 4, 3) := by decide +kernel
theorem d1_41 : decode prog_157_method_2_code 41 = .ok (.iconst 0, 1) := by decide +kernel
theorem d1_42 : decode prog_157_method_2_code 42 = .ok (.ireturn, 1) := by decide +kernel
theorem d1_43 : decode prog_157_method_2_code 43 = .ok (.iconst 0, 1) := by decide +kernel
theorem d1_44 : decode prog_157_method_2_code 44 = .ok (.istore_n 1, 1) := by decide +kernel
theorem d1_45 : decode prog_157_method_2_code 45 = .ok (.iload_n 1, 1) := by decide +kernel
theorem d1_46 : decode prog_157_method_2_code 46 = .ok (.getstatic 7, 3) := by decide +kernel
theorem d1_49 : decode prog_157_method_2_code 49 = .ok (.arraylength, 1) := by decide +kernel
theorem d1_50 : decode prog_157_method_2_code 50 = .ok (.if_icmp .ge 31, 3) := by decide +kernel
theorem d1_53 : decode prog_157_method_2_code 53 = .ok (.iload_n 0, 1) := by decide +kernel
theorem d1_54 : decode prog_157_method_2_code 54 = .ok (.getstatic 7, 3) := by decide +kernel
theorem d1_57 : decode prog_157_method_2_code 57 = .ok (.iload_n 1, 1) := by decide +kernel
theorem d1_58 : decode prog_157_method_2_code 58 = .ok (.iaload, 1) := by decide +kernel
theorem d1_59 : decode prog_157_method_2_code 59 = .ok (.if_icmp .lt 16, 3) := by decide +kernel
theorem d1_62 : decode prog_157_method_2_code 62 = .ok (.iload_n 0, 1) := by decide +kernel
theorem d1_63 : decode prog_157_method_2_code 63 = .ok (.getstatic 7, 3) := by decide +kernel
theorem d1_66 : decode prog_157_method_2_code 66 = .ok (.iload_n 1, 1) := by decide +kernel
theorem d1_67 : decode prog_157_method_2_code 67 = .ok (.iconst 1, 1) := by decide +kernel
theorem d1_68 : decode prog_157_method_2_code 68 = .ok (.iadd, 1) := by decide +kernel
theorem d1_69 : decode prog_157_method_2_code 69 = .ok (.iaload, 1) := by decide +kernel
theorem d1_70 : decode prog_157_method_2_code 70 = .ok (.if_icmp .gt 5, 3) := by decide +kernel
theorem d1_73 : decode prog_157_method_2_code 73 = .ok (.iconst 1, 1) := by decide +kernel
theorem d1_74 : decode prog_157_method_2_code 74 = .ok (.ireturn, 1) := by decide +kernel
theorem d1_75 : decode prog_157_method_2_code 75 = .ok (.iinc 1 2, 3) := by decide +kernel
theorem d1_78 : decode prog_157_method_2_code 78 = .ok (.goto (-33), 3) := by decide +kernel
theorem d1_81 : decode prog_157_method_2_code 81 = .ok (.iconst 0, 1) := by decide +kernel
theorem d1_82 : decode prog_157_method_2_code 82 = .ok (.ireturn, 1) := by decide +kernel
theorem d2_0 : decode method_3_code 0 = .ok (.iload_n 0, 1) := by decide +kernel
theorem d2_1 : decode method_3_code 1 = .ok (.bipush 65, 2) := by decide +kernel
theorem d2_3 : decode method_3_code 3 = .ok (.bipush 90, 2) := by decide +kernel
theorem d2_5 : decode method_3_code 5 = .ok (.invokestatic 7, 3) := by decide +kernel
theorem d2_8 : decode method_3_code 8 = .ok (.ifCond .ne 169, 3) := by decide +kernel
theorem d2_11 : decode method_3_code 11 = .ok (.iload_n 0, 1) := by decide +kernel
theorem d2_12 : decode method_3_code 12 = .ok (.bipush 95, 2) := by decide +kernel
theorem d2_14 : decode method_3_code 14 = .ok (.if_icmp .eq 163, 3) := by decide +kernel
theorem d2_17 : decode method_3_code 17 = .ok (.iload_n 0, 1) := by decide +kernel
theorem d2_18 : decode method_3_code 18 = .ok (.bipush 97, 2) := by decide +kernel
theorem d2_20 : decode method_3_code 20 = .ok (.bipush 122, 2) := by decide +kernel
theorem d2_22 : decode method_3_code 22 = .ok (.invokestatic 7, 3) := by decide +kernel
theorem d2_25 : decode method_3_code 25 = .ok (.ifCond .ne 152, 3) := by decide +kernel
theorem d2_28 : decode method_3_code 28 = .ok (.iload_n 0, 1) := by decide +kernel
theorem d2_29 : decode method_3_code 29 = .ok (.sipush 192, 3) := by decide +kernel
theorem d2_32 : decode method_3_code 32 = .ok (.sipush 214, 3) := by decide +kernel
theorem d2_35 : decode method_3_code 35 = .ok (.invokestatic 7, 3) := by decide +kernel
theorem d2_38 : decode method_3_code 38 = .ok (.ifCond .ne 139, 3) := by decide +kernel
theorem d2_41 : decode method_3_code 41 = .ok (.iload_n 0, 1) := by decide +kernel
theorem d2_42 : decode method_3_code 42 = .ok (.sipush 216, 3) := by decide +kernel
theorem d2_45 : decode method_3_code 45 = .ok (.sipush 246, 3) := by decide +kernel
theorem d2_48 : decode method_3_code 48 = .ok (.invokestatic 7, 3) := by decide +kernel
theorem d2_51 : decode method_3_code 51 = .ok (.ifCond .ne 126, 3) := by decide +kernel
theorem d2_54 : decode method_3_code 54 = .ok (.iload_n 0, 1) := by decide +kernel
theorem d2_55 : decode method_3_code 55 = .ok (.sipush 248, 3) := by decide +kernel
theorem d2_58 : decode method_3_code 58 = .ok (.sipush 767, 3) := by decide +kernel
theorem d2_61 : decode method_3_code 61 = .ok (.invokestatic 7, 3) := by decide +kernel
theorem d2_64 : decode method_3_code 64 = .ok (.ifCond .ne 113, 3) := by decide +kernel
theorem d2_67 : decode method_3_code 67 = .ok (.iload_n 0, 1) := by decide +kernel
theorem d2_68 : decode method_3_code 68 = .ok (.sipush 880, 3) := by decide +kernel
theorem d2_71 : decode method_3_code 71 = .ok (.sipush 893, 3) := by decide +kernel
theorem d2_74 : decode method_3_code 74 = .ok (.invokestatic 7, 3) := by decide +kernel
theorem d2_77 : decode method_3_code 77 = .ok (.ifCond .ne 100, 3) := by decide +kernel
theorem d2_80 : decode method_3_code 80 = .ok (.iload_n 0, 1) := by decide +kernel
theorem d2_81 : decode method_3_code 81 = .ok (.sipush 895, 3) := by decide +kernel
theorem d2_84 : decode method_3_code 84 = .ok (.sipush 8191, 3) := by decide +kernel
theorem d2_87 : decode method_3_code 87 = .ok (.invokestatic 7, 3) := by decide +kernel
theorem d2_90 : decode method_3_code 90 = .ok (.ifCond .ne 87, 3) := by decide +kernel
theorem d2_93 : decode method_3_code 93 = .ok (.iload_n 0, 1) := by decide +kernel
theorem d2_94 : decode method_3_code 94 = .ok (.sipush 8204, 3) := by decide +kernel
theorem d2_97 : decode method_3_code 97 = .ok (.sipush 8205, 3) := by decide +kernel
theorem d2_100 : decode method_3_code 100 = .ok (.invokestatic 7, 3) := by decide +kernel
theorem d2_103 : decode method_3_code 103 = .ok (.ifCond .ne 74, 3) := by decide +kernel
theorem d2_106 : decode method_3_code 106 = .ok (.iload_n 0, 1) := by decide +kernel
theorem d2_107 : decode method_3_code 107 = .ok (.sipush 8304, 3) := by decide +kernel
theorem d2_110 : decode method_3_code 110 = .ok (.sipush 8591, 3) := by decide +kernel
theorem d2_113 : decode method_3_code 113 = .ok (.invokestatic 7, 3) := by decide +kernel
theorem d2_116 : decode method_3_code 116 = .ok (.ifCond .ne 61, 3) := by decide +kernel
theorem d2_119 : decode method_3_code 119 = .ok (.iload_n 0, 1) := by decide +kernel
theorem d2_120 : decode method_3_code 120 = .ok (.sipush 11264, 3) := by decide +kernel
theorem d2_123 : decode method_3_code 123 = .ok (.sipush 12271, 3) := by decide +kernel
theorem d2_126 : decode method_3_code 126 = .ok (.invokestatic 7, 3) := by decide +kernel
theorem d2_129 : decode method_3_code 129 = .ok (.ifCond .ne 48, 3) := by decide +kernel
theorem d2_132 : decode method_3_code 132 = .ok (.iload_n 0, 1) := by decide +kernel
theorem d2_133 : decode method_3_code 133 = .ok (.sipush 12289, 3) := by decide +kernel
theorem d2_136 : decode method_3_code 136 = .ok (.ldc 13, 2) := by decide +kernel
theorem d2_138 : decode method_3_code 138 = .ok (.invokestatic 7, 3) := by decide +kernel
theorem d2_141 : decode method_3_code 141 = .ok (.ifCond .ne 36, 3) := by decide +kernel
theorem d2_144 : decode method_3_code 144 = .ok (.iload_n 0, 1) := by decide +kernel
theorem d2_145 : decode method_3_code 145 = .ok (.ldc 14, 2) := by decide +kernel
theorem d2_147 : decode method_3_code 147 = .ok (.ldc 15, 2) := by decide +kernel
theorem d2_149 : decode method_3_code 149 = .ok (.invokestatic 7, 3) := by decide +kernel
theorem d2_152 : decode method_3_code 152 = .ok (.ifCond .ne 25, 3) := by decide +kernel
theorem d2_155 : decode method_3_code 155 = .ok (.iload_n 0, 1) := by decide +kernel
theorem d2_156 : decode method_3_code 156 = .ok (.ldc 16, 2) := by decide +kernel
theorem d2_158 : decode method_3_code 158 = .ok (.ldc 17, 2) := by decide +kernel
theorem d2_160 : decode method_3_code 160 = .ok (.invokestatic 7, 3) := by decide +kernel
theorem d2_163 : decode method_3_code 163 = .ok (.ifCond .ne 14, 3) := by decide +kernel
theorem d2_166 : decode method_3_code 166 = .ok (.iload_n 0, 1) := by decide +kernel
theorem d2_167 : decode method_3_code 167 = .ok (.ldc 18, 2) := by decide +kernel
theorem d2_169 : decode method_3_code 169 = .ok (.ldc 19, 2) := by decide +kernel
theorem d2_171 : decode method_3_code 171 = .ok (.invokestatic 7, 3) := by decide +kernel
theorem d2_174 : decode method_3_code 174 = .ok (.ifCond .eq 7, 3) := by decide +kernel
theorem d2_177 : decode method_3_code 177 = .ok (.iconst 1, 1) := by decide +kernel
theorem d2_178 : decode method_3_code 178 = .ok (.goto 4, 3) := by decide +kernel
theorem d2_181 : decode method_3_code 181 = .ok (.iconst 0, 1) := by decide +kernel
theorem d2_182 : decode method_3_code 182 = .ok (.ireturn, 1) := by decide +kernel
theorem d3_0 : decode method_2_code 0 = .ok (.iload_n 0, 1) := by decide +kernel
theorem d3_1 : decode method_2_code 1 = .ok (.iload_n 1, 1) := by decide +kernel
theorem d3_2 : decode method_2_code 2 = .ok (.if_icmp .lt 12, 3) := by decide +kernel
theorem d3_5 : decode method_2_code 5 = .ok (.iload_n 0, 1) := by decide +kernel
theorem d3_6 : decode method_2_code 6 = .ok (.iload_n 2, 1) := by decide +kernel
theorem d3_7 : decode method_2_code 7 = .ok (.if_icmp .gt 7, 3) := by decide +kernel
theorem d3_10 : decode method_2_code 10 = .ok (.iconst 1, 1) := by decide +kernel
theorem d3_11 : decode method_2_code 11 = .ok (.goto 4, 3) := by decide +kernel
theorem d3_14 : decode method_2_code 14 = .ok (.iconst 0, 1) := by decide +kernel
theorem d3_15 : decode method_2_code 15 = .ok (.ireturn, 1) := by decide +kernel
theorem pd_III_Z : parseMethodDescriptor "(III)Z" = some ⟨[.int, .int, .int], some .boolean⟩ := by decide +kernel
theorem pd_I_Z : parseMethodDescriptor "(I)Z" = some ⟨[.int], some .boolean⟩ := by decide +kernel
theorem pn_Names : plainName "com/example/penumbra/penumbra/store/Names" = true := by first | (simp [plainName, overriddenIn]; done) | decide +kernel
theorem pn_NamesIsNameStartPinLaw : plainName "com/example/penumbra/penumbra/store/NamesIsNameStartPinLaw" = true := by first | (simp [plainName, overriddenIn]; done) | decide +kernel
abbrev own_ns (c : Int) : Prop := (65 ≤ c ∧ c ≤ 90) ∨ c = 95 ∨ (97 ≤ c ∧ c ≤ 122) ∨ (192 ≤ c ∧ c ≤ 214) ∨ (216 ≤ c ∧ c ≤ 246) ∨ (248 ≤ c ∧ c ≤ 767) ∨ (880 ≤ c ∧ c ≤ 893) ∨ (895 ≤ c ∧ c ≤ 8191) ∨ (8204 ≤ c ∧ c ≤ 8205) ∨ (8304 ≤ c ∧ c ≤ 8591) ∨ (11264 ≤ c ∧ c ≤ 12271) ∨ (12289 ≤ c ∧ c ≤ 55295) ∨ (63744 ≤ c ∧ c ≤ 64975) ∨ (65008 ≤ c ∧ c ≤ 65533) ∨ (65536 ≤ c ∧ c ≤ 983039)
/-- what the places of NAME_START_RANGES hold -/
def own_rg (i : Nat) : Value := .int (([192, 214, 216, 246, 248, 767, 880, 893, 895, 8191, 8204, 8205, 8304, 8591, 11264, 12271, 12289, 55295, 63744, 64975, 65008, 65533, 65536, 983039] : List Int32).getD i 0)
set_option maxRecDepth 65536 in
set_option maxHeartbeats 40000000 in
theorem rm1 (l : Launch) (Z : State) (a0 : Array Value) (hw : ∀ d ∈ tables_1, d.before a0 Z = true) (ws : List Jvm.Cond) (p1 : Int32) (h0 : Heap) (n0 : Nat) (Z0 : n0 ≤ h0.size) (sa : Addr) (ka : ClassId) (S0 : Sta Z h0 "com/example/penumbra/penumbra/store/Names" "NAME_START_RANGES" "[I" (.ref sa)) (F0 : own_F Z h0 sa ka .int 24 own_rg) :
    own_Met l (⟨"com/example/penumbra/penumbra/store/Names", "isNameStart", "(I)Z"⟩ : MethodName) prog_157_method_2_code 2 (some .boolean) ws ({ frames := 0, cells := 0, slots := 0, locals := 0 } : Room) #[(.int p1)] Z h0 (fun v h L => v = some (.int (if own_ns p1.toInt then 1 else 0)) ∧ Fr n0 L ∧ h = h0) := by
  refine own_body (plainFor_of_name pn_Names) ?_
  intro p e s m below meth c s0 X0 hx hby hml hret hlk hown hnm hZ e0
  replace hown : s.vm.findClass "com/example/penumbra/penumbra/store/Names" = some m.cls := hown
  have N0 := Fr.nil n0
  have ef : entryFrame m #[(.int p1)] 2 = (mkF m 0 #[.val (.int p1), .unset] []) := by first | (simp [entryFrame, mkF, argsToLocals, Value.category, maxLocals]; done) | rfl
  rw [ef]
  show own_End p e below s _ _ _ (s0.setTop (mkF m 0 #[.val (.int p1), .unset] []))
  refine own_join (fun G => ∀ T, Stand p l e ({ frames := 0, cells := 0, slots := 0, locals := 0 } : Room) s m #[(.int p1)] below meth c T [] 0 0 → T.heap = h0 → (128 ≤ p1.toInt ∧ ¬ ((192 ≤ p1.toInt ∧ p1.toInt ≤ 214) ∨ (216 ≤ p1.toInt ∧ p1.toInt ≤ 246) ∨ (248 ≤ p1.toInt ∧ p1.toInt ≤ 767) ∨ (880 ≤ p1.toInt ∧ p1.toInt ≤ 893) ∨ (895 ≤ p1.toInt ∧ p1.toInt ≤ 8191) ∨ (8204 ≤ p1.toInt ∧ p1.toInt ≤ 8205) ∨ (8304 ≤ p1.toInt ∧ p1.toInt ≤ 8591) ∨ (11264 ≤ p1.toInt ∧ p1.toInt ≤ 12271) ∨ (12289 ≤ p1.toInt ∧ p1.toInt ≤ 55295) ∨ (63744 ≤ p1.toInt ∧ p1.toInt ≤ 64975) ∨ (65008 ≤ p1.toInt ∧ p1.toInt ≤ 65533) ∨ (65536 ≤ p1.toInt ∧ p1.toInt ≤ 983039))) → G (T.setTop (mkF m 45 #[.val (.int p1), .val (.int (24 : Int32))] []))) ?_ ?_
  ·
    intro TL XL eL jL
    show own_End p e below s _ _ _ (TL.setTop (mkF m 45 #[.val (.int p1), .val (.int (24 : Int32))] []))
    refine own_go (fun t k => XS.iloadN XL.here hx rfl (hb hby d1_45) rfl k) ?_
    show own_End p e below s _ _ _ (TL.setTop (mkF m 46 #[.val (.int p1), .val (.int (24 : Int32))] [(.int (24 : Int32))]))
    obtain ⟨T1, X1, e1, st1⟩ := getS XL hx hZ (host := "") hown (hw _ (List.mem_of_getElem? (i := 22) rfl)) Via.refl eL S0 (g := (mkF m 46 #[.val (.int p1), .val (.int (24 : Int32))] [(.int (24 : Int32))])) rfl (hb hby d1_46)
    refine own_go st1 ?_
    show own_End p e below s _ _ _ (T1.setTop (mkF m 49 #[.val (.int p1), .val (.int (24 : Int32))] [(.ref sa), (.int (24 : Int32))]))
    refine own_go (own_flen X1 hx hZ e1 F0 (pc := 49) (Ls := #[.val (.int p1), .val (.int (24 : Int32))]) (rest := [(.int (24 : Int32))]) (hb hby d1_49)) ?_
    show own_End p e below s _ _ _ (T1.setTop (mkF m 50 #[.val (.int p1), .val (.int (24 : Int32))] [(.int (24 : Int32)), (.int (24 : Int32))]))
    refine own_go (fun t k => XS.icmpYes X1.here hx rfl (pc0 := 50) (pc' := 81) rfl (hb hby d1_50) rfl (by decide) (by decide) (by decide) k) ?_
    show own_End p e below s _ _ _ (T1.setTop (mkF m 81 #[.val (.int p1), .val (.int (24 : Int32))] []))
    refine own_go (fun t k => XS.iconst X1.here hx rfl (hb hby d1_81) k) ?_
    show own_End p e below s _ _ _ (T1.setTop (mkF m 82 #[.val (.int p1), .val (.int (24 : Int32))] [(.int (0 : Int32))]))
    exact own_retN X1 hx (t := .boolean) hret hlk (by simp) (hb hby d1_82) ⟨own_no (by omega), N0, e1⟩ (by decide) (by decide)
  intro JL_24
  show own_End p e below s _ _ _ (s0.setTop (mkF m 0 #[.val (.int p1), .unset] []))
  refine own_join (fun G => ∀ T, Stand p l e ({ frames := 0, cells := 0, slots := 0, locals := 0 } : Room) s m #[(.int p1)] below meth c T [] 0 0 → T.heap = h0 → (128 ≤ p1.toInt ∧ ¬ ((192 ≤ p1.toInt ∧ p1.toInt ≤ 214) ∨ (216 ≤ p1.toInt ∧ p1.toInt ≤ 246) ∨ (248 ≤ p1.toInt ∧ p1.toInt ≤ 767) ∨ (880 ≤ p1.toInt ∧ p1.toInt ≤ 893) ∨ (895 ≤ p1.toInt ∧ p1.toInt ≤ 8191) ∨ (8204 ≤ p1.toInt ∧ p1.toInt ≤ 8205) ∨ (8304 ≤ p1.toInt ∧ p1.toInt ≤ 8591) ∨ (11264 ≤ p1.toInt ∧ p1.toInt ≤ 12271) ∨ (12289 ≤ p1.toInt ∧ p1.toInt ≤ 55295) ∨ (63744 ≤ p1.toInt ∧ p1.toInt ≤ 64975) ∨ (65008 ≤ p1.toInt ∧ p1.toInt ≤ 65533))) → G (T.setTop (mkF m 45 #[.val (.int p1), .val (.int (22 : Int32))] []))) ?_ ?_
  ·
    intro TL XL eL jL
    show own_End p e below s _ _ _ (TL.setTop (mkF m 45 #[.val (.int p1), .val (.int (22 : Int32))] []))
    refine own_go (fun t k => XS.iloadN XL.here hx rfl (hb hby d1_45) rfl k) ?_
    show own_End p e below s _ _ _ (TL.setTop (mkF m 46 #[.val (.int p1), .val (.int (22 : Int32))] [(.int (22 : Int32))]))
    obtain ⟨T2, X2, e2, st2⟩ := getS XL hx hZ (host := "") hown (hw _ (List.mem_of_getElem? (i := 22) rfl)) Via.refl eL S0 (g := (mkF m 46 #[.val (.int p1), .val (.int (22 : Int32))] [(.int (22 : Int32))])) rfl (hb hby d1_46)
    refine own_go st2 ?_
    show own_End p e below s _ _ _ (T2.setTop (mkF m 49 #[.val (.int p1), .val (.int (22 : Int32))] [(.ref sa), (.int (22 : Int32))]))
    refine own_go (own_flen X2 hx hZ e2 F0 (pc := 49) (Ls := #[.val (.int p1), .val (.int (22 : Int32))]) (rest := [(.int (22 : Int32))]) (hb hby d1_49)) ?_
    show own_End p e below s _ _ _ (T2.setTop (mkF m 50 #[.val (.int p1), .val (.int (22 : Int32))] [(.int (24 : Int32)), (.int (22 : Int32))]))
    refine own_go (fun t k => XS.icmpNo X2.here hx rfl (hb hby d1_50) rfl (by decide) k) ?_
    show own_End p e below s _ _ _ (T2.setTop (mkF m 53 #[.val (.int p1), .val (.int (22 : Int32))] []))
    refine own_go (fun t k => XS.iloadN X2.here hx rfl (hb hby d1_53) rfl k) ?_
    show own_End p e below s _ _ _ (T2.setTop (mkF m 54 #[.val (.int p1), .val (.int (22 : Int32))] [(.int p1)]))
    obtain ⟨T3, X3, e3, st3⟩ := getS X2 hx hZ (host := "") hown (hw _ (List.mem_of_getElem? (i := 22) rfl)) Via.refl e2 S0 (g := (mkF m 54 #[.val (.int p1), .val (.int (22 : Int32))] [(.int p1)])) rfl (hb hby d1_54)
    refine own_go st3 ?_
    show own_End p e below s _ _ _ (T3.setTop (mkF m 57 #[.val (.int p1), .val (.int (22 : Int32))] [(.ref sa), (.int p1)]))
    refine own_go (fun t k => XS.iloadN X3.here hx rfl (hb hby d1_57) rfl k) ?_
    show own_End p e below s _ _ _ (T3.setTop (mkF m 58 #[.val (.int p1), .val (.int (22 : Int32))] [(.int (22 : Int32)), (.ref sa), (.int p1)]))
    refine own_go (own_fldI X3 hx hZ e3 F0 (j := (22 : Int32)) (v := (.int (65536 : Int32))) 22 (by decide) (by decide) rfl (pc := 58) (Ls := #[.val (.int p1), .val (.int (22 : Int32))]) (rest := [(.int p1)]) (hb hby d1_58)) ?_
    show own_End p e below s _ _ _ (T3.setTop (mkF m 59 #[.val (.int p1), .val (.int (22 : Int32))] [(.int (65536 : Int32)), (.int p1)]))
    by_cases q_lo : p1.toInt < 65536
    ·
      refine own_go (fun t k => XS.icmpYes X3.here hx rfl (pc0 := 59) (pc' := 75) rfl (hb hby d1_59) rfl (own_ltY (k := 65536) (by decide) q_lo) (by decide) (by decide) k) ?_
      show own_End p e below s _ _ _ (T3.setTop (mkF m 75 #[.val (.int p1), .val (.int (22 : Int32))] []))
      refine own_go (fun t k => XS.iinc X3.here hx rfl (hb hby d1_75) rfl (l' := #[.val (.int p1), .val (.int ((22 : Int32) + (2 : Int32)))]) rfl k) ?_
      show own_End p e below s _ _ _ (T3.setTop (mkF m 78 #[.val (.int p1), .val (.int ((22 : Int32) + (2 : Int32)))] []))
      rw [show ((22 : Int32) + (2 : Int32)) = (24 : Int32) by decide]
      show own_End p e below s _ _ _ (T3.setTop (mkF m 78 #[.val (.int p1), .val (.int (24 : Int32))] []))
      refine own_go (fun t k => XS.goto X3.here hx rfl (pc0 := 78) (pc' := 45) rfl (hb hby d1_78) (by decide) (by decide) k) ?_
      show own_End p e below s _ _ _ (T3.setTop (mkF m 45 #[.val (.int p1), .val (.int (24 : Int32))] []))
      exact JL_24 T3 X3 e3 (by omega)
    refine own_go (fun t k => XS.icmpNo X3.here hx rfl (hb hby d1_59) rfl (own_ltN (k := 65536) (by decide) q_lo) k) ?_
    show own_End p e below s _ _ _ (T3.setTop (mkF m 62 #[.val (.int p1), .val (.int (22 : Int32))] []))
    refine own_go (fun t k => XS.iloadN X3.here hx rfl (hb hby d1_62) rfl k) ?_
    show own_End p e below s _ _ _ (T3.setTop (mkF m 63 #[.val (.int p1), .val (.int (22 : Int32))] [(.int p1)]))
    obtain ⟨T4, X4, e4, st4⟩ := getS X3 hx hZ (host := "") hown (hw _ (List.mem_of_getElem? (i := 22) rfl)) Via.refl e3 S0 (g := (mkF m 63 #[.val (.int p1), .val (.int (22 : Int32))] [(.int p1)])) rfl (hb hby d1_63)
    refine own_go st4 ?_
    show own_End p e below s _ _ _ (T4.setTop (mkF m 66 #[.val (.int p1), .val (.int (22 : Int32))] [(.ref sa), (.int p1)]))
    refine own_go (fun t k => XS.iloadN X4.here hx rfl (hb hby d1_66) rfl k) ?_
    show own_End p e below s _ _ _ (T4.setTop (mkF m 67 #[.val (.int p1), .val (.int (22 : Int32))] [(.int (22 : Int32)), (.ref sa), (.int p1)]))
    refine own_go (fun t k => XS.iconst X4.here hx rfl (hb hby d1_67) k) ?_
    show own_End p e below s _ _ _ (T4.setTop (mkF m 68 #[.val (.int p1), .val (.int (22 : Int32))] [(.int (1 : Int32)), (.int (22 : Int32)), (.ref sa), (.int p1)]))
    refine own_go (fun t k => XS.iadd X4.here hx rfl (hb hby d1_68) rfl k) ?_
    show own_End p e below s _ _ _ (T4.setTop (mkF m 69 #[.val (.int p1), .val (.int (22 : Int32))] [(.int ((22 : Int32) + (1 : Int32))), (.ref sa), (.int p1)]))
    rw [show ((22 : Int32) + (1 : Int32)) = (23 : Int32) by decide]
    show own_End p e below s _ _ _ (T4.setTop (mkF m 69 #[.val (.int p1), .val (.int (22 : Int32))] [(.int (23 : Int32)), (.ref sa), (.int p1)]))
    refine own_go (own_fldI X4 hx hZ e4 F0 (j := (23 : Int32)) (v := (.int (983039 : Int32))) 23 (by decide) (by decide) rfl (pc := 69) (Ls := #[.val (.int p1), .val (.int (22 : Int32))]) (rest := [(.int p1)]) (hb hby d1_69)) ?_
    show own_End p e below s _ _ _ (T4.setTop (mkF m 70 #[.val (.int p1), .val (.int (22 : Int32))] [(.int (983039 : Int32)), (.int p1)]))
    by_cases q_hi : 983039 < p1.toInt
    ·
      refine own_go (fun t k => XS.icmpYes X4.here hx rfl (pc0 := 70) (pc' := 75) rfl (hb hby d1_70) rfl (own_gtY (k := 983039) (by decide) q_hi) (by decide) (by decide) k) ?_
      show own_End p e below s _ _ _ (T4.setTop (mkF m 75 #[.val (.int p1), .val (.int (22 : Int32))] []))
      refine own_go (fun t k => XS.iinc X4.here hx rfl (hb hby d1_75) rfl (l' := #[.val (.int p1), .val (.int ((22 : Int32) + (2 : Int32)))]) rfl k) ?_
      show own_End p e below s _ _ _ (T4.setTop (mkF m 78 #[.val (.int p1), .val (.int ((22 : Int32) + (2 : Int32)))] []))
      rw [show ((22 : Int32) + (2 : Int32)) = (24 : Int32) by decide]
      show own_End p e below s _ _ _ (T4.setTop (mkF m 78 #[.val (.int p1), .val (.int (24 : Int32))] []))
      refine own_go (fun t k => XS.goto X4.here hx rfl (pc0 := 78) (pc' := 45) rfl (hb hby d1_78) (by decide) (by decide) k) ?_
      show own_End p e below s _ _ _ (T4.setTop (mkF m 45 #[.val (.int p1), .val (.int (24 : Int32))] []))
      exact JL_24 T4 X4 e4 (by omega)
    refine own_go (fun t k => XS.icmpNo X4.here hx rfl (hb hby d1_70) rfl (own_gtN (k := 983039) (by decide) q_hi) k) ?_
    show own_End p e below s _ _ _ (T4.setTop (mkF m 73 #[.val (.int p1), .val (.int (22 : Int32))] []))
    refine own_go (fun t k => XS.iconst X4.here hx rfl (hb hby d1_73) k) ?_
    show own_End p e below s _ _ _ (T4.setTop (mkF m 74 #[.val (.int p1), .val (.int (22 : Int32))] [(.int (1 : Int32))]))
    exact own_retN X4 hx (t := .boolean) hret hlk (by simp) (hb hby d1_74) ⟨own_yes (by omega), N0, e4⟩ (by decide) (by decide)
  intro JL_22
  show own_End p e below s _ _ _ (s0.setTop (mkF m 0 #[.val (.int p1), .unset] []))
  refine own_join (fun G => ∀ T, Stand p l e ({ frames := 0, cells := 0, slots := 0, locals := 0 } : Room) s m #[(.int p1)] below meth c T [] 0 0 → T.heap = h0 → (128 ≤ p1.toInt ∧ ¬ ((192 ≤ p1.toInt ∧ p1.toInt ≤ 214) ∨ (216 ≤ p1.toInt ∧ p1.toInt ≤ 246) ∨ (248 ≤ p1.toInt ∧ p1.toInt ≤ 767) ∨ (880 ≤ p1.toInt ∧ p1.toInt ≤ 893) ∨ (895 ≤ p1.toInt ∧ p1.toInt ≤ 8191) ∨ (8204 ≤ p1.toInt ∧ p1.toInt ≤ 8205) ∨ (8304 ≤ p1.toInt ∧ p1.toInt ≤ 8591) ∨ (11264 ≤ p1.toInt ∧ p1.toInt ≤ 12271) ∨ (12289 ≤ p1.toInt ∧ p1.toInt ≤ 55295) ∨ (63744 ≤ p1.toInt ∧ p1.toInt ≤ 64975))) → G (T.setTop (mkF m 45 #[.val (.int p1), .val (.int (20 : Int32))] []))) ?_ ?_
  ·
    intro TL XL eL jL
    show own_End p e below s _ _ _ (TL.setTop (mkF m 45 #[.val (.int p1), .val (.int (20 : Int32))] []))
    refine own_go (fun t k => XS.iloadN XL.here hx rfl (hb hby d1_45) rfl k) ?_
    show own_End p e below s _ _ _ (TL.setTop (mkF m 46 #[.val (.int p1), .val (.int (20 : Int32))] [(.int (20 : Int32))]))
    obtain ⟨T5, X5, e5, st5⟩ := getS XL hx hZ (host := "") hown (hw _ (List.mem_of_getElem? (i := 22) rfl)) Via.refl eL S0 (g := (mkF m 46 #[.val (.int p1), .val (.int (20 : Int32))] [(.int (20 : Int32))])) rfl (hb hby d1_46)
    refine own_go st5 ?_
    show own_End p e below s _ _ _ (T5.setTop (mkF m 49 #[.val (.int p1), .val (.int (20 : Int32))] [(.ref sa), (.int (20 : Int32))]))
    refine own_go (own_flen X5 hx hZ e5 F0 (pc := 49) (Ls := #[.val (.int p1), .val (.int (20 : Int32))]) (rest := [(.int (20 : Int32))]) (hb hby d1_49)) ?_
    show own_End p e below s _ _ _ (T5.setTop (mkF m 50 #[.val (.int p1), .val (.int (20 : Int32))] [(.int (24 : Int32)), (.int (20 : Int32))]))
    refine own_go (fun t k => XS.icmpNo X5.here hx rfl (hb hby d1_50) rfl (by decide) k) ?_
    show own_End p e below s _ _ _ (T5.setTop (mkF m 53 #[.val (.int p1), .val (.int (20 : Int32))] []))
    refine own_go (fun t k => XS.iloadN X5.here hx rfl (hb hby d1_53) rfl k) ?_
    show own_End p e below s _ _ _ (T5.setTop (mkF m 54 #[.val (.int p1), .val (.int (20 : Int32))] [(.int p1)]))
    obtain ⟨T6, X6, e6, st6⟩ := getS X5 hx hZ (host := "") hown (hw _ (List.mem_of_getElem? (i := 22) rfl)) Via.refl e5 S0 (g := (mkF m 54 #[.val (.int p1), .val (.int (20 : Int32))] [(.int p1)])) rfl (hb hby d1_54)
    refine own_go st6 ?_
    show own_End p e below s _ _ _ (T6.setTop (mkF m 57 #[.val (.int p1), .val (.int (20 : Int32))] [(.ref sa), (.int p1)]))
    refine own_go (fun t k => XS.iloadN X6.here hx rfl (hb hby d1_57) rfl k) ?_
    show own_End p e below s _ _ _ (T6.setTop (mkF m 58 #[.val (.int p1), .val (.int (20 : Int32))] [(.int (20 : Int32)), (.ref sa), (.int p1)]))
    refine own_go (own_fldI X6 hx hZ e6 F0 (j := (20 : Int32)) (v := (.int (65008 : Int32))) 20 (by decide) (by decide) rfl (pc := 58) (Ls := #[.val (.int p1), .val (.int (20 : Int32))]) (rest := [(.int p1)]) (hb hby d1_58)) ?_
    show own_End p e below s _ _ _ (T6.setTop (mkF m 59 #[.val (.int p1), .val (.int (20 : Int32))] [(.int (65008 : Int32)), (.int p1)]))
    by_cases q_lo : p1.toInt < 65008
    ·
      refine own_go (fun t k => XS.icmpYes X6.here hx rfl (pc0 := 59) (pc' := 75) rfl (hb hby d1_59) rfl (own_ltY (k := 65008) (by decide) q_lo) (by decide) (by decide) k) ?_
      show own_End p e below s _ _ _ (T6.setTop (mkF m 75 #[.val (.int p1), .val (.int (20 : Int32))] []))
      refine own_go (fun t k => XS.iinc X6.here hx rfl (hb hby d1_75) rfl (l' := #[.val (.int p1), .val (.int ((20 : Int32) + (2 : Int32)))]) rfl k) ?_
      show own_End p e below s _ _ _ (T6.setTop (mkF m 78 #[.val (.int p1), .val (.int ((20 : Int32) + (2 : Int32)))] []))
      rw [show ((20 : Int32) + (2 : Int32)) = (22 : Int32) by decide]
      show own_End p e below s _ _ _ (T6.setTop (mkF m 78 #[.val (.int p1), .val (.int (22 : Int32))] []))
      refine own_go (fun t k => XS.goto X6.here hx rfl (pc0 := 78) (pc' := 45) rfl (hb hby d1_78) (by decide) (by decide) k) ?_
      show own_End p e below s _ _ _ (T6.setTop (mkF m 45 #[.val (.int p1), .val (.int (22 : Int32))] []))
      exact JL_22 T6 X6 e6 (by omega)
    refine own_go (fun t k => XS.icmpNo X6.here hx rfl (hb hby d1_59) rfl (own_ltN (k := 65008) (by decide) q_lo) k) ?_
    show own_End p e below s _ _ _ (T6.setTop (mkF m 62 #[.val (.int p1), .val (.int (20 : Int32))] []))
    refine own_go (fun t k => XS.iloadN X6.here hx rfl (hb hby d1_62) rfl k) ?_
    show own_End p e below s _ _ _ (T6.setTop (mkF m 63 #[.val (.int p1), .val (.int (20 : Int32))] [(.int p1)]))
    obtain ⟨T7, X7, e7, st7⟩ := getS X6 hx hZ (host := "") hown (hw _ (List.mem_of_getElem? (i := 22) rfl)) Via.refl e6 S0 (g := (mkF m 63 #[.val (.int p1), .val (.int (20 : Int32))] [(.int p1)])) rfl (hb hby d1_63)
    refine own_go st7 ?_
    show own_End p e below s _ _ _ (T7.setTop (mkF m 66 #[.val (.int p1), .val (.int (20 : Int32))] [(.ref sa), (.int p1)]))
    refine own_go (fun t k => XS.iloadN X7.here hx rfl (hb hby d1_66) rfl k) ?_
    show own_End p e below s _ _ _ (T7.setTop (mkF m 67 #[.val (.int p1), .val (.int (20 : Int32))] [(.int (20 : Int32)), (.ref sa), (.int p1)]))
    refine own_go (fun t k => XS.iconst X7.here hx rfl (hb hby d1_67) k) ?_
    show own_End p e below s _ _ _ (T7.setTop (mkF m 68 #[.val (.int p1), .val (.int (20 : Int32))] [(.int (1 : Int32)), (.int (20 : Int32)), (.ref sa), (.int p1)]))
    refine own_go (fun t k => XS.iadd X7.here hx rfl (hb hby d1_68) rfl k) ?_
    show own_End p e below s _ _ _ (T7.setTop (mkF m 69 #[.val (.int p1), .val (.int (20 : Int32))] [(.int ((20 : Int32) + (1 : Int32))), (.ref sa), (.int p1)]))
    rw [show ((20 : Int32) + (1 : Int32)) = (21 : Int32) by decide]
    show own_End p e below s _ _ _ (T7.setTop (mkF m 69 #[.val (.int p1), .val (.int (20 : Int32))] [(.int (21 : Int32)), (.ref sa), (.int p1)]))
    refine own_go (own_fldI X7 hx hZ e7 F0 (j := (21 : Int32)) (v := (.int (65533 : Int32))) 21 (by decide) (by decide) rfl (pc := 69) (Ls := #[.val (.int p1), .val (.int (20 : Int32))]) (rest := [(.int p1)]) (hb hby d1_69)) ?_
    show own_End p e below s _ _ _ (T7.setTop (mkF m 70 #[.val (.int p1), .val (.int (20 : Int32))] [(.int (65533 : Int32)), (.int p1)]))
    by_cases q_hi : 65533 < p1.toInt
    ·
      refine own_go (fun t k => XS.icmpYes X7.here hx rfl (pc0 := 70) (pc' := 75) rfl (hb hby d1_70) rfl (own_gtY (k := 65533) (by decide) q_hi) (by decide) (by decide) k) ?_
      show own_End p e below s _ _ _ (T7.setTop (mkF m 75 #[.val (.int p1), .val (.int (20 : Int32))] []))
      refine own_go (fun t k => XS.iinc X7.here hx rfl (hb hby d1_75) rfl (l' := #[.val (.int p1), .val (.int ((20 : Int32) + (2 : Int32)))]) rfl k) ?_
      show own_End p e below s _ _ _ (T7.setTop (mkF m 78 #[.val (.int p1), .val (.int ((20 : Int32) + (2 : Int32)))] []))
      rw [show ((20 : Int32) + (2 : Int32)) = (22 : Int32) by decide]
      show own_End p e below s _ _ _ (T7.setTop (mkF m 78 #[.val (.int p1), .val (.int (22 : Int32))] []))
      refine own_go (fun t k => XS.goto X7.here hx rfl (pc0 := 78) (pc' := 45) rfl (hb hby d1_78) (by decide) (by decide) k) ?_
      show own_End p e below s _ _ _ (T7.setTop (mkF m 45 #[.val (.int p1), .val (.int (22 : Int32))] []))
      exact JL_22 T7 X7 e7 (by omega)
    refine own_go (fun t k => XS.icmpNo X7.here hx rfl (hb hby d1_70) rfl (own_gtN (k := 65533) (by decide) q_hi) k) ?_
    show own_End p e below s _ _ _ (T7.setTop (mkF m 73 #[.val (.int p1), .val (.int (20 : Int32))] []))
    refine own_go (fun t k => XS.iconst X7.here hx rfl (hb hby d1_73) k) ?_
    show own_End p e below s _ _ _ (T7.setTop (mkF m 74 #[.val (.int p1), .val (.int (20 : Int32))] [(.int (1 : Int32))]))
    exact own_retN X7 hx (t := .boolean) hret hlk (by simp) (hb hby d1_74) ⟨own_yes (by omega), N0, e7⟩ (by decide) (by decide)
  intro JL_20
  show own_End p e below s _ _ _ (s0.setTop (mkF m 0 #[.val (.int p1), .unset] []))
  refine own_join (fun G => ∀ T, Stand p l e ({ frames := 0, cells := 0, slots := 0, locals := 0 } : Room) s m #[(.int p1)] below meth c T [] 0 0 → T.heap = h0 → (128 ≤ p1.toInt ∧ ¬ ((192 ≤ p1.toInt ∧ p1.toInt ≤ 214) ∨ (216 ≤ p1.toInt ∧ p1.toInt ≤ 246) ∨ (248 ≤ p1.toInt ∧ p1.toInt ≤ 767) ∨ (880 ≤ p1.toInt ∧ p1.toInt ≤ 893) ∨ (895 ≤ p1.toInt ∧ p1.toInt ≤ 8191) ∨ (8204 ≤ p1.toInt ∧ p1.toInt ≤ 8205) ∨ (8304 ≤ p1.toInt ∧ p1.toInt ≤ 8591) ∨ (11264 ≤ p1.toInt ∧ p1.toInt ≤ 12271) ∨ (12289 ≤ p1.toInt ∧ p1.toInt ≤ 55295))) → G (T.setTop (mkF m 45 #[.val (.int p1), .val (.int (18 : Int32))] []))) ?_ ?_
  ·
    intro TL XL eL jL
    show own_End p e below s _ _ _ (TL.setTop (mkF m 45 #[.val (.int p1), .val (.int (18 : Int32))] []))
    refine own_go (fun t k => XS.iloadN XL.here hx rfl (hb hby d1_45) rfl k) ?_
    show own_End p e below s _ _ _ (TL.setTop (mkF m 46 #[.val (.int p1), .val (.int (18 : Int32))] [(.int (18 : Int32))]))
    obtain ⟨T8, X8, e8, st8⟩ := getS XL hx hZ (host := "") hown (hw _ (List.mem_of_getElem? (i := 22) rfl)) Via.refl eL S0 (g := (mkF m 46 #[.val (.int p1), .val (.int (18 : Int32))] [(.int (18 : Int32))])) rfl (hb hby d1_46)
    refine own_go st8 ?_
    show own_End p e below s _ _ _ (T8.setTop (mkF m 49 #[.val (.int p1), .val (.int (18 : Int32))] [(.ref sa), (.int (18 : Int32))]))
    refine own_go (own_flen X8 hx hZ e8 F0 (pc := 49) (Ls := #[.val (.int p1), .val (.int (18 : Int32))]) (rest := [(.int (18 : Int32))]) (hb hby d1_49)) ?_
    show own_End p e below s _ _ _ (T8.setTop (mkF m 50 #[.val (.int p1), .val (.int (18 : Int32))] [(.int (24 : Int32)), (.int (18 : Int32))]))
    refine own_go (fun t k => XS.icmpNo X8.here hx rfl (hb hby d1_50) rfl (by decide) k) ?_
    show own_End p e below s _ _ _ (T8.setTop (mkF m 53 #[.val (.int p1), .val (.int (18 : Int32))] []))
    refine own_go (fun t k => XS.iloadN X8.here hx rfl (hb hby d1_53) rfl k) ?_
    show own_End p e below s _ _ _ (T8.setTop (mkF m 54 #[.val (.int p1), .val (.int (18 : Int32))] [(.int p1)]))
    obtain ⟨T9, X9, e9, st9⟩ := getS X8 hx hZ (host := "") hown (hw _ (List.mem_of_getElem? (i := 22) rfl)) Via.refl e8 S0 (g := (mkF m 54 #[.val (.int p1), .val (.int (18 : Int32))] [(.int p1)])) rfl (hb hby d1_54)
    refine own_go st9 ?_
    show own_End p e below s _ _ _ (T9.setTop (mkF m 57 #[.val (.int p1), .val (.int (18 : Int32))] [(.ref sa), (.int p1)]))
    refine own_go (fun t k => XS.iloadN X9.here hx rfl (hb hby d1_57) rfl k) ?_
    show own_End p e below s _ _ _ (T9.setTop (mkF m 58 #[.val (.int p1), .val (.int (18 : Int32))] [(.int (18 : Int32)), (.ref sa), (.int p1)]))
    refine own_go (own_fldI X9 hx hZ e9 F0 (j := (18 : Int32)) (v := (.int (63744 : Int32))) 18 (by decide) (by decide) rfl (pc := 58) (Ls := #[.val (.int p1), .val (.int (18 : Int32))]) (rest := [(.int p1)]) (hb hby d1_58)) ?_
    show own_End p e below s _ _ _ (T9.setTop (mkF m 59 #[.val (.int p1), .val (.int (18 : Int32))] [(.int (63744 : Int32)), (.int p1)]))
    by_cases q_lo : p1.toInt < 63744
    ·
      refine own_go (fun t k => XS.icmpYes X9.here hx rfl (pc0 := 59) (pc' := 75) rfl (hb hby d1_59) rfl (own_ltY (k := 63744) (by decide) q_lo) (by decide) (by decide) k) ?_
      show own_End p e below s _ _ _ (T9.setTop (mkF m 75 #[.val (.int p1), .val (.int (18 : Int32))] []))
      refine own_go (fun t k => XS.iinc X9.here hx rfl (hb hby d1_75) rfl (l' := #[.val (.int p1), .val (.int ((18 : Int32) + (2 : Int32)))]) rfl k) ?_
      show own_End p e below s _ _ _ (T9.setTop (mkF m 78 #[.val (.int p1), .val (.int ((18 : Int32) + (2 : Int32)))] []))
      rw [show ((18 : Int32) + (2 : Int32)) = (20 : Int32) by decide]
      show own_End p e below s _ _ _ (T9.setTop (mkF m 78 #[.val (.int p1), .val (.int (20 : Int32))] []))
      refine own_go (fun t k => XS.goto X9.here hx rfl (pc0 := 78) (pc' := 45) rfl (hb hby d1_78) (by decide) (by decide) k) ?_
      show own_End p e below s _ _ _ (T9.setTop (mkF m 45 #[.val (.int p1), .val (.int (20 : Int32))] []))
      exact JL_20 T9 X9 e9 (by omega)
    refine own_go (fun t k => XS.icmpNo X9.here hx rfl (hb hby d1_59) rfl (own_ltN (k := 63744) (by decide) q_lo) k) ?_
    show own_End p e below s _ _ _ (T9.setTop (mkF m 62 #[.val (.int p1), .val (.int (18 : Int32))] []))
    refine own_go (fun t k => XS.iloadN X9.here hx rfl (hb hby d1_62) rfl k) ?_
    show own_End p e below s _ _ _ (T9.setTop (mkF m 63 #[.val (.int p1), .val (.int (18 : Int32))] [(.int p1)]))
    obtain ⟨T10, X10, e10, st10⟩ := getS X9 hx hZ (host := "") hown (hw _ (List.mem_of_getElem? (i := 22) rfl)) Via.refl e9 S0 (g := (mkF m 63 #[.val (.int p1), .val (.int (18 : Int32))] [(.int p1)])) rfl (hb hby d1_63)
    refine own_go st10 ?_
    show own_End p e below s _ _ _ (T10.setTop (mkF m 66 #[.val (.int p1), .val (.int (18 : Int32))] [(.ref sa), (.int p1)]))
    refine own_go (fun t k => XS.iloadN X10.here hx rfl (hb hby d1_66) rfl k) ?_
    show own_End p e below s _ _ _ (T10.setTop (mkF m 67 #[.val (.int p1), .val (.int (18 : Int32))] [(.int (18 : Int32)), (.ref sa), (.int p1)]))
    refine own_go (fun t k => XS.iconst X10.here hx rfl (hb hby d1_67) k) ?_
    show own_End p e below s _ _ _ (T10.setTop (mkF m 68 #[.val (.int p1), .val (.int (18 : Int32))] [(.int (1 : Int32)), (.int (18 : Int32)), (.ref sa), (.int p1)]))
    refine own_go (fun t k => XS.iadd X10.here hx rfl (hb hby d1_68) rfl k) ?_
    show own_End p e below s _ _ _ (T10.setTop (mkF m 69 #[.val (.int p1), .val (.int (18 : Int32))] [(.int ((18 : Int32) + (1 : Int32))), (.ref sa), (.int p1)]))
    rw [show ((18 : Int32) + (1 : Int32)) = (19 : Int32) by decide]
    show own_End p e below s _ _ _ (T10.setTop (mkF m 69 #[.val (.int p1), .val (.int (18 : Int32))] [(.int (19 : Int32)), (.ref sa), (.int p1)]))
    refine own_go (own_fldI X10 hx hZ e10 F0 (j := (19 : Int32)) (v := (.int (64975 : Int32))) 19 (by decide) (by decide) rfl (pc := 69) (Ls := #[.val (.int p1), .val (.int (18 : Int32))]) (rest := [(.int p1)]) (hb hby d1_69)) ?_
    show own_End p e below s _ _ _ (T10.setTop (mkF m 70 #[.val (.int p1), .val (.int (18 : Int32))] [(.int (64975 : Int32)), (.int p1)]))
    by_cases q_hi : 64975 < p1.toInt
    ·
      refine own_go (fun t k => XS.icmpYes X10.here hx rfl (pc0 := 70) (pc' := 75) rfl (hb hby d1_70) rfl (own_gtY (k := 64975) (by decide) q_hi) (by decide) (by decide) k) ?_
      show own_End p e below s _ _ _ (T10.setTop (mkF m 75 #[.val (.int p1), .val (.int (18 : Int32))] []))
      refine own_go (fun t k => XS.iinc X10.here hx rfl (hb hby d1_75) rfl (l' := #[.val (.int p1), .val (.int ((18 : Int32) + (2 : Int32)))]) rfl k) ?_
      show own_End p e below s _ _ _ (T10.setTop (mkF m 78 #[.val (.int p1), .val (.int ((18 : Int32) + (2 : Int32)))] []))
      rw [show ((18 : Int32) + (2 : Int32)) = (20 : Int32) by decide]
      show own_End p e below s _ _ _ (T10.setTop (mkF m 78 #[.val (.int p1), .val (.int (20 : Int32))] []))
      refine own_go (fun t k => XS.goto X10.here hx rfl (pc0 := 78) (pc' := 45) rfl (hb hby d1_78) (by decide) (by decide) k) ?_
      show own_End p e below s _ _ _ (T10.setTop (mkF m 45 #[.val (.int p1), .val (.int (20 : Int32))] []))
      exact JL_20 T10 X10 e10 (by omega)
    refine own_go (fun t k => XS.icmpNo X10.here hx rfl (hb hby d1_70) rfl (own_gtN (k := 64975) (by decide) q_hi) k) ?_
    show own_End p e below s _ _ _ (T10.setTop (mkF m 73 #[.val (.int p1), .val (.int (18 : Int32))] []))
    refine own_go (fun t k => XS.iconst X10.here hx rfl (hb hby d1_73) k) ?_
    show own_End p e below s _ _ _ (T10.setTop (mkF m 74 #[.val (.int p1), .val (.int (18 : Int32))] [(.int (1 : Int32))]))
    exact own_retN X10 hx (t := .boolean) hret hlk (by simp) (hb hby d1_74) ⟨own_yes (by omega), N0, e10⟩ (by decide) (by decide)
  intro JL_18
  show own_End p e below s _ _ _ (s0.setTop (mkF m 0 #[.val (.int p1), .unset] []))
  refine own_join (fun G => ∀ T, Stand p l e ({ frames := 0, cells := 0, slots := 0, locals := 0 } : Room) s m #[(.int p1)] below meth c T [] 0 0 → T.heap = h0 → (128 ≤ p1.toInt ∧ ¬ ((192 ≤ p1.toInt ∧ p1.toInt ≤ 214) ∨ (216 ≤ p1.toInt ∧ p1.toInt ≤ 246) ∨ (248 ≤ p1.toInt ∧ p1.toInt ≤ 767) ∨ (880 ≤ p1.toInt ∧ p1.toInt ≤ 893) ∨ (895 ≤ p1.toInt ∧ p1.toInt ≤ 8191) ∨ (8204 ≤ p1.toInt ∧ p1.toInt ≤ 8205) ∨ (8304 ≤ p1.toInt ∧ p1.toInt ≤ 8591) ∨ (11264 ≤ p1.toInt ∧ p1.toInt ≤ 12271))) → G (T.setTop (mkF m 45 #[.val (.int p1), .val (.int (16 : Int32))] []))) ?_ ?_
  ·
    intro TL XL eL jL
    show own_End p e below s _ _ _ (TL.setTop (mkF m 45 #[.val (.int p1), .val (.int (16 : Int32))] []))
    refine own_go (fun t k => XS.iloadN XL.here hx rfl (hb hby d1_45) rfl k) ?_
    show own_End p e below s _ _ _ (TL.setTop (mkF m 46 #[.val (.int p1), .val (.int (16 : Int32))] [(.int (16 : Int32))]))
    obtain ⟨T11, X11, e11, st11⟩ := getS XL hx hZ (host := "") hown (hw _ (List.mem_of_getElem? (i := 22) rfl)) Via.refl eL S0 (g := (mkF m 46 #[.val (.int p1), .val (.int (16 : Int32))] [(.int (16 : Int32))])) rfl (hb hby d1_46)
    refine own_go st11 ?_
    show own_End p e below s _ _ _ (T11.setTop (mkF m 49 #[.val (.int p1), .val (.int (16 : Int32))] [(.ref sa), (.int (16 : Int32))]))
    refine own_go (own_flen X11 hx hZ e11 F0 (pc := 49) (Ls := #[.val (.int p1), .val (.int (16 : Int32))]) (rest := [(.int (16 : Int32))]) (hb hby d1_49)) ?_
    show own_End p e below s _ _ _ (T11.setTop (mkF m 50 #[.val (.int p1), .val (.int (16 : Int32))] [(.int (24 : Int32)), (.int (16 : Int32))]))
    refine own_go (fun t k => XS.icmpNo X11.here hx rfl (hb hby d1_50) rfl (by decide) k) ?_
    show own_End p e below s _ _ _ (T11.setTop (mkF m 53 #[.val (.int p1), .val (.int (16 : Int32))] []))
    refine own_go (fun t k => XS.iloadN X11.here hx rfl (hb hby d1_53) rfl k) ?_
    show own_End p e below s _ _ _ (T11.setTop (mkF m 54 #[.val (.int p1), .val (.int (16 : Int32))] [(.int p1)]))
    obtain ⟨T12, X12, e12, st12⟩ := getS X11 hx hZ (host := "") hown (hw _ (List.mem_of_getElem? (i := 22) rfl)) Via.refl e11 S0 (g := (mkF m 54 #[.val (.int p1), .val (.int (16 : Int32))] [(.int p1)])) rfl (hb hby d1_54)
    refine own_go st12 ?_
    show own_End p e below s _ _ _ (T12.setTop (mkF m 57 #[.val (.int p1), .val (.int (16 : Int32))] [(.ref sa), (.int p1)]))
    refine own_go (fun t k => XS.iloadN X12.here hx rfl (hb hby d1_57) rfl k) ?_
    show own_End p e below s _ _ _ (T12.setTop (mkF m 58 #[.val (.int p1), .val (.int (16 : Int32))] [(.int (16 : Int32)), (.ref sa), (.int p1)]))
    refine own_go (own_fldI X12 hx hZ e12 F0 (j := (16 : Int32)) (v := (.int (12289 : Int32))) 16 (by decide) (by decide) rfl (pc := 58) (Ls := #[.val (.int p1), .val (.int (16 : Int32))]) (rest := [(.int p1)]) (hb hby d1_58)) ?_
    show own_End p e below s _ _ _ (T12.setTop (mkF m 59 #[.val (.int p1), .val (.int (16 : Int32))] [(.int (12289 : Int32)), (.int p1)]))
    by_cases q_lo : p1.toInt < 12289
    ·
      refine own_go (fun t k => XS.icmpYes X12.here hx rfl (pc0 := 59) (pc' := 75) rfl (hb hby d1_59) rfl (own_ltY (k := 12289) (by decide) q_lo) (by decide) (by decide) k) ?_
      show own_End p e below s _ _ _ (T12.setTop (mkF m 75 #[.val (.int p1), .val (.int (16 : Int32))] []))
      refine own_go (fun t k => XS.iinc X12.here hx rfl (hb hby d1_75) rfl (l' := #[.val (.int p1), .val (.int ((16 : Int32) + (2 : Int32)))]) rfl k) ?_
      show own_End p e below s _ _ _ (T12.setTop (mkF m 78 #[.val (.int p1), .val (.int ((16 : Int32) + (2 : Int32)))] []))
      rw [show ((16 : Int32) + (2 : Int32)) = (18 : Int32) by decide]
      show own_End p e below s _ _ _ (T12.setTop (mkF m 78 #[.val (.int p1), .val (.int (18 : Int32))] []))
      refine own_go (fun t k => XS.goto X12.here hx rfl (pc0 := 78) (pc' := 45) rfl (hb hby d1_78) (by decide) (by decide) k) ?_
      show own_End p e below s _ _ _ (T12.setTop (mkF m 45 #[.val (.int p1), .val (.int (18 : Int32))] []))
      exact JL_18 T12 X12 e12 (by omega)
    refine own_go (fun t k => XS.icmpNo X12.here hx rfl (hb hby d1_59) rfl (own_ltN (k := 12289) (by decide) q_lo) k) ?_
    show own_End p e below s _ _ _ (T12.setTop (mkF m 62 #[.val (.int p1), .val (.int (16 : Int32))] []))
    refine own_go (fun t k => XS.iloadN X12.here hx rfl (hb hby d1_62) rfl k) ?_
    show own_End p e below s _ _ _ (T12.setTop (mkF m 63 #[.val (.int p1), .val (.int (16 : Int32))] [(.int p1)]))
    obtain ⟨T13, X13, e13, st13⟩ := getS X12 hx hZ (host := "") hown (hw _ (List.mem_of_getElem? (i := 22) rfl)) Via.refl e12 S0 (g := (mkF m 63 #[.val (.int p1), .val (.int (16 : Int32))] [(.int p1)])) rfl (hb hby d1_63)
    refine own_go st13 ?_
    show own_End p e below s _ _ _ (T13.setTop (mkF m 66 #[.val (.int p1), .val (.int (16 : Int32))] [(.ref sa), (.int p1)]))
    refine own_go (fun t k => XS.iloadN X13.here hx rfl (hb hby d1_66) rfl k) ?_
    show own_End p e below s _ _ _ (T13.setTop (mkF m 67 #[.val (.int p1), .val (.int (16 : Int32))] [(.int (16 : Int32)), (.ref sa), (.int p1)]))
    refine own_go (fun t k => XS.iconst X13.here hx rfl (hb hby d1_67) k) ?_
    show own_End p e below s _ _ _ (T13.setTop (mkF m 68 #[.val (.int p1), .val (.int (16 : Int32))] [(.int (1 : Int32)), (.int (16 : Int32)), (.ref sa), (.int p1)]))
    refine own_go (fun t k => XS.iadd X13.here hx rfl (hb hby d1_68) rfl k) ?_
    show own_End p e below s _ _ _ (T13.setTop (mkF m 69 #[.val (.int p1), .val (.int (16 : Int32))] [(.int ((16 : Int32) + (1 : Int32))), (.ref sa), (.int p1)]))
    rw [show ((16 : Int32) + (1 : Int32)) = (17 : Int32) by decide]
    show own_End p e below s _ _ _ (T13.setTop (mkF m 69 #[.val (.int p1), .val (.int (16 : Int32))] [(.int (17 : Int32)), (.ref sa), (.int p1)]))
    refine own_go (own_fldI X13 hx hZ e13 F0 (j := (17 : Int32)) (v := (.int (55295 : Int32))) 17 (by decide) (by decide) rfl (pc := 69) (Ls := #[.val (.int p1), .val (.int (16 : Int32))]) (rest := [(.int p1)]) (hb hby d1_69)) ?_
    show own_End p e below s _ _ _ (T13.setTop (mkF m 70 #[.val (.int p1), .val (.int (16 : Int32))] [(.int (55295 : Int32)), (.int p1)]))
    by_cases q_hi : 55295 < p1.toInt
    ·
      refine own_go (fun t k => XS.icmpYes X13.here hx rfl (pc0 := 70) (pc' := 75) rfl (hb hby d1_70) rfl (own_gtY (k := 55295) (by decide) q_hi) (by decide) (by decide) k) ?_
      show own_End p e below s _ _ _ (T13.setTop (mkF m 75 #[.val (.int p1), .val (.int (16 : Int32))] []))
      refine own_go (fun t k => XS.iinc X13.here hx rfl (hb hby d1_75) rfl (l' := #[.val (.int p1), .val (.int ((16 : Int32) + (2 : Int32)))]) rfl k) ?_
      show own_End p e below s _ _ _ (T13.setTop (mkF m 78 #[.val (.int p1), .val (.int ((16 : Int32) + (2 : Int32)))] []))
      rw [show ((16 : Int32) + (2 : Int32)) = (18 : Int32) by decide]
      show own_End p e below s _ _ _ (T13.setTop (mkF m 78 #[.val (.int p1), .val (.int (18 : Int32))] []))
      refine own_go (fun t k => XS.goto X13.here hx rfl (pc0 := 78) (pc' := 45) rfl (hb hby d1_78) (by decide) (by decide) k) ?_
      show own_End p e below s _ _ _ (T13.setTop (mkF m 45 #[.val (.int p1), .val (.int (18 : Int32))] []))
      exact JL_18 T13 X13 e13 (by omega)
    refine own_go (fun t k => XS.icmpNo X13.here hx rfl (hb hby d1_70) rfl (own_gtN (k := 55295) (by decide) q_hi) k) ?_
    show own_End p e below s _ _ _ (T13.setTop (mkF m 73 #[.val (.int p1), .val (.int (16 : Int32))] []))
    refine own_go (fun t k => XS.iconst X13.here hx rfl (hb hby d1_73) k) ?_
    show own_End p e below s _ _ _ (T13.setTop (mkF m 74 #[.val (.int p1), .val (.int (16 : Int32))] [(.int (1 : Int32))]))
    exact own_retN X13 hx (t := .boolean) hret hlk (by simp) (hb hby d1_74) ⟨own_yes (by omega), N0, e13⟩ (by decide) (by decide)
  intro JL_16
  show own_End p e below s _ _ _ (s0.setTop (mkF m 0 #[.val (.int p1), .unset] []))
  refine own_join (fun G => ∀ T, Stand p l e ({ frames := 0, cells := 0, slots := 0, locals := 0 } : Room) s m #[(.int p1)] below meth c T [] 0 0 → T.heap = h0 → (128 ≤ p1.toInt ∧ ¬ ((192 ≤ p1.toInt ∧ p1.toInt ≤ 214) ∨ (216 ≤ p1.toInt ∧ p1.toInt ≤ 246) ∨ (248 ≤ p1.toInt ∧ p1.toInt ≤ 767) ∨ (880 ≤ p1.toInt ∧ p1.toInt ≤ 893) ∨ (895 ≤ p1.toInt ∧ p1.toInt ≤ 8191) ∨ (8204 ≤ p1.toInt ∧ p1.toInt ≤ 8205) ∨ (8304 ≤ p1.toInt ∧ p1.toInt ≤ 8591))) → G (T.setTop (mkF m 45 #[.val (.int p1), .val (.int (14 : Int32))] []))) ?_ ?_
  ·
    intro TL XL eL jL
    show own_End p e below s _ _ _ (TL.setTop (mkF m 45 #[.val (.int p1), .val (.int (14 : Int32))] []))
    refine own_go (fun t k => XS.iloadN XL.here hx rfl (hb hby d1_45) rfl k) ?_
    show own_End p e below s _ _ _ (TL.setTop (mkF m 46 #[.val (.int p1), .val (.int (14 : Int32))] [(.int (14 : Int32))]))
    obtain ⟨T14, X14, e14, st14⟩ := getS XL hx hZ (host := "") hown (hw _ (List.mem_of_getElem? (i := 22) rfl)) Via.refl eL S0 (g := (mkF m 46 #[.val (.int p1), .val (.int (14 : Int32))] [(.int (14 : Int32))])) rfl (hb hby d1_46)
    refine own_go st14 ?_
    show own_End p e below s _ _ _ (T14.setTop (mkF m 49 #[.val (.int p1), .val (.int (14 : Int32))] [(.ref sa), (.int (14 : Int32))]))
    refine own_go (own_flen X14 hx hZ e14 F0 (pc := 49) (Ls := #[.val (.int p1), .val (.int (14 : Int32))]) (rest := [(.int (14 : Int32))]) (hb hby d1_49)) ?_
    show own_End p e below s _ _ _ (T14.setTop (mkF m 50 #[.val (.int p1), .val (.int (14 : Int32))] [(.int (24 : Int32)), (.int (14 : Int32))]))
    refine own_go (fun t k => XS.icmpNo X14.here hx rfl (hb hby d1_50) rfl (by decide) k) ?_
    show own_End p e below s _ _ _ (T14.setTop (mkF m 53 #[.val (.int p1), .val (.int (14 : Int32))] []))
    refine own_go (fun t k => XS.iloadN X14.here hx rfl (hb hby d1_53) rfl k) ?_
    show own_End p e below s _ _ _ (T14.setTop (mkF m 54 #[.val (.int p1), .val (.int (14 : Int32))] [(.int p1)]))
    obtain ⟨T15, X15, e15, st15⟩ := getS X14 hx hZ (host := "") hown (hw _ (List.mem_of_getElem? (i := 22) rfl)) Via.refl e14 S0 (g := (mkF m 54 #[.val (.int p1), .val (.int (14 : Int32))] [(.int p1)])) rfl (hb hby d1_54)
    refine own_go st15 ?_
    show own_End p e below s _ _ _ (T15.setTop (mkF m 57 #[.val (.int p1), .val (.int (14 : Int32))] [(.ref sa), (.int p1)]))
    refine own_go (fun t k => XS.iloadN X15.here hx rfl (hb hby d1_57) rfl k) ?_
    show own_End p e below s _ _ _ (T15.setTop (mkF m 58 #[.val (.int p1), .val (.int (14 : Int32))] [(.int (14 : Int32)), (.ref sa), (.int p1)]))
    refine own_go (own_fldI X15 hx hZ e15 F0 (j := (14 : Int32)) (v := (.int (11264 : Int32))) 14 (by decide) (by decide) rfl (pc := 58) (Ls := #[.val (.int p1), .val (.int (14 : Int32))]) (rest := [(.int p1)]) (hb hby d1_58)) ?_
    show own_End p e below s _ _ _ (T15.setTop (mkF m 59 #[.val (.int p1), .val (.int (14 : Int32))] [(.int (11264 : Int32)), (.int p1)]))
    by_cases q_lo : p1.toInt < 11264
    ·
      refine own_go (fun t k => XS.icmpYes X15.here hx rfl (pc0 := 59) (pc' := 75) rfl (hb hby d1_59) rfl (own_ltY (k := 11264) (by decide) q_lo) (by decide) (by decide) k) ?_
      show own_End p e below s _ _ _ (T15.setTop (mkF m 75 #[.val (.int p1), .val (.int (14 : Int32))] []))
      refine own_go (fun t k => XS.iinc X15.here hx rfl (hb hby d1_75) rfl (l' := #[.val (.int p1), .val (.int ((14 : Int32) + (2 : Int32)))]) rfl k) ?_
      show own_End p e below s _ _ _ (T15.setTop (mkF m 78 #[.val (.int p1), .val (.int ((14 : Int32) + (2 : Int32)))] []))
      rw [show ((14 : Int32) + (2 : Int32)) = (16 : Int32) by decide]
      show own_End p e below s _ _ _ (T15.setTop (mkF m 78 #[.val (.int p1), .val (.int (16 : Int32))] []))
      refine own_go (fun t k => XS.goto X15.here hx rfl (pc0 := 78) (pc' := 45) rfl (hb hby d1_78) (by decide) (by decide) k) ?_
      show own_End p e below s _ _ _ (T15.setTop (mkF m 45 #[.val (.int p1), .val (.int (16 : Int32))] []))
      exact JL_16 T15 X15 e15 (by omega)
    refine own_go (fun t k => XS.icmpNo X15.here hx rfl (hb hby d1_59) rfl (own_ltN (k := 11264) (by decide) q_lo) k) ?_
    show own_End p e below s _ _ _ (T15.setTop (mkF m 62 #[.val (.int p1), .val (.int (14 : Int32))] []))
    refine own_go (fun t k => XS.iloadN X15.here hx rfl (hb hby d1_62) rfl k) ?_
    show own_End p e below s _ _ _ (T15.setTop (mkF m 63 #[.val (.int p1), .val (.int (14 : Int32))] [(.int p1)]))
    obtain ⟨T16, X16, e16, st16⟩ := getS X15 hx hZ (host := "") hown (hw _ (List.mem_of_getElem? (i := 22) rfl)) Via.refl e15 S0 (g := (mkF m 63 #[.val (.int p1), .val (.int (14 : Int32))] [(.int p1)])) rfl (hb hby d1_63)
    refine own_go st16 ?_
    show own_End p e below s _ _ _ (T16.setTop (mkF m 66 #[.val (.int p1), .val (.int (14 : Int32))] [(.ref sa), (.int p1)]))
    refine own_go (fun t k => XS.iloadN X16.here hx rfl (hb hby d1_66) rfl k) ?_
    show own_End p e below s _ _ _ (T16.setTop (mkF m 67 #[.val (.int p1), .val (.int (14 : Int32))] [(.int (14 : Int32)), (.ref sa), (.int p1)]))
    refine own_go (fun t k => XS.iconst X16.here hx rfl (hb hby d1_67) k) ?_
    show own_End p e below s _ _ _ (T16.setTop (mkF m 68 #[.val (.int p1), .val (.int (14 : Int32))] [(.int (1 : Int32)), (.int (14 : Int32)), (.ref sa), (.int p1)]))
    refine own_go (fun t k => XS.iadd X16.here hx rfl (hb hby d1_68) rfl k) ?_
    show own_End p e below s _ _ _ (T16.setTop (mkF m 69 #[.val (.int p1), .val (.int (14 : Int32))] [(.int ((14 : Int32) + (1 : Int32))), (.ref sa), (.int p1)]))
    rw [show ((14 : Int32) + (1 : Int32)) = (15 : Int32) by decide]
    show own_End p e below s _ _ _ (T16.setTop (mkF m 69 #[.val (.int p1), .val (.int (14 : Int32))] [(.int (15 : Int32)), (.ref sa), (.int p1)]))
    refine own_go (own_fldI X16 hx hZ e16 F0 (j := (15 : Int32)) (v := (.int (12271 : Int32))) 15 (by decide) (by decide) rfl (pc := 69) (Ls := #[.val (.int p1), .val (.int (14 : Int32))]) (rest := [(.int p1)]) (hb hby d1_69)) ?_
    show own_End p e below s _ _ _ (T16.setTop (mkF m 70 #[.val (.int p1), .val (.int (14 : Int32))] [(.int (12271 : Int32)), (.int p1)]))
    by_cases q_hi : 12271 < p1.toInt
    ·
      refine own_go (fun t k => XS.icmpYes X16.here hx rfl (pc0 := 70) (pc' := 75) rfl (hb hby d1_70) rfl (own_gtY (k := 12271) (by decide) q_hi) (by decide) (by decide) k) ?_
      show own_End p e below s _ _ _ (T16.setTop (mkF m 75 #[.val (.int p1), .val (.int (14 : Int32))] []))
      refine own_go (fun t k => XS.iinc X16.here hx rfl (hb hby d1_75) rfl (l' := #[.val (.int p1), .val (.int ((14 : Int32) + (2 : Int32)))]) rfl k) ?_
      show own_End p e below s _ _ _ (T16.setTop (mkF m 78 #[.val (.int p1), .val (.int ((14 : Int32) + (2 : Int32)))] []))
      rw [show ((14 : Int32) + (2 : Int32)) = (16 : Int32) by decide]
      show own_End p e below s _ _ _ (T16.setTop (mkF m 78 #[.val (.int p1), .val (.int (16 : Int32))] []))
      refine own_go (fun t k => XS.goto X16.here hx rfl (pc0 := 78) (pc' := 45) rfl (hb hby d1_78) (by decide) (by decide) k) ?_
      show own_End p e below s _ _ _ (T16.setTop (mkF m 45 #[.val (.int p1), .val (.int (16 : Int32))] []))
      exact JL_16 T16 X16 e16 (by omega)
    refine own_go (fun t k => XS.icmpNo X16.here hx rfl (hb hby d1_70) rfl (own_gtN (k := 12271) (by decide) q_hi) k) ?_
    show own_End p e below s _ _ _ (T16.setTop (mkF m 73 #[.val (.int p1), .val (.int (14 : Int32))] []))
    refine own_go (fun t k => XS.iconst X16.here hx rfl (hb hby d1_73) k) ?_
    show own_End p e below s _ _ _ (T16.setTop (mkF m 74 #[.val (.int p1), .val (.int (14 : Int32))] [(.int (1 : Int32))]))
    exact own_retN X16 hx (t := .boolean) hret hlk (by simp) (hb hby d1_74) ⟨own_yes (by omega), N0, e16⟩ (by decide) (by decide)
  intro JL_14
  show own_End p e below s _ _ _ (s0.setTop (mkF m 0 #[.val (.int p1), .unset] []))
  refine own_join (fun G => ∀ T, Stand p l e ({ frames := 0, cells := 0, slots := 0, locals := 0 } : Room) s m #[(.int p1)] below meth c T [] 0 0 → T.heap = h0 → (128 ≤ p1.toInt ∧ ¬ ((192 ≤ p1.toInt ∧ p1.toInt ≤ 214) ∨ (216 ≤ p1.toInt ∧ p1.toInt ≤ 246) ∨ (248 ≤ p1.toInt ∧ p1.toInt ≤ 767) ∨ (880 ≤ p1.toInt ∧ p1.toInt ≤ 893) ∨ (895 ≤ p1.toInt ∧ p1.toInt ≤ 8191) ∨ (8204 ≤ p1.toInt ∧ p1.toInt ≤ 8205))) → G (T.setTop (mkF m 45 #[.val (.int p1), .val (.int (12 : Int32))] []))) ?_ ?_
  ·
    intro TL XL eL jL
    show own_End p e below s _ _ _ (TL.setTop (mkF m 45 #[.val (.int p1), .val (.int (12 : Int32))] []))
    refine own_go (fun t k => XS.iloadN XL.here hx rfl (hb hby d1_45) rfl k) ?_
    show own_End p e below s _ _ _ (TL.setTop (mkF m 46 #[.val (.int p1), .val (.int (12 : Int32))] [(.int (12 : Int32))]))
    obtain ⟨T17, X17, e17, st17⟩ := getS XL hx hZ (host := "") hown (hw _ (List.mem_of_getElem? (i := 22) rfl)) Via.refl eL S0 (g := (mkF m 46 #[.val (.int p1), .val (.int (12 : Int32))] [(.int (12 : Int32))])) rfl (hb hby d1_46)
    refine own_go st17 ?_
    show own_End p e below s _ _ _ (T17.setTop (mkF m 49 #[.val (.int p1), .val (.int (12 : Int32))] [(.ref sa), (.int (12 : Int32))]))
    refine own_go (own_flen X17 hx hZ e17 F0 (pc := 49) (Ls := #[.val (.int p1), .val (.int (12 : Int32))]) (rest := [(.int (12 : Int32))]) (hb hby d1_49)) ?_
    show own_End p e below s _ _ _ (T17.setTop (mkF m 50 #[.val (.int p1), .val (.int (12 : Int32))] [(.int (24 : Int32)), (.int (12 : Int32))]))
    refine own_go (fun t k => XS.icmpNo X17.here hx rfl (hb hby d1_50) rfl (by decide) k) ?_
    show own_End p e below s _ _ _ (T17.setTop (mkF m 53 #[.val (.int p1), .val (.int (12 : Int32))] []))
    refine own_go (fun t k => XS.iloadN X17.here hx rfl (hb hby d1_53) rfl k) ?_
    show own_End p e below s _ _ _ (T17.setTop (mkF m 54 #[.val (.int p1), .val (.int (12 : Int32))] [(.int p1)]))
    obtain ⟨T18, X18, e18, st18⟩ := getS X17 hx hZ (host := "") hown (hw _ (List.mem_of_getElem? (i := 22) rfl)) Via.refl e17 S0 (g := (mkF m 54 #[.val (.int p1), .val (.int (12 : Int32))] [(.int p1)])) rfl (hb hby d1_54)
    refine own_go st18 ?_
    show own_End p e below s _ _ _ (T18.setTop (mkF m 57 #[.val (.int p1), .val (.int (12 : Int32))] [(.ref sa), (.int p1)]))
    refine own_go (fun t k => XS.iloadN X18.here hx rfl (hb hby d1_57) rfl k) ?_
    show own_End p e below s _ _ _ (T18.setTop (mkF m 58 #[.val (.int p1), .val (.int (12 : Int32))] [(.int (12 : Int32)), (.ref sa), (.int p1)]))
    refine own_go (own_fldI X18 hx hZ e18 F0 (j := (12 : Int32)) (v := (.int (8304 : Int32))) 12 (by decide) (by decide) rfl (pc := 58) (Ls := #[.val (.int p1), .val (.int (12 : Int32))]) (rest := [(.int p1)]) (hb hby d1_58)) ?_
    show own_End p e below s _ _ _ (T18.setTop (mkF m 59 #[.val (.int p1), .val (.int (12 : Int32))] [(.int (8304 : Int32)), (.int p1)]))
    by_cases q_lo : p1.toInt < 8304
    ·
      refine own_go (fun t k => XS.icmpYes X18.here hx rfl (pc0 := 59) (pc' := 75) rfl (hb hby d1_59) rfl (own_ltY (k := 8304) (by decide) q_lo) (by decide) (by decide) k) ?_
      show own_End p e below s _ _ _ (T18.setTop (mkF m 75 #[.val (.int p1), .val (.int (12 : Int32))] []))
      refine own_go (fun t k => XS.iinc X18.here hx rfl (hb hby d1_75) rfl (l' := #[.val (.int p1), .val (.int ((12 : Int32) + (2 : Int32)))]) rfl k) ?_
      show own_End p e below s _ _ _ (T18.setTop (mkF m 78 #[.val (.int p1), .val (.int ((12 : Int32) + (2 : Int32)))] []))
      rw [show ((12 : Int32) + (2 : Int32)) = (14 : Int32) by decide]
      show own_End p e below s _ _ _ (T18.setTop (mkF m 78 #[.val (.int p1), .val (.int (14 : Int32))] []))
      refine own_go (fun t k => XS.goto X18.here hx rfl (pc0 := 78) (pc' := 45) rfl (hb hby d1_78) (by decide) (by decide) k) ?_
      show own_End p e below s _ _ _ (T18.setTop (mkF m 45 #[.val (.int p1), .val (.int (14 : Int32))] []))
      exact JL_14 T18 X18 e18 (by omega)
    refine own_go (fun t k => XS.icmpNo X18.here hx rfl (hb hby d1_59) rfl (own_ltN (k := 8304) (by decide) q_lo) k) ?_
    show own_End p e below s _ _ _ (T18.setTop (mkF m 62 #[.val (.int p1), .val (.int (12 : Int32))] []))
    refine own_go (fun t k => XS.iloadN X18.here hx rfl (hb hby d1_62) rfl k) ?_
    show own_End p e below s _ _ _ (T18.setTop (mkF m 63 #[.val (.int p1), .val (.int (12 : Int32))] [(.int p1)]))
    obtain ⟨T19, X19, e19, st19⟩ := getS X18 hx hZ (host := "") hown (hw _ (List.mem_of_getElem? (i := 22) rfl)) Via.refl e18 S0 (g := (mkF m 63 #[.val (.int p1), .val (.int (12 : Int32))] [(.int p1)])) rfl (hb hby d1_63)
    refine own_go st19 ?_
    show own_End p e below s _ _ _ (T19.setTop (mkF m 66 #[.val (.int p1), .val (.int (12 : Int32))] [(.ref sa), (.int p1)]))
    refine own_go (fun t k => XS.iloadN X19.here hx rfl (hb hby d1_66) rfl k) ?_
    show own_End p e below s _ _ _ (T19.setTop (mkF m 67 #[.val (.int p1), .val (.int (12 : Int32))] [(.int (12 : Int32)), (.ref sa), (.int p1)]))
    refine own_go (fun t k => XS.iconst X19.here hx rfl (hb hby d1_67) k) ?_
    show own_End p e below s _ _ _ (T19.setTop (mkF m 68 #[.val (.int p1), .val (.int (12 : Int32))] [(.int (1 : Int32)), (.int (12 : Int32)), (.ref sa), (.int p1)]))
    refine own_go (fun t k => XS.iadd X19.here hx rfl (hb hby d1_68) rfl k) ?_
    show own_End p e below s _ _ _ (T19.setTop (mkF m 69 #[.val (.int p1), .val (.int (12 : Int32))] [(.int ((12 : Int32) + (1 : Int32))), (.ref sa), (.int p1)]))
    rw [show ((12 : Int32) + (1 : Int32)) = (13 : Int32) by decide]
    show own_End p e below s _ _ _ (T19.setTop (mkF m 69 #[.val (.int p1), .val (.int (12 : Int32))] [(.int (13 : Int32)), (.ref sa), (.int p1)]))
    refine own_go (own_fldI X19 hx hZ e19 F0 (j := (13 : Int32)) (v := (.int (8591 : Int32))) 13 (by decide) (by decide) rfl (pc := 69) (Ls := #[.val (.int p1), .val (.int (12 : Int32))]) (rest := [(.int p1)]) (hb hby d1_69)) ?_
    show own_End p e below s _ _ _ (T19.setTop (mkF m 70 #[.val (.int p1), .val (.int (12 : Int32))] [(.int (8591 : Int32)), (.int p1)]))
    by_cases q_hi : 8591 < p1.toInt
    ·
      refine own_go (fun t k => XS.icmpYes X19.here hx rfl (pc0 := 70) (pc' := 75) rfl (hb hby d1_70) rfl (own_gtY (k := 8591) (by decide) q_hi) (by decide) (by decide) k) ?_
      show own_End p e below s _ _ _ (T19.setTop (mkF m 75 #[.val (.int p1), .val (.int (12 : Int32))] []))
      refine own_go (fun t k => XS.iinc X19.here hx rfl (hb hby d1_75) rfl (l' := #[.val (.int p1), .val (.int ((12 : Int32) + (2 : Int32)))]) rfl k) ?_
      show own_End p e below s _ _ _ (T19.setTop (mkF m 78 #[.val (.int p1), .val (.int ((12 : Int32) + (2 : Int32)))] []))
      rw [show ((12 : Int32) + (2 : Int32)) = (14 : Int32) by decide]
      show own_End p e below s _ _ _ (T19.setTop (mkF m 78 #[.val (.int p1), .val (.int (14 : Int32))] []))
      refine own_go (fun t k => XS.goto X19.here hx rfl (pc0 := 78) (pc' := 45) rfl (hb hby d1_78) (by decide) (by decide) k) ?_
      show own_End p e below s _ _ _ (T19.setTop (mkF m 45 #[.val (.int p1), .val (.int (14 : Int32))] []))
      exact JL_14 T19 X19 e19 (by omega)
    refine own_go (fun t k => XS.icmpNo X19.here hx rfl (hb hby d1_70) rfl (own_gtN (k := 8591) (by decide) q_hi) k) ?_
    show own_End p e below s _ _ _ (T19.setTop (mkF m 73 #[.val (.int p1), .val (.int (12 : Int32))] []))
    refine own_go (fun t k => XS.iconst X19.here hx rfl (hb hby d1_73) k) ?_
    show own_End p e below s _ _ _ (T19.setTop (mkF m 74 #[.val (.int p1), .val (.int (12 : Int32))] [(.int (1 : Int32))]))
    exact own_retN X19 hx (t := .boolean) hret hlk (by simp) (hb hby d1_74) ⟨own_yes (by omega), N0, e19⟩ (by decide) (by decide)
  intro JL_12
  show own_End p e below s _ _ _ (s0.setTop (mkF m 0 #[.val (.int p1), .unset] []))
  refine own_join (fun G => ∀ T, Stand p l e ({ frames := 0, cells := 0, slots := 0, locals := 0 } : Room) s m #[(.int p1)] below meth c T [] 0 0 → T.heap = h0 → (128 ≤ p1.toInt ∧ ¬ ((192 ≤ p1.toInt ∧ p1.toInt ≤ 214) ∨ (216 ≤ p1.toInt ∧ p1.toInt ≤ 246) ∨ (248 ≤ p1.toInt ∧ p1.toInt ≤ 767) ∨ (880 ≤ p1.toInt ∧ p1.toInt ≤ 893) ∨ (895 ≤ p1.toInt ∧ p1.toInt ≤ 8191))) → G (T.setTop (mkF m 45 #[.val (.int p1), .val (.int (10 : Int32))] []))) ?_ ?_
  ·
    intro TL XL eL jL
    show own_End p e below s _ _ _ (TL.setTop (mkF m 45 #[.val (.int p1), .val (.int (10 : Int32))] []))
    refine own_go (fun t k => XS.iloadN XL.here hx rfl (hb hby d1_45) rfl k) ?_
    show own_End p e below s _ _ _ (TL.setTop (mkF m 46 #[.val (.int p1), .val (.int (10 : Int32))] [(.int (10 : Int32))]))
    obtain ⟨T20, X20, e20, st20⟩ := getS XL hx hZ (host := "") hown (hw _ (List.mem_of_getElem? (i := 22) rfl)) Via.refl eL S0 (g := (mkF m 46 #[.val (.int p1), .val (.int (10 : Int32))] [(.int (10 : Int32))])) rfl (hb hby d1_46)
    refine own_go st20 ?_
    show own_End p e below s _ _ _ (T20.setTop (mkF m 49 #[.val (.int p1), .val (.int (10 : Int32))] [(.ref sa), (.int (10 : Int32))]))
    refine own_go (own_flen X20 hx hZ e20 F0 (pc := 49) (Ls := #[.val (.int p1), .val (.int (10 : Int32))]) (rest := [(.int (10 : Int32))]) (hb hby d1_49)) ?_
    show own_End p e below s _ _ _ (T20.setTop (mkF m 50 #[.val (.int p1), .val (.int (10 : Int32))] [(.int (24 : Int32)), (.int (10 : Int32))]))
    refine own_go (fun t k => XS.icmpNo X20.here hx rfl (hb hby d1_50) rfl (by decide) k) ?_
    show own_End p e below s _ _ _ (T20.setTop (mkF m 53 #[.val (.int p1), .val (.int (10 : Int32))] []))
    refine own_go (fun t k => XS.iloadN X20.here hx rfl (hb hby d1_53) rfl k) ?_
    show own_End p e below s _ _ _ (T20.setTop (mkF m 54 #[.val (.int p1), .val (.int (10 : Int32))] [(.int p1)]))
    obtain ⟨T21, X21, e21, st21⟩ := getS X20 hx hZ (host := "") hown (hw _ (List.mem_of_getElem? (i := 22) rfl)) Via.refl e20 S0 (g := (mkF m 54 #[.val (.int p1), .val (.int (10 : Int32))] [(.int p1)])) rfl (hb hby d1_54)
    refine own_go st21 ?_
    show own_End p e below s _ _ _ (T21.setTop (mkF m 57 #[.val (.int p1), .val (.int (10 : Int32))] [(.ref sa), (.int p1)]))
    refine own_go (fun t k => XS.iloadN X21.here hx rfl (hb hby d1_57) rfl k) ?_
    show own_End p e below s _ _ _ (T21.setTop (mkF m 58 #[.val (.int p1), .val (.int (10 : Int32))] [(.int (10 : Int32)), (.ref sa), (.int p1)]))
    refine own_go (own_fldI X21 hx hZ e21 F0 (j := (10 : Int32)) (v := (.int (8204 : Int32))) 10 (by decide) (by decide) rfl (pc := 58) (Ls := #[.val (.int p1), .val (.int (10 : Int32))]) (rest := [(.int p1)]) (hb hby d1_58)) ?_
    show own_End p e below s _ _ _ (T21.setTop (mkF m 59 #[.val (.int p1), .val (.int (10 : Int32))] [(.int (8204 : Int32)), (.int p1)]))
    by_cases q_lo : p1.toInt < 8204
    ·
      refine own_go (fun t k => XS.icmpYes X21.here hx rfl (pc0 := 59) (pc' := 75) rfl (hb hby d1_59) rfl (own_ltY (k := 8204) (by decide) q_lo) (by decide) (by decide) k) ?_
      show own_End p e below s _ _ _ (T21.setTop (mkF m 75 #[.val (.int p1), .val (.int (10 : Int32))] []))
      refine own_go (fun t k => XS.iinc X21.here hx rfl (hb hby d1_75) rfl (l' := #[.val (.int p1), .val (.int ((10 : Int32) + (2 : Int32)))]) rfl k) ?_
      show own_End p e below s _ _ _ (T21.setTop (mkF m 78 #[.val (.int p1), .val (.int ((10 : Int32) + (2 : Int32)))] []))
      rw [show ((10 : Int32) + (2 : Int32)) = (12 : Int32) by decide]
      show own_End p e below s _ _ _ (T21.setTop (mkF m 78 #[.val (.int p1), .val (.int (12 : Int32))] []))
      refine own_go (fun t k => XS.goto X21.here hx rfl (pc0 := 78) (pc' := 45) rfl (hb hby d1_78) (by decide) (by decide) k) ?_
      show own_End p e below s _ _ _ (T21.setTop (mkF m 45 #[.val (.int p1), .val (.int (12 : Int32))] []))
      exact JL_12 T21 X21 e21 (by omega)
    refine own_go (fun t k => XS.icmpNo X21.here hx rfl (hb hby d1_59) rfl (own_ltN (k := 8204) (by decide) q_lo) k) ?_
    show own_End p e below s _ _ _ (T21.setTop (mkF m 62 #[.val (.int p1), .val (.int (10 : Int32))] []))
    refine own_go (fun t k => XS.iloadN X21.here hx rfl (hb hby d1_62) rfl k) ?_
    show own_End p e below s _ _ _ (T21.setTop (mkF m 63 #[.val (.int p1), .val (.int (10 : Int32))] [(.int p1)]))
    obtain ⟨T22, X22, e22, st22⟩ := getS X21 hx hZ (host := "") hown (hw _ (List.mem_of_getElem? (i := 22) rfl)) Via.refl e21 S0 (g := (mkF m 63 #[.val (.int p1), .val (.int (10 : Int32))] [(.int p1)])) rfl (hb hby d1_63)
    refine own_go st22 ?_
    show own_End p e below s _ _ _ (T22.setTop (mkF m 66 #[.val (.int p1), .val (.int (10 : Int32))] [(.ref sa), (.int p1)]))
    refine own_go (fun t k => XS.iloadN X22.here hx rfl (hb hby d1_66) rfl k) ?_
    show own_End p e below s _ _ _ (T22.setTop (mkF m 67 #[.val (.int p1), .val (.int (10 : Int32))] [(.int (10 : Int32)), (.ref sa), (.int p1)]))
    refine own_go (fun t k => XS.iconst X22.here hx rfl (hb hby d1_67) k) ?_
    show own_End p e below s _ _ _ (T22.setTop (mkF m 68 #[.val (.int p1), .val (.int (10 : Int32))] [(.int (1 : Int32)), (.int (10 : Int32)), (.ref sa), (.int p1)]))
    refine own_go (fun t k => XS.iadd X22.here hx rfl (hb hby d1_68) rfl k) ?_
    show own_End p e below s _ _ _ (T22.setTop (mkF m 69 #[.val (.int p1), .val (.int (10 : Int32))] [(.int ((10 : Int32) + (1 : Int32))), (.ref sa), (.int p1)]))
    rw [show ((10 : Int32) + (1 : Int32)) = (11 : Int32) by decide]
    show own_End p e below s _ _ _ (T22.setTop (mkF m 69 #[.val (.int p1), .val (.int (10 : Int32))] [(.int (11 : Int32)), (.ref sa), (.int p1)]))
    refine own_go (own_fldI X22 hx hZ e22 F0 (j := (11 : Int32)) (v := (.int (8205 : Int32))) 11 (by decide) (by decide) rfl (pc := 69) (Ls := #[.val (.int p1), .val (.int (10 : Int32))]) (rest := [(.int p1)]) (hb hby d1_69)) ?_
    show own_End p e below s _ _ _ (T22.setTop (mkF m 70 #[.val (.int p1), .val (.int (10 : Int32))] [(.int (8205 : Int32)), (.int p1)]))
    by_cases q_hi : 8205 < p1.toInt
    ·
      refine own_go (fun t k => XS.icmpYes X22.here hx rfl (pc0 := 70) (pc' := 75) rfl (hb hby d1_70) rfl (own_gtY (k := 8205) (by decide) q_hi) (by decide) (by decide) k) ?_
      show own_End p e below s _ _ _ (T22.setTop (mkF m 75 #[.val (.int p1), .val (.int (10 : Int32))] []))
      refine own_go (fun t k => XS.iinc X22.here hx rfl (hb hby d1_75) rfl (l' := #[.val (.int p1), .val (.int ((10 : Int32) + (2 : Int32)))]) rfl k) ?_
      show own_End p e below s _ _ _ (T22.setTop (mkF m 78 #[.val (.int p1), .val (.int ((10 : Int32) + (2 : Int32)))] []))
      rw [show ((10 : Int32) + (2 : Int32)) = (12 : Int32) by decide]
      show own_End p e below s _ _ _ (T22.setTop (mkF m 78 #[.val (.int p1), .val (.int (12 : Int32))] []))
      refine own_go (fun t k => XS.goto X22.here hx rfl (pc0 := 78) (pc' := 45) rfl (hb hby d1_78) (by decide) (by decide) k) ?_
      show own_End p e below s _ _ _ (T22.setTop (mkF m 45 #[.val (.int p1), .val (.int (12 : Int32))] []))
      exact JL_12 T22 X22 e22 (by omega)
    refine own_go (fun t k => XS.icmpNo X22.here hx rfl (hb hby d1_70) rfl (own_gtN (k := 8205) (by decide) q_hi) k) ?_
    show own_End p e below s _ _ _ (T22.setTop (mkF m 73 #[.val (.int p1), .val (.int (10 : Int32))] []))
    refine own_go (fun t k => XS.iconst X22.here hx rfl (hb hby d1_73) k) ?_
    show own_End p e below s _ _ _ (T22.setTop (mkF m 74 #[.val (.int p1), .val (.int (10 : Int32))] [(.int (1 : Int32))]))
    exact own_retN X22 hx (t := .boolean) hret hlk (by simp) (hb hby d1_74) ⟨own_yes (by omega), N0, e22⟩ (by decide) (by decide)
  intro JL_10
  show own_End p e below s _ _ _ (s0.setTop (mkF m 0 #[.val (.int p1), .unset] []))
  refine own_join (fun G => ∀ T, Stand p l e ({ frames := 0, cells := 0, slots := 0, locals := 0 } : Room) s m #[(.int p1)] below meth c T [] 0 0 → T.heap = h0 → (128 ≤ p1.toInt ∧ ¬ ((192 ≤ p1.toInt ∧ p1.toInt ≤ 214) ∨ (216 ≤ p1.toInt ∧ p1.toInt ≤ 246) ∨ (248 ≤ p1.toInt ∧ p1.toInt ≤ 767) ∨ (880 ≤ p1.toInt ∧ p1.toInt ≤ 893))) → G (T.setTop (mkF m 45 #[.val (.int p1), .val (.int (8 : Int32))] []))) ?_ ?_
  ·
    intro TL XL eL jL
    show own_End p e below s _ _ _ (TL.setTop (mkF m 45 #[.val (.int p1), .val (.int (8 : Int32))] []))
    refine own_go (fun t k => XS.iloadN XL.here hx rfl (hb hby d1_45) rfl k) ?_
    show own_End p e below s _ _ _ (TL.setTop (mkF m 46 #[.val (.int p1), .val (.int (8 : Int32))] [(.int (8 : Int32))]))
    obtain ⟨T23, X23, e23, st23⟩ := getS XL hx hZ (host := "") hown (hw _ (List.mem_of_getElem? (i := 22) rfl)) Via.refl eL S0 (g := (mkF m 46 #[.val (.int p1), .val (.int (8 : Int32))] [(.int (8 : Int32))])) rfl (hb hby d1_46)
    refine own_go st23 ?_
    show own_End p e below s _ _ _ (T23.setTop (mkF m 49 #[.val (.int p1), .val (.int (8 : Int32))] [(.ref sa), (.int (8 : Int32))]))
    refine own_go (own_flen X23 hx hZ e23 F0 (pc := 49) (Ls := #[.val (.int p1), .val (.int (8 : Int32))]) (rest := [(.int (8 : Int32))]) (hb hby d1_49)) ?_
    show own_End p e below s _ _ _ (T23.setTop (mkF m 50 #[.val (.int p1), .val (.int (8 : Int32))] [(.int (24 : Int32)), (.int (8 : Int32))]))
    refine own_go (fun t k => XS.icmpNo X23.here hx rfl (hb hby d1_50) rfl (by decide) k) ?_
    show own_End p e below s _ _ _ (T23.setTop (mkF m 53 #[.val (.int p1), .val (.int (8 : Int32))] []))
    refine own_go (fun t k => XS.iloadN X23.here hx rfl (hb hby d1_53) rfl k) ?_
    show own_End p e below s _ _ _ (T23.setTop (mkF m 54 #[.val (.int p1), .val (.int (8 : Int32))] [(.int p1)]))
    obtain ⟨T24, X24, e24, st24⟩ := getS X23 hx hZ (host := "") hown (hw _ (List.mem_of_getElem? (i := 22) rfl)) Via.refl e23 S0 (g := (mkF m 54 #[.val (.int p1), .val (.int (8 : Int32))] [(.int p1)])) rfl (hb hby d1_54)
    refine own_go st24 ?_
    show own_End p e below s _ _ _ (T24.setTop (mkF m 57 #[.val (.int p1), .val (.int (8 : Int32))] [(.ref sa), (.int p1)]))
    refine own_go (fun t k => XS.iloadN X24.here hx rfl (hb hby d1_57) rfl k) ?_
    show own_End p e below s _ _ _ (T24.setTop (mkF m 58 #[.val (.int p1), .val (.int (8 : Int32))] [(.int (8 : Int32)), (.ref sa), (.int p1)]))
    refine own_go (own_fldI X24 hx hZ e24 F0 (j := (8 : Int32)) (v := (.int (895 : Int32))) 8 (by decide) (by decide) rfl (pc := 58) (Ls := #[.val (.int p1), .val (.int (8 : Int32))]) (rest := [(.int p1)]) (hb hby d1_58)) ?_
    show own_End p e below s _ _ _ (T24.setTop (mkF m 59 #[.val (.int p1), .val (.int (8 : Int32))] [(.int (895 : Int32)), (.int p1)]))
    by_cases q_lo : p1.toInt < 895
    ·
      refine own_go (fun t k => XS.icmpYes X24.here hx rfl (pc0 := 59) (pc' := 75) rfl (hb hby d1_59) rfl (own_ltY (k := 895) (by decide) q_lo) (by decide) (by decide) k) ?_
      show own_End p e below s _ _ _ (T24.setTop (mkF m 75 #[.val (.int p1), .val (.int (8 : Int32))] []))
      refine own_go (fun t k => XS.iinc X24.here hx rfl (hb hby d1_75) rfl (l' := #[.val (.int p1), .val (.int ((8 : Int32) + (2 : Int32)))]) rfl k) ?_
      show own_End p e below s _ _ _ (T24.setTop (mkF m 78 #[.val (.int p1), .val (.int ((8 : Int32) + (2 : Int32)))] []))
      rw [show ((8 : Int32) + (2 : Int32)) = (10 : Int32) by decide]
      show own_End p e below s _ _ _ (T24.setTop (mkF m 78 #[.val (.int p1), .val (.int (10 : Int32))] []))
      refine own_go (fun t k => XS.goto X24.here hx rfl (pc0 := 78) (pc' := 45) rfl (hb hby d1_78) (by decide) (by decide) k) ?_
      show own_End p e below s _ _ _ (T24.setTop (mkF m 45 #[.val (.int p1), .val (.int (10 : Int32))] []))
      exact JL_10 T24 X24 e24 (by omega)
    refine own_go (fun t k => XS.icmpNo X24.here hx rfl (hb hby d1_59) rfl (own_ltN (k := 895) (by decide) q_lo) k) ?_
    show own_End p e below s _ _ _ (T24.setTop (mkF m 62 #[.val (.int p1), .val (.int (8 : Int32))] []))
    refine own_go (fun t k => XS.iloadN X24.here hx rfl (hb hby d1_62) rfl k) ?_
    show own_End p e below s _ _ _ (T24.setTop (mkF m 63 #[.val (.int p1), .val (.int (8 : Int32))] [(.int p1)]))
    obtain ⟨T25, X25, e25, st25⟩ := getS X24 hx hZ (host := "") hown (hw _ (List.mem_of_getElem? (i := 22) rfl)) Via.refl e24 S0 (g := (mkF m 63 #[.val (.int p1), .val (.int (8 : Int32))] [(.int p1)])) rfl (hb hby d1_63)
    refine own_go st25 ?_
    show own_End p e below s _ _ _ (T25.setTop (mkF m 66 #[.val (.int p1), .val (.int (8 : Int32))] [(.ref sa), (.int p1)]))
    refine own_go (fun t k => XS.iloadN X25.here hx rfl (hb hby d1_66) rfl k) ?_
    show own_End p e below s _ _ _ (T25.setTop (mkF m 67 #[.val (.int p1), .val (.int (8 : Int32))] [(.int (8 : Int32)), (.ref sa), (.int p1)]))
    refine own_go (fun t k => XS.iconst X25.here hx rfl (hb hby d1_67) k) ?_
    show own_End p e below s _ _ _ (T25.setTop (mkF m 68 #[.val (.int p1), .val (.int (8 : Int32))] [(.int (1 : Int32)), (.int (8 : Int32)), (.ref sa), (.int p1)]))
    refine own_go (fun t k => XS.iadd X25.here hx rfl (hb hby d1_68) rfl k) ?_
    show own_End p e below s _ _ _ (T25.setTop (mkF m 69 #[.val (.int p1), .val (.int (8 : Int32))] [(.int ((8 : Int32) + (1 : Int32))), (.ref sa), (.int p1)]))
    rw [show ((8 : Int32) + (1 : Int32)) = (9 : Int32) by decide]
    show own_End p e below s _ _ _ (T25.setTop (mkF m 69 #[.val (.int p1), .val (.int (8 : Int32))] [(.int (9 : Int32)), (.ref sa), (.int p1)]))
    refine own_go (own_fldI X25 hx hZ e25 F0 (j := (9 : Int32)) (v := (.int (8191 : Int32))) 9 (by decide) (by decide) rfl (pc := 69) (Ls := #[.val (.int p1), .val (.int (8 : Int32))]) (rest := [(.int p1)]) (hb hby d1_69)) ?_
    show own_End p e below s _ _ _ (T25.setTop (mkF m 70 #[.val (.int p1), .val (.int (8 : Int32))] [(.int (8191 : Int32)), (.int p1)]))
    by_cases q_hi : 8191 < p1.toInt
    ·
      refine own_go (fun t k => XS.icmpYes X25.here hx rfl (pc0 := 70) (pc' := 75) rfl (hb hby d1_70) rfl (own_gtY (k := 8191) (by decide) q_hi) (by decide) (by decide) k) ?_
      show own_End p e below s _ _ _ (T25.setTop (mkF m 75 #[.val (.int p1), .val (.int (8 : Int32))] []))
      refine own_go (fun t k => XS.iinc X25.here hx rfl (hb hby d1_75) rfl (l' := #[.val (.int p1), .val (.int ((8 : Int32) + (2 : Int32)))]) rfl k) ?_
      show own_End p e below s _ _ _ (T25.setTop (mkF m 78 #[.val (.int p1), .val (.int ((8 : Int32) + (2 : Int32)))] []))
      rw [show ((8 : Int32) + (2 : Int32)) = (10 : Int32) by decide]
      show own_End p e below s _ _ _ (T25.setTop (mkF m 78 #[.val (.int p1), .val (.int (10 : Int32))] []))
      refine own_go (fun t k => XS.goto X25.here hx rfl (pc0 := 78) (pc' := 45) rfl (hb hby d1_78) (by decide) (by decide) k) ?_
      show own_End p e below s _ _ _ (T25.setTop (mkF m 45 #[.val (.int p1), .val (.int (10 : Int32))] []))
      exact JL_10 T25 X25 e25 (by omega)
    refine own_go (fun t k => XS.icmpNo X25.here hx rfl (hb hby d1_70) rfl (own_gtN (k := 8191) (by decide) q_hi) k) ?_
    show own_End p e below s _ _ _ (T25.setTop (mkF m 73 #[.val (.int p1), .val (.int (8 : Int32))] []))
    refine own_go (fun t k => XS.iconst X25.here hx rfl (hb hby d1_73) k) ?_
    show own_End p e below s _ _ _ (T25.setTop (mkF m 74 #[.val (.int p1), .val (.int (8 : Int32))] [(.int (1 : Int32))]))
    exact own_retN X25 hx (t := .boolean) hret hlk (by simp) (hb hby d1_74) ⟨own_yes (by omega), N0, e25⟩ (by decide) (by decide)
  intro JL_8
  show own_End p e below s _ _ _ (s0.setTop (mkF m 0 #[.val (.int p1), .unset] []))
  refine own_join (fun G => ∀ T, Stand p l e ({ frames := 0, cells := 0, slots := 0, locals := 0 } : Room) s m #[(.int p1)] below meth c T [] 0 0 → T.heap = h0 → (128 ≤ p1.toInt ∧ ¬ ((192 ≤ p1.toInt ∧ p1.toInt ≤ 214) ∨ (216 ≤ p1.toInt ∧ p1.toInt ≤ 246) ∨ (248 ≤ p1.toInt ∧ p1.toInt ≤ 767))) → G (T.setTop (mkF m 45 #[.val (.int p1), .val (.int (6 : Int32))] []))) ?_ ?_
  ·
    intro TL XL eL jL
    show own_End p e below s _ _ _ (TL.setTop (mkF m 45 #[.val (.int p1), .val (.int (6 : Int32))] []))
    refine own_go (fun t k => XS.iloadN XL.here hx rfl (hb hby d1_45) rfl k) ?_
    show own_End p e below s _ _ _ (TL.setTop (mkF m 46 #[.val (.int p1), .val (.int (6 : Int32))] [(.int (6 : Int32))]))
    obtain ⟨T26, X26, e26, st26⟩ := getS XL hx hZ (host := "") hown (hw _ (List.mem_of_getElem? (i := 22) rfl)) Via.refl eL S0 (g := (mkF m 46 #[.val (.int p1), .val (.int (6 : Int32))] [(.int (6 : Int32))])) rfl (hb hby d1_46)
    refine own_go st26 ?_
    show own_End p e below s _ _ _ (T26.setTop (mkF m 49 #[.val (.int p1), .val (.int (6 : Int32))] [(.ref sa), (.int (6 : Int32))]))
    refine own_go (own_flen X26 hx hZ e26 F0 (pc := 49) (Ls := #[.val (.int p1), .val (.int (6 : Int32))]) (rest := [(.int (6 : Int32))]) (hb hby d1_49)) ?_
    show own_End p e below s _ _ _ (T26.setTop (mkF m 50 #[.val (.int p1), .val (.int (6 : Int32))] [(.int (24 : Int32)), (.int (6 : Int32))]))
    refine own_go (fun t k => XS.icmpNo X26.here hx rfl (hb hby d1_50) rfl (by decide) k) ?_
    show own_End p e below s _ _ _ (T26.setTop (mkF m 53 #[.val (.int p1), .val (.int (6 : Int32))] []))
    refine own_go (fun t k => XS.iloadN X26.here hx rfl (hb hby d1_53) rfl k) ?_
    show own_End p e below s _ _ _ (T26.setTop (mkF m 54 #[.val (.int p1), .val (.int (6 : Int32))] [(.int p1)]))
    obtain ⟨T27, X27, e27, st27⟩ := getS X26 hx hZ (host := "") hown (hw _ (List.mem_of_getElem? (i := 22) rfl)) Via.refl e26 S0 (g := (mkF m 54 #[.val (.int p1), .val (.int (6 : Int32))] [(.int p1)])) rfl (hb hby d1_54)
    refine own_go st27 ?_
    show own_End p e below s _ _ _ (T27.setTop (mkF m 57 #[.val (.int p1), .val (.int (6 : Int32))] [(.ref sa), (.int p1)]))
    refine own_go (fun t k => XS.iloadN X27.here hx rfl (hb hby d1_57) rfl k) ?_
    show own_End p e below s _ _ _ (T27.setTop (mkF m 58 #[.val (.int p1), .val (.int (6 : Int32))] [(.int (6 : Int32)), (.ref sa), (.int p1)]))
    refine own_go (own_fldI X27 hx hZ e27 F0 (j := (6 : Int32)) (v := (.int (880 : Int32))) 6 (by decide) (by decide) rfl (pc := 58) (Ls := #[.val (.int p1), .val (.int (6 : Int32))]) (rest := [(.int p1)]) (hb hby d1_58)) ?_
    show own_End p e below s _ _ _ (T27.setTop (mkF m 59 #[.val (.int p1), .val (.int (6 : Int32))] [(.int (880 : Int32)), (.int p1)]))
    by_cases q_lo : p1.toInt < 880
    ·
      refine own_go (fun t k => XS.icmpYes X27.here hx rfl (pc0 := 59) (pc' := 75) rfl (hb hby d1_59) rfl (own_ltY (k := 880) (by decide) q_lo) (by decide) (by decide) k) ?_
      show own_End p e below s _ _ _ (T27.setTop (mkF m 75 #[.val (.int p1), .val (.int (6 : Int32))] []))
      refine own_go (fun t k => XS.iinc X27.here hx rfl (hb hby d1_75) rfl (l' := #[.val (.int p1), .val (.int ((6 : Int32) + (2 : Int32)))]) rfl k) ?_
      show own_End p e below s _ _ _ (T27.setTop (mkF m 78 #[.val (.int p1), .val (.int ((6 : Int32) + (2 : Int32)))] []))
      rw [show ((6 : Int32) + (2 : Int32)) = (8 : Int32) by decide]
      show own_End p e below s _ _ _ (T27.setTop (mkF m 78 #[.val (.int p1), .val (.int (8 : Int32))] []))
      refine own_go (fun t k => XS.goto X27.here hx rfl (pc0 := 78) (pc' := 45) rfl (hb hby d1_78) (by decide) (by decide) k) ?_
      show own_End p e below s _ _ _ (T27.setTop (mkF m 45 #[.val (.int p1), .val (.int (8 : Int32))] []))
      exact JL_8 T27 X27 e27 (by omega)
    refine own_go (fun t k => XS.icmpNo X27.here hx rfl (hb hby d1_59) rfl (own_ltN (k := 880) (by decide) q_lo) k) ?_
    show own_End p e below s _ _ _ (T27.setTop (mkF m 62 #[.val (.int p1), .val (.int (6 : Int32))] []))
    refine own_go (fun t k => XS.iloadN X27.here hx rfl (hb hby d1_62) rfl k) ?_
    show own_End p e below s _ _ _ (T27.setTop (mkF m 63 #[.val (.int p1), .val (.int (6 : Int32))] [(.int p1)]))
    obtain ⟨T28, X28, e28, st28⟩ := getS X27 hx hZ (host := "") hown (hw _ (List.mem_of_getElem? (i := 22) rfl)) Via.refl e27 S0 (g := (mkF m 63 #[.val (.int p1), .val (.int (6 : Int32))] [(.int p1)])) rfl (hb hby d1_63)
    refine own_go st28 ?_
    show own_End p e below s _ _ _ (T28.setTop (mkF m 66 #[.val (.int p1), .val (.int (6 : Int32))] [(.ref sa), (.int p1)]))
    refine own_go (fun t k => XS.iloadN X28.here hx rfl (hb hby d1_66) rfl k) ?_
    show own_End p e below s _ _ _ (T28.setTop (mkF m 67 #[.val (.int p1), .val (.int (6 : Int32))] [(.int (6 : Int32)), (.ref sa), (.int p1)]))
    refine own_go (fun t k => XS.iconst X28.here hx rfl (hb hby d1_67) k) ?_
    show own_End p e below s _ _ _ (T28.setTop (mkF m 68 #[.val (.int p1), .val (.int (6 : Int32))] [(.int (1 : Int32)), (.int (6 : Int32)), (.ref sa), (.int p1)]))
    refine own_go (fun t k => XS.iadd X28.here hx rfl (hb hby d1_68) rfl k) ?_
    show own_End p e below s _ _ _ (T28.setTop (mkF m 69 #[.val (.int p1), .val (.int (6 : Int32))] [(.int ((6 : Int32) + (1 : Int32))), (.ref sa), (.int p1)]))
    rw [show ((6 : Int32) + (1 : Int32)) = (7 : Int32) by decide]
    show own_End p e below s _ _ _ (T28.setTop (mkF m 69 #[.val (.int p1), .val (.int (6 : Int32))] [(.int (7 : Int32)), (.ref sa), (.int p1)]))
    refine own_go (own_fldI X28 hx hZ e28 F0 (j := (7 : Int32)) (v := (.int (893 : Int32))) 7 (by decide) (by decide) rfl (pc := 69) (Ls := #[.val (.int p1), .val (.int (6 : Int32))]) (rest := [(.int p1)]) (hb hby d1_69)) ?_
    show own_End p e below s _ _ _ (T28.setTop (mkF m 70 #[.val (.int p1), .val (.int (6 : Int32))] [(.int (893 : Int32)), (.int p1)]))
    by_cases q_hi : 893 < p1.toInt
    ·
      refine own_go (fun t k => XS.icmpYes X28.here hx rfl (pc0 := 70) (pc' := 75) rfl (hb hby d1_70) rfl (own_gtY (k := 893) (by decide) q_hi) (by decide) (by decide) k) ?_
      show own_End p e below s _ _ _ (T28.setTop (mkF m 75 #[.val (.int p1), .val (.int (6 : Int32))] []))
      refine own_go (fun t k => XS.iinc X28.here hx rfl (hb hby d1_75) rfl (l' := #[.val (.int p1), .val (.int ((6 : Int32) + (2 : Int32)))]) rfl k) ?_
      show own_End p e below s _ _ _ (T28.setTop (mkF m 78 #[.val (.int p1), .val (.int ((6 : Int32) + (2 : Int32)))] []))
      rw [show ((6 : Int32) + (2 : Int32)) = (8 : Int32) by decide]
      show own_End p e below s _ _ _ (T28.setTop (mkF m 78 #[.val (.int p1), .val (.int (8 : Int32))] []))
      refine own_go (fun t k => XS.goto X28.here hx rfl (pc0 := 78) (pc' := 45) rfl (hb hby d1_78) (by decide) (by decide) k) ?_
      show own_End p e below s _ _ _ (T28.setTop (mkF m 45 #[.val (.int p1), .val (.int (8 : Int32))] []))
      exact JL_8 T28 X28 e28 (by omega)
    refine own_go (fun t k => XS.icmpNo X28.here hx rfl (hb hby d1_70) rfl (own_gtN (k := 893) (by decide) q_hi) k) ?_
    show own_End p e below s _ _ _ (T28.setTop (mkF m 73 #[.val (.int p1), .val (.int (6 : Int32))] []))
    refine own_go (fun t k => XS.iconst X28.here hx rfl (hb hby d1_73) k) ?_
    show own_End p e below s _ _ _ (T28.setTop (mkF m 74 #[.val (.int p1), .val (.int (6 : Int32))] [(.int (1 : Int32))]))
    exact own_retN X28 hx (t := .boolean) hret hlk (by simp) (hb hby d1_74) ⟨own_yes (by omega), N0, e28⟩ (by decide) (by decide)
  intro JL_6
  show own_End p e below s _ _ _ (s0.setTop (mkF m 0 #[.val (.int p1), .unset] []))
  refine own_join (fun G => ∀ T, Stand p l e ({ frames := 0, cells := 0, slots := 0, locals := 0 } : Room) s m #[(.int p1)] below meth c T [] 0 0 → T.heap = h0 → (128 ≤ p1.toInt ∧ ¬ ((192 ≤ p1.toInt ∧ p1.toInt ≤ 214) ∨ (216 ≤ p1.toInt ∧ p1.toInt ≤ 246))) → G (T.setTop (mkF m 45 #[.val (.int p1), .val (.int (4 : Int32))] []))) ?_ ?_
  ·
    intro TL XL eL jL
    show own_End p e below s _ _ _ (TL.setTop (mkF m 45 #[.val (.int p1), .val (.int (4 : Int32))] []))
    refine own_go (fun t k => XS.iloadN XL.here hx rfl (hb hby d1_45) rfl k) ?_
    show own_End p e below s _ _ _ (TL.setTop (mkF m 46 #[.val (.int p1), .val (.int (4 : Int32))] [(.int (4 : Int32))]))
    obtain ⟨T29, X29, e29, st29⟩ := getS XL hx hZ (host := "") hown (hw _ (List.mem_of_getElem? (i := 22) rfl)) Via.refl eL S0 (g := (mkF m 46 #[.val (.int p1), .val (.int (4 : Int32))] [(.int (4 : Int32))])) rfl (hb hby d1_46)
    refine own_go st29 ?_
    show own_End p e below s _ _ _ (T29.setTop (mkF m 49 #[.val (.int p1), .val (.int (4 : Int32))] [(.ref sa), (.int (4 : Int32))]))
    refine own_go (own_flen X29 hx hZ e29 F0 (pc := 49) (Ls := #[.val (.int p1), .val (.int (4 : Int32))]) (rest := [(.int (4 : Int32))]) (hb hby d1_49)) ?_
    show own_End p e below s _ _ _ (T29.setTop (mkF m 50 #[.val (.int p1), .val (.int (4 : Int32))] [(.int (24 : Int32)), (.int (4 : Int32))]))
    refine own_go (fun t k => XS.icmpNo X29.here hx rfl (hb hby d1_50) rfl (by decide) k) ?_
    show own_End p e below s _ _ _ (T29.setTop (mkF m 53 #[.val (.int p1), .val (.int (4 : Int32))] []))
    refine own_go (fun t k => XS.iloadN X29.here hx rfl (hb hby d1_53) rfl k) ?_
    show own_End p e below s _ _ _ (T29.setTop (mkF m 54 #[.val (.int p1), .val (.int (4 : Int32))] [(.int p1)]))
    obtain ⟨T30, X30, e30, st30⟩ := getS X29 hx hZ (host := "") hown (hw _ (List.mem_of_getElem? (i := 22) rfl)) Via.refl e29 S0 (g := (mkF m 54 #[.val (.int p1), .val (.int (4 : Int32))] [(.int p1)])) rfl (hb hby d1_54)
    refine own_go st30 ?_
    show own_End p e below s _ _ _ (T30.setTop (mkF m 57 #[.val (.int p1), .val (.int (4 : Int32))] [(.ref sa), (.int p1)]))
    refine own_go (fun t k => XS.iloadN X30.here hx rfl (hb hby d1_57) rfl k) ?_
    show own_End p e below s _ _ _ (T30.setTop (mkF m 58 #[.val (.int p1), .val (.int (4 : Int32))] [(.int (4 : Int32)), (.ref sa), (.int p1)]))
    refine own_go (own_fldI X30 hx hZ e30 F0 (j := (4 : Int32)) (v := (.int (248 : Int32))) 4 (by decide) (by decide) rfl (pc := 58) (Ls := #[.val (.int p1), .val (.int (4 : Int32))]) (rest := [(.int p1)]) (hb hby d1_58)) ?_
    show own_End p e below s _ _ _ (T30.setTop (mkF m 59 #[.val (.int p1), .val (.int (4 : Int32))] [(.int (248 : Int32)), (.int p1)]))
    by_cases q_lo : p1.toInt < 248
    ·
      refine own_go (fun t k => XS.icmpYes X30.here hx rfl (pc0 := 59) (pc' := 75) rfl (hb hby d1_59) rfl (own_ltY (k := 248) (by decide) q_lo) (by decide) (by decide) k) ?_
      show own_End p e below s _ _ _ (T30.setTop (mkF m 75 #[.val (.int p1), .val (.int (4 : Int32))] []))
      refine own_go (fun t k => XS.iinc X30.here hx rfl (hb hby d1_75) rfl (l' := #[.val (.int p1), .val (.int ((4 : Int32) + (2 : Int32)))]) rfl k) ?_
      show own_End p e below s _ _ _ (T30.setTop (mkF m 78 #[.val (.int p1), .val (.int ((4 : Int32) + (2 : Int32)))] []))
      rw [show ((4 : Int32) + (2 : Int32)) = (6 : Int32) by decide]
      show own_End p e below s _ _ _ (T30.setTop (mkF m 78 #[.val (.int p1), .val (.int (6 : Int32))] []))
      refine own_go (fun t k => XS.goto X30.here hx rfl (pc0 := 78) (pc' := 45) rfl (hb hby d1_78) (by decide) (by decide) k) ?_
      show own_End p e below s _ _ _ (T30.setTop (mkF m 45 #[.val (.int p1), .val (.int (6 : Int32))] []))
      exact JL_6 T30 X30 e30 (by omega)
    refine own_go (fun t k => XS.icmpNo X30.here hx rfl (hb hby d1_59) rfl (own_ltN (k := 248) (by decide) q_lo) k) ?_
    show own_End p e below s _ _ _ (T30.setTop (mkF m 62 #[.val (.int p1), .val (.int (4 : Int32))] []))
    refine own_go (fun t k => XS.iloadN X30.here hx rfl (hb hby d1_62) rfl k) ?_
    show own_End p e below s _ _ _ (T30.setTop (mkF m 63 #[.val (.int p1), .val (.int (4 : Int32))] [(.int p1)]))
    obtain ⟨T31, X31, e31, st31⟩ := getS X30 hx hZ (host := "") hown (hw _ (List.mem_of_getElem? (i := 22) rfl)) Via.refl e30 S0 (g := (mkF m 63 #[.val (.int p1), .val (.int (4 : Int32))] [(.int p1)])) rfl (hb hby d1_63)
    refine own_go st31 ?_
    show own_End p e below s _ _ _ (T31.setTop (mkF m 66 #[.val (.int p1), .val (.int (4 : Int32))] [(.ref sa), (.int p1)]))
    refine own_go (fun t k => XS.iloadN X31.here hx rfl (hb hby d1_66) rfl k) ?_
    show own_End p e below s _ _ _ (T31.setTop (mkF m 67 #[.val (.int p1), .val (.int (4 : Int32))] [(.int (4 : Int32)), (.ref sa), (.int p1)]))
    refine own_go (fun t k => XS.iconst X31.here hx rfl (hb hby d1_67) k) ?_
    show own_End p e below s _ _ _ (T31.setTop (mkF m 68 #[.val (.int p1), .val (.int (4 : Int32))] [(.int (1 : Int32)), (.int (4 : Int32)), (.ref sa), (.int p1)]))
    refine own_go (fun t k => XS.iadd X31.here hx rfl (hb hby d1_68) rfl k) ?_
    show own_End p e below s _ _ _ (T31.setTop (mkF m 69 #[.val (.int p1), .val (.int (4 : Int32))] [(.int ((4 : Int32) + (1 : Int32))), (.ref sa), (.int p1)]))
    rw [show ((4 : Int32) + (1 : Int32)) = (5 : Int32) by decide]
    show own_End p e below s _ _ _ (T31.setTop (mkF m 69 #[.val (.int p1), .val (.int (4 : Int32))] [(.int (5 : Int32)), (.ref sa), (.int p1)]))
    refine own_go (own_fldI X31 hx hZ e31 F0 (j := (5 : Int32)) (v := (.int (767 : Int32))) 5 (by decide) (by decide) rfl (pc := 69) (Ls := #[.val (.int p1), .val (.int (4 : Int32))]) (rest := [(.int p1)]) (hb hby d1_69)) ?_
    show own_End p e below s _ _ _ (T31.setTop (mkF m 70 #[.val (.int p1), .val (.int (4 : Int32))] [(.int (767 : Int32)), (.int p1)]))
    by_cases q_hi : 767 < p1.toInt
    ·
      refine own_go (fun t k => XS.icmpYes X31.here hx rfl (pc0 := 70) (pc' := 75) rfl (hb hby d1_70) rfl (own_gtY (k := 767) (by decide) q_hi) (by decide) (by decide) k) ?_
      show own_End p e below s _ _ _ (T31.setTop (mkF m 75 #[.val (.int p1), .val (.int (4 : Int32))] []))
      refine own_go (fun t k => XS.iinc X31.here hx rfl (hb hby d1_75) rfl (l' := #[.val (.int p1), .val (.int ((4 : Int32) + (2 : Int32)))]) rfl k) ?_
      show own_End p e below s _ _ _ (T31.setTop (mkF m 78 #[.val (.int p1), .val (.int ((4 : Int32) + (2 : Int32)))] []))
      rw [show ((4 : Int32) + (2 : Int32)) = (6 : Int32) by decide]
      show own_End p e below s _ _ _ (T31.setTop (mkF m 78 #[.val (.int p1), .val (.int (6 : Int32))] []))
      refine own_go (fun t k => XS.goto X31.here hx rfl (pc0 := 78) (pc' := 45) rfl (hb hby d1_78) (by decide) (by decide) k) ?_
      show own_End p e below s _ _ _ (T31.setTop (mkF m 45 #[.val (.int p1), .val (.int (6 : Int32))] []))
      exact JL_6 T31 X31 e31 (by omega)
    refine own_go (fun t k => XS.icmpNo X31.here hx rfl (hb hby d1_70) rfl (own_gtN (k := 767) (by decide) q_hi) k) ?_
    show own_End p e below s _ _ _ (T31.setTop (mkF m 73 #[.val (.int p1), .val (.int (4 : Int32))] []))
    refine own_go (fun t k => XS.iconst X31.here hx rfl (hb hby d1_73) k) ?_
    show own_End p e below s _ _ _ (T31.setTop (mkF m 74 #[.val (.int p1), .val (.int (4 : Int32))] [(.int (1 : Int32))]))
    exact own_retN X31 hx (t := .boolean) hret hlk (by simp) (hb hby d1_74) ⟨own_yes (by omega), N0, e31⟩ (by decide) (by decide)
  intro JL_4
  show own_End p e below s _ _ _ (s0.setTop (mkF m 0 #[.val (.int p1), .unset] []))
  refine own_join (fun G => ∀ T, Stand p l e ({ frames := 0, cells := 0, slots := 0, locals := 0 } : Room) s m #[(.int p1)] below meth c T [] 0 0 → T.heap = h0 → (128 ≤ p1.toInt ∧ ¬ ((192 ≤ p1.toInt ∧ p1.toInt ≤ 214))) → G (T.setTop (mkF m 45 #[.val (.int p1), .val (.int (2 : Int32))] []))) ?_ ?_
  ·
    intro TL XL eL jL
    show own_End p e below s _ _ _ (TL.setTop (mkF m 45 #[.val (.int p1), .val (.int (2 : Int32))] []))
    refine own_go (fun t k => XS.iloadN XL.here hx rfl (hb hby d1_45) rfl k) ?_
    show own_End p e below s _ _ _ (TL.setTop (mkF m 46 #[.val (.int p1), .val (.int (2 : Int32))] [(.int (2 : Int32))]))
    obtain ⟨T32, X32, e32, st32⟩ := getS XL hx hZ (host := "") hown (hw _ (List.mem_of_getElem? (i := 22) rfl)) Via.refl eL S0 (g := (mkF m 46 #[.val (.int p1), .val (.int (2 : Int32))] [(.int (2 : Int32))])) rfl (hb hby d1_46)
    refine own_go st32 ?_
    show own_End p e below s _ _ _ (T32.setTop (mkF m 49 #[.val (.int p1), .val (.int (2 : Int32))] [(.ref sa), (.int (2 : Int32))]))
    refine own_go (own_flen X32 hx hZ e32 F0 (pc := 49) (Ls := #[.val (.int p1), .val (.int (2 : Int32))]) (rest := [(.int (2 : Int32))]) (hb hby d1_49)) ?_
    show own_End p e below s _ _ _ (T32.setTop (mkF m 50 #[.val (.int p1), .val (.int (2 : Int32))] [(.int (24 : Int32)), (.int (2 : Int32))]))
    refine own_go (fun t k => XS.icmpNo X32.here hx rfl (hb hby d1_50) rfl (by decide) k) ?_
    show own_End p e below s _ _ _ (T32.setTop (mkF m 53 #[.val (.int p1), .val (.int (2 : Int32))] []))
    refine own_go (fun t k => XS.iloadN X32.here hx rfl (hb hby d1_53) rfl k) ?_
    show own_End p e below s _ _ _ (T32.setTop (mkF m 54 #[.val (.int p1), .val (.int (2 : Int32))] [(.int p1)]))
    obtain ⟨T33, X33, e33, st33⟩ := getS X32 hx hZ (host := "") hown (hw _ (List.mem_of_getElem? (i := 22) rfl)) Via.refl e32 S0 (g := (mkF m 54 #[.val (.int p1), .val (.int (2 : Int32))] [(.int p1)])) rfl (hb hby d1_54)
    refine own_go st33 ?_
    show own_End p e below s _ _ _ (T33.setTop (mkF m 57 #[.val (.int p1), .val (.int (2 : Int32))] [(.ref sa), (.int p1)]))
    refine own_go (fun t k => XS.iloadN X33.here hx rfl (hb hby d1_57) rfl k) ?_
    show own_End p e below s _ _ _ (T33.setTop (mkF m 58 #[.val (.int p1), .val (.int (2 : Int32))] [(.int (2 : Int32)), (.ref sa), (.int p1)]))
    refine own_go (own_fldI X33 hx hZ e33 F0 (j := (2 : Int32)) (v := (.int (216 : Int32))) 2 (by decide) (by decide) rfl (pc := 58) (Ls := #[.val (.int p1), .val (.int (2 : Int32))]) (rest := [(.int p1)]) (hb hby d1_58)) ?_
    show own_End p e below s _ _ _ (T33.setTop (mkF m 59 #[.val (.int p1), .val (.int (2 : Int32))] [(.int (216 : Int32)), (.int p1)]))
    by_cases q_lo : p1.toInt < 216
    ·
      refine own_go (fun t k => XS.icmpYes X33.here hx rfl (pc0 := 59) (pc' := 75) rfl (hb hby d1_59) rfl (own_ltY (k := 216) (by decide) q_lo) (by decide) (by decide) k) ?_
      show own_End p e below s _ _ _ (T33.setTop (mkF m 75 #[.val (.int p1), .val (.int (2 : Int32))] []))
      refine own_go (fun t k => XS.iinc X33.here hx rfl (hb hby d1_75) rfl (l' := #[.val (.int p1), .val (.int ((2 : Int32) + (2 : Int32)))]) rfl k) ?_
      show own_End p e below s _ _ _ (T33.setTop (mkF m 78 #[.val (.int p1), .val (.int ((2 : Int32) + (2 : Int32)))] []))
      rw [show ((2 : Int32) + (2 : Int32)) = (4 : Int32) by decide]
      show own_End p e below s _ _ _ (T33.setTop (mkF m 78 #[.val (.int p1), .val (.int (4 : Int32))] []))
      refine own_go (fun t k => XS.goto X33.here hx rfl (pc0 := 78) (pc' := 45) rfl (hb hby d1_78) (by decide) (by decide) k) ?_
      show own_End p e below s _ _ _ (T33.setTop (mkF m 45 #[.val (.int p1), .val (.int (4 : Int32))] []))
      exact JL_4 T33 X33 e33 (by omega)
    refine own_go (fun t k => XS.icmpNo X33.here hx rfl (hb hby d1_59) rfl (own_ltN (k := 216) (by decide) q_lo) k) ?_
    show own_End p e below s _ _ _ (T33.setTop (mkF m 62 #[.val (.int p1), .val (.int (2 : Int32))] []))
    refine own_go (fun t k => XS.iloadN X33.here hx rfl (hb hby d1_62) rfl k) ?_
    show own_End p e below s _ _ _ (T33.setTop (mkF m 63 #[.val (.int p1), .val (.int (2 : Int32))] [(.int p1)]))
    obtain ⟨T34, X34, e34, st34⟩ := getS X33 hx hZ (host := "") hown (hw _ (List.mem_of_getElem? (i := 22) rfl)) Via.refl e33 S0 (g := (mkF m 63 #[.val (.int p1), .val (.int (2 : Int32))] [(.int p1)])) rfl (hb hby d1_63)
    refine own_go st34 ?_
    show own_End p e below s _ _ _ (T34.setTop (mkF m 66 #[.val (.int p1), .val (.int (2 : Int32))] [(.ref sa), (.int p1)]))
    refine own_go (fun t k => XS.iloadN X34.here hx rfl (hb hby d1_66) rfl k) ?_
    show own_End p e below s _ _ _ (T34.setTop (mkF m 67 #[.val (.int p1), .val (.int (2 : Int32))] [(.int (2 : Int32)), (.ref sa), (.int p1)]))
    refine own_go (fun t k => XS.iconst X34.here hx rfl (hb hby d1_67) k) ?_
    show own_End p e below s _ _ _ (T34.setTop (mkF m 68 #[.val (.int p1), .val (.int (2 : Int32))] [(.int (1 : Int32)), (.int (2 : Int32)), (.ref sa), (.int p1)]))
    refine own_go (fun t k => XS.iadd X34.here hx rfl (hb hby d1_68) rfl k) ?_
    show own_End p e below s _ _ _ (T34.setTop (mkF m 69 #[.val (.int p1), .val (.int (2 : Int32))] [(.int ((2 : Int32) + (1 : Int32))), (.ref sa), (.int p1)]))
    rw [show ((2 : Int32) + (1 : Int32)) = (3 : Int32) by decide]
    show own_End p e below s _ _ _ (T34.setTop (mkF m 69 #[.val (.int p1), .val (.int (2 : Int32))] [(.int (3 : Int32)), (.ref sa), (.int p1)]))
    refine own_go (own_fldI X34 hx hZ e34 F0 (j := (3 : Int32)) (v := (.int (246 : Int32))) 3 (by decide) (by decide) rfl (pc := 69) (Ls := #[.val (.int p1), .val (.int (2 : Int32))]) (rest := [(.int p1)]) (hb hby d1_69)) ?_
    show own_End p e below s _ _ _ (T34.setTop (mkF m 70 #[.val (.int p1), .val (.int (2 : Int32))] [(.int (246 : Int32)), (.int p1)]))
    by_cases q_hi : 246 < p1.toInt
    ·
      refine own_go (fun t k => XS.icmpYes X34.here hx rfl (pc0 := 70) (pc' := 75) rfl (hb hby d1_70) rfl (own_gtY (k := 246) (by decide) q_hi) (by decide) (by decide) k) ?_
      show own_End p e below s _ _ _ (T34.setTop (mkF m 75 #[.val (.int p1), .val (.int (2 : Int32))] []))
      refine own_go (fun t k => XS.iinc X34.here hx rfl (hb hby d1_75) rfl (l' := #[.val (.int p1), .val (.int ((2 : Int32) + (2 : Int32)))]) rfl k) ?_
      show own_End p e below s _ _ _ (T34.setTop (mkF m 78 #[.val (.int p1), .val (.int ((2 : Int32) + (2 : Int32)))] []))
      rw [show ((2 : Int32) + (2 : Int32)) = (4 : Int32) by decide]
      show own_End p e below s _ _ _ (T34.setTop (mkF m 78 #[.val (.int p1), .val (.int (4 : Int32))] []))
      refine own_go (fun t k => XS.goto X34.here hx rfl (pc0 := 78) (pc' := 45) rfl (hb hby d1_78) (by decide) (by decide) k) ?_
      show own_End p e below s _ _ _ (T34.setTop (mkF m 45 #[.val (.int p1), .val (.int (4 : Int32))] []))
      exact JL_4 T34 X34 e34 (by omega)
    refine own_go (fun t k => XS.icmpNo X34.here hx rfl (hb hby d1_70) rfl (own_gtN (k := 246) (by decide) q_hi) k) ?_
    show own_End p e below s _ _ _ (T34.setTop (mkF m 73 #[.val (.int p1), .val (.int (2 : Int32))] []))
    refine own_go (fun t k => XS.iconst X34.here hx rfl (hb hby d1_73) k) ?_
    show own_End p e below s _ _ _ (T34.setTop (mkF m 74 #[.val (.int p1), .val (.int (2 : Int32))] [(.int (1 : Int32))]))
    exact own_retN X34 hx (t := .boolean) hret hlk (by simp) (hb hby d1_74) ⟨own_yes (by omega), N0, e34⟩ (by decide) (by decide)
  intro JL_2
  show own_End p e below s _ _ _ (s0.setTop (mkF m 0 #[.val (.int p1), .unset] []))
  refine own_join (fun G => ∀ T, Stand p l e ({ frames := 0, cells := 0, slots := 0, locals := 0 } : Room) s m #[(.int p1)] below meth c T [] 0 0 → T.heap = h0 → (128 ≤ p1.toInt) → G (T.setTop (mkF m 45 #[.val (.int p1), .val (.int (0 : Int32))] []))) ?_ ?_
  ·
    intro TL XL eL jL
    show own_End p e below s _ _ _ (TL.setTop (mkF m 45 #[.val (.int p1), .val (.int (0 : Int32))] []))
    refine own_go (fun t k => XS.iloadN XL.here hx rfl (hb hby d1_45) rfl k) ?_
    show own_End p e below s _ _ _ (TL.setTop (mkF m 46 #[.val (.int p1), .val (.int (0 : Int32))] [(.int (0 : Int32))]))
    obtain ⟨T35, X35, e35, st35⟩ := getS XL hx hZ (host := "") hown (hw _ (List.mem_of_getElem? (i := 22) rfl)) Via.refl eL S0 (g := (mkF m 46 #[.val (.int p1), .val (.int (0 : Int32))] [(.int (0 : Int32))])) rfl (hb hby d1_46)
    refine own_go st35 ?_
    show own_End p e below s _ _ _ (T35.setTop (mkF m 49 #[.val (.int p1), .val (.int (0 : Int32))] [(.ref sa), (.int (0 : Int32))]))
    refine own_go (own_flen X35 hx hZ e35 F0 (pc := 49) (Ls := #[.val (.int p1), .val (.int (0 : Int32))]) (rest := [(.int (0 : Int32))]) (hb hby d1_49)) ?_
    show own_End p e below s _ _ _ (T35.setTop (mkF m 50 #[.val (.int p1), .val (.int (0 : Int32))] [(.int (24 : Int32)), (.int (0 : Int32))]))
    refine own_go (fun t k => XS.icmpNo X35.here hx rfl (hb hby d1_50) rfl (by decide) k) ?_
    show own_End p e below s _ _ _ (T35.setTop (mkF m 53 #[.val (.int p1), .val (.int (0 : Int32))] []))
    refine own_go (fun t k => XS.iloadN X35.here hx rfl (hb hby d1_53) rfl k) ?_
    show own_End p e below s _ _ _ (T35.setTop (mkF m 54 #[.val (.int p1), .val (.int (0 : Int32))] [(.int p1)]))
    obtain ⟨T36, X36, e36, st36⟩ := getS X35 hx hZ (host := "") hown (hw _ (List.mem_of_getElem? (i := 22) rfl)) Via.refl e35 S0 (g := (mkF m 54 #[.val (.int p1), .val (.int (0 : Int32))] [(.int p1)])) rfl (hb hby d1_54)
    refine own_go st36 ?_
    show own_End p e below s _ _ _ (T36.setTop (mkF m 57 #[.val (.int p1), .val (.int (0 : Int32))] [(.ref sa), (.int p1)]))
    refine own_go (fun t k => XS.iloadN X36.here hx rfl (hb hby d1_57) rfl k) ?_
    show own_End p e below s _ _ _ (T36.setTop (mkF m 58 #[.val (.int p1), .val (.int (0 : Int32))] [(.int (0 : Int32)), (.ref sa), (.int p1)]))
    refine own_go (own_fldI X36 hx hZ e36 F0 (j := (0 : Int32)) (v := (.int (192 : Int32))) 0 (by decide) (by decide) rfl (pc := 58) (Ls := #[.val (.int p1), .val (.int (0 : Int32))]) (rest := [(.int p1)]) (hb hby d1_58)) ?_
    show own_End p e below s _ _ _ (T36.setTop (mkF m 59 #[.val (.int p1), .val (.int (0 : Int32))] [(.int (192 : Int32)), (.int p1)]))
    by_cases q_lo : p1.toInt < 192
    ·
      refine own_go (fun t k => XS.icmpYes X36.here hx rfl (pc0 := 59) (pc' := 75) rfl (hb hby d1_59) rfl (own_ltY (k := 192) (by decide) q_lo) (by decide) (by decide) k) ?_
      show own_End p e below s _ _ _ (T36.setTop (mkF m 75 #[.val (.int p1), .val (.int (0 : Int32))] []))
      refine own_go (fun t k => XS.iinc X36.here hx rfl (hb hby d1_75) rfl (l' := #[.val (.int p1), .val (.int ((0 : Int32) + (2 : Int32)))]) rfl k) ?_
      show own_End p e below s _ _ _ (T36.setTop (mkF m 78 #[.val (.int p1), .val (.int ((0 : Int32) + (2 : Int32)))] []))
      rw [show ((0 : Int32) + (2 : Int32)) = (2 : Int32) by decide]
      show own_End p e below s _ _ _ (T36.setTop (mkF m 78 #[.val (.int p1), .val (.int (2 : Int32))] []))
      refine own_go (fun t k => XS.goto X36.here hx rfl (pc0 := 78) (pc' := 45) rfl (hb hby d1_78) (by decide) (by decide) k) ?_
      show own_End p e below s _ _ _ (T36.setTop (mkF m 45 #[.val (.int p1), .val (.int (2 : Int32))] []))
      exact JL_2 T36 X36 e36 (by omega)
    refine own_go (fun t k => XS.icmpNo X36.here hx rfl (hb hby d1_59) rfl (own_ltN (k := 192) (by decide) q_lo) k) ?_
    show own_End p e below s _ _ _ (T36.setTop (mkF m 62 #[.val (.int p1), .val (.int (0 : Int32))] []))
    refine own_go (fun t k => XS.iloadN X36.here hx rfl (hb hby d1_62) rfl k) ?_
    show own_End p e below s _ _ _ (T36.setTop (mkF m 63 #[.val (.int p1), .val (.int (0 : Int32))] [(.int p1)]))
    obtain ⟨T37, X37, e37, st37⟩ := getS X36 hx hZ (host := "") hown (hw _ (List.mem_of_getElem? (i := 22) rfl)) Via.refl e36 S0 (g := (mkF m 63 #[.val (.int p1), .val (.int (0 : Int32))] [(.int p1)])) rfl (hb hby d1_63)
    refine own_go st37 ?_
    show own_End p e below s _ _ _ (T37.setTop (mkF m 66 #[.val (.int p1), .val (.int (0 : Int32))] [(.ref sa), (.int p1)]))
    refine own_go (fun t k => XS.iloadN X37.here hx rfl (hb hby d1_66) rfl k) ?_
    show own_End p e below s _ _ _ (T37.setTop (mkF m 67 #[.val (.int p1), .val (.int (0 : Int32))] [(.int (0 : Int32)), (.ref sa), (.int p1)]))
    refine own_go (fun t k => XS.iconst X37.here hx rfl (hb hby d1_67) k) ?_
    show own_End p e below s _ _ _ (T37.setTop (mkF m 68 #[.val (.int p1), .val (.int (0 : Int32))] [(.int (1 : Int32)), (.int (0 : Int32)), (.ref sa), (.int p1)]))
    refine own_go (fun t k => XS.iadd X37.here hx rfl (hb hby d1_68) rfl k) ?_
    show own_End p e below s _ _ _ (T37.setTop (mkF m 69 #[.val (.int p1), .val (.int (0 : Int32))] [(.int ((0 : Int32) + (1 : Int32))), (.ref sa), (.int p1)]))
    rw [show ((0 : Int32) + (1 : Int32)) = (1 : Int32) by decide]
    show own_End p e below s _ _ _ (T37.setTop (mkF m 69 #[.val (.int p1), .val (.int (0 : Int32))] [(.int (1 : Int32)), (.ref sa), (.int p1)]))
    refine own_go (own_fldI X37 hx hZ e37 F0 (j := (1 : Int32)) (v := (.int (214 : Int32))) 1 (by decide) (by decide) rfl (pc := 69) (Ls := #[.val (.int p1), .val (.int (0 : Int32))]) (rest := [(.int p1)]) (hb hby d1_69)) ?_
    show own_End p e below s _ _ _ (T37.setTop (mkF m 70 #[.val (.int p1), .val (.int (0 : Int32))] [(.int (214 : Int32)), (.int p1)]))
    by_cases q_hi : 214 < p1.toInt
    ·
      refine own_go (fun t k => XS.icmpYes X37.here hx rfl (pc0 := 70) (pc' := 75) rfl (hb hby d1_70) rfl (own_gtY (k := 214) (by decide) q_hi) (by decide) (by decide) k) ?_
      show own_End p e below s _ _ _ (T37.setTop (mkF m 75 #[.val (.int p1), .val (.int (0 : Int32))] []))
      refine own_go (fun t k => XS.iinc X37.here hx rfl (hb hby d1_75) rfl (l' := #[.val (.int p1), .val (.int ((0 : Int32) + (2 : Int32)))]) rfl k) ?_
      show own_End p e below s _ _ _ (T37.setTop (mkF m 78 #[.val (.int p1), .val (.int ((0 : Int32) + (2 : Int32)))] []))
      rw [show ((0 : Int32) + (2 : Int32)) = (2 : Int32) by decide]
      show own_End p e below s _ _ _ (T37.setTop (mkF m 78 #[.val (.int p1), .val (.int (2 : Int32))] []))
      refine own_go (fun t k => XS.goto X37.here hx rfl (pc0 := 78) (pc' := 45) rfl (hb hby d1_78) (by decide) (by decide) k) ?_
      show own_End p e below s _ _ _ (T37.setTop (mkF m 45 #[.val (.int p1), .val (.int (2 : Int32))] []))
      exact JL_2 T37 X37 e37 (by omega)
    refine own_go (fun t k => XS.icmpNo X37.here hx rfl (hb hby d1_70) rfl (own_gtN (k := 214) (by decide) q_hi) k) ?_
    show own_End p e below s _ _ _ (T37.setTop (mkF m 73 #[.val (.int p1), .val (.int (0 : Int32))] []))
    refine own_go (fun t k => XS.iconst X37.here hx rfl (hb hby d1_73) k) ?_
    show own_End p e below s _ _ _ (T37.setTop (mkF m 74 #[.val (.int p1), .val (.int (0 : Int32))] [(.int (1 : Int32))]))
    exact own_retN X37 hx (t := .boolean) hret hlk (by simp) (hb hby d1_74) ⟨own_yes (by omega), N0, e37⟩ (by decide) (by decide)
  intro JL_0
  show own_End p e below s _ _ _ (s0.setTop (mkF m 0 #[.val (.int p1), .unset] []))
  refine own_join (fun G => (p1.toInt < 128 ∧ ¬ (97 ≤ p1.toInt ∧ p1.toInt ≤ 122) ∧ ¬ (65 ≤ p1.toInt ∧ p1.toInt ≤ 90)) → G (s0.setTop (mkF m 31 #[.val (.int p1), .unset] []))) ?_ ?_
  ·
    intro j_31
    show own_End p e below s _ _ _ (s0.setTop (mkF m 31 #[.val (.int p1), .unset] []))
    refine own_go (fun t k => XS.iloadN X0.here hx rfl (hb hby d1_31) rfl k) ?_
    show own_End p e below s _ _ _ (s0.setTop (mkF m 32 #[.val (.int p1), .unset] [(.int p1)]))
    refine own_go (fun t k => XS.bipush X0.here hx rfl (hb hby d1_32) k) ?_
    show own_End p e below s _ _ _ (s0.setTop (mkF m 34 #[.val (.int p1), .unset] [(.int (95 : Int32)), (.int p1)]))
    by_cases q_34 : ¬ p1.toInt = 95
    ·
      refine own_go (fun t k => XS.icmpYes X0.here hx rfl (pc0 := 34) (pc' := 41) rfl (hb hby d1_34) rfl (own_neY (k := 95) (by decide) q_34) (by decide) (by decide) k) ?_
      show own_End p e below s _ _ _ (s0.setTop (mkF m 41 #[.val (.int p1), .unset] []))
      refine own_go (fun t k => XS.iconst X0.here hx rfl (hb hby d1_41) k) ?_
      show own_End p e below s _ _ _ (s0.setTop (mkF m 42 #[.val (.int p1), .unset] [(.int (0 : Int32))]))
      exact own_retN X0 hx (t := .boolean) hret hlk (by simp) (hb hby d1_42) ⟨own_no (by omega), N0, e0⟩ (by decide) (by decide)
    refine own_go (fun t k => XS.icmpNo X0.here hx rfl (hb hby d1_34) rfl (own_neN (k := 95) (by decide) q_34) k) ?_
    show own_End p e below s _ _ _ (s0.setTop (mkF m 37 #[.val (.int p1), .unset] []))
    refine own_go (fun t k => XS.iconst X0.here hx rfl (hb hby d1_37) k) ?_
    show own_End p e below s _ _ _ (s0.setTop (mkF m 38 #[.val (.int p1), .unset] [(.int (1 : Int32))]))
    refine own_go (fun t k => XS.goto X0.here hx rfl (pc0 := 38) (pc' := 42) rfl (hb hby d1_38) (by decide) (by decide) k) ?_
    show own_End p e below s _ _ _ (s0.setTop (mkF m 42 #[.val (.int p1), .unset] [(.int (1 : Int32))]))
    exact own_retN X0 hx (t := .boolean) hret hlk (by simp) (hb hby d1_42) ⟨own_yes (by omega), N0, e0⟩ (by decide) (by decide)
  intro J_31
  show own_End p e below s _ _ _ (s0.setTop (mkF m 0 #[.val (.int p1), .unset] []))
  refine own_join (fun G => (p1.toInt < 128 ∧ ¬ (97 ≤ p1.toInt ∧ p1.toInt ≤ 122)) → G (s0.setTop (mkF m 19 #[.val (.int p1), .unset] []))) ?_ ?_
  ·
    intro j_19
    show own_End p e below s _ _ _ (s0.setTop (mkF m 19 #[.val (.int p1), .unset] []))
    refine own_go (fun t k => XS.iloadN X0.here hx rfl (hb hby d1_19) rfl k) ?_
    show own_End p e below s _ _ _ (s0.setTop (mkF m 20 #[.val (.int p1), .unset] [(.int p1)]))
    refine own_go (fun t k => XS.bipush X0.here hx rfl (hb hby d1_20) k) ?_
    show own_End p e below s _ _ _ (s0.setTop (mkF m 22 #[.val (.int p1), .unset] [(.int (65 : Int32)), (.int p1)]))
    by_cases q_22 : p1.toInt < 65
    ·
      refine own_go (fun t k => XS.icmpYes X0.here hx rfl (pc0 := 22) (pc' := 31) rfl (hb hby d1_22) rfl (own_ltY (k := 65) (by decide) q_22) (by decide) (by decide) k) ?_
      show own_End p e below s _ _ _ (s0.setTop (mkF m 31 #[.val (.int p1), .unset] []))
      exact J_31 (by omega)
    refine own_go (fun t k => XS.icmpNo X0.here hx rfl (hb hby d1_22) rfl (own_ltN (k := 65) (by decide) q_22) k) ?_
    show own_End p e below s _ _ _ (s0.setTop (mkF m 25 #[.val (.int p1), .unset] []))
    refine own_go (fun t k => XS.iloadN X0.here hx rfl (hb hby d1_25) rfl k) ?_
    show own_End p e below s _ _ _ (s0.setTop (mkF m 26 #[.val (.int p1), .unset] [(.int p1)]))
    refine own_go (fun t k => XS.bipush X0.here hx rfl (hb hby d1_26) k) ?_
    show own_End p e below s _ _ _ (s0.setTop (mkF m 28 #[.val (.int p1), .unset] [(.int (90 : Int32)), (.int p1)]))
    by_cases q_28 : p1.toInt ≤ 90
    ·
      refine own_go (fun t k => XS.icmpYes X0.here hx rfl (pc0 := 28) (pc' := 37) rfl (hb hby d1_28) rfl (own_leY (k := 90) (by decide) q_28) (by decide) (by decide) k) ?_
      show own_End p e below s _ _ _ (s0.setTop (mkF m 37 #[.val (.int p1), .unset] []))
      refine own_go (fun t k => XS.iconst X0.here hx rfl (hb hby d1_37) k) ?_
      show own_End p e below s _ _ _ (s0.setTop (mkF m 38 #[.val (.int p1), .unset] [(.int (1 : Int32))]))
      refine own_go (fun t k => XS.goto X0.here hx rfl (pc0 := 38) (pc' := 42) rfl (hb hby d1_38) (by decide) (by decide) k) ?_
      show own_End p e below s _ _ _ (s0.setTop (mkF m 42 #[.val (.int p1), .unset] [(.int (1 : Int32))]))
      exact own_retN X0 hx (t := .boolean) hret hlk (by simp) (hb hby d1_42) ⟨own_yes (by omega), N0, e0⟩ (by decide) (by decide)
    refine own_go (fun t k => XS.icmpNo X0.here hx rfl (hb hby d1_28) rfl (own_leN (k := 90) (by decide) q_28) k) ?_
    show own_End p e below s _ _ _ (s0.setTop (mkF m 31 #[.val (.int p1), .unset] []))
    exact J_31 (by omega)
  intro J_19
  show own_End p e below s _ _ _ (s0.setTop (mkF m 0 #[.val (.int p1), .unset] []))
  refine own_go (fun t k => XS.iloadN X0.here hx rfl (hb hby d1_0) rfl k) ?_
  show own_End p e below s _ _ _ (s0.setTop (mkF m 1 #[.val (.int p1), .unset] [(.int p1)]))
  refine own_go (fun t k => XS.sipush X0.here hx rfl (hb hby d1_1) k) ?_
  show own_End p e below s _ _ _ (s0.setTop (mkF m 4 #[.val (.int p1), .unset] [(.int (128 : Int32)), (.int p1)]))
  by_cases q_4 : 128 ≤ p1.toInt
  ·
    refine own_go (fun t k => XS.icmpYes X0.here hx rfl (pc0 := 4) (pc' := 43) rfl (hb hby d1_4) rfl (own_geY (k := 128) (by decide) q_4) (by decide) (by decide) k) ?_
    show own_End p e below s _ _ _ (s0.setTop (mkF m 43 #[.val (.int p1), .unset] []))
    refine own_go (fun t k => XS.iconst X0.here hx rfl (hb hby d1_43) k) ?_
    show own_End p e below s _ _ _ (s0.setTop (mkF m 44 #[.val (.int p1), .unset] [(.int (0 : Int32))]))
    refine own_go (fun t k => XS.istoreN X0.here hx rfl (hb hby d1_44) rfl (l' := #[.val (.int p1), .val (.int (0 : Int32))]) rfl k) ?_
    show own_End p e below s _ _ _ (s0.setTop (mkF m 45 #[.val (.int p1), .val (.int (0 : Int32))] []))
    exact JL_0 s0 X0 e0 (by omega)
  refine own_go (fun t k => XS.icmpNo X0.here hx rfl (hb hby d1_4) rfl (own_geN (k := 128) (by decide) q_4) k) ?_
  show own_End p e below s _ _ _ (s0.setTop (mkF m 7 #[.val (.int p1), .unset] []))
  refine own_go (fun t k => XS.iloadN X0.here hx rfl (hb hby d1_7) rfl k) ?_
  show own_End p e below s _ _ _ (s0.setTop (mkF m 8 #[.val (.int p1), .unset] [(.int p1)]))
  refine own_go (fun t k => XS.bipush X0.here hx rfl (hb hby d1_8) k) ?_
  show own_End p e below s _ _ _ (s0.setTop (mkF m 10 #[.val (.int p1), .unset] [(.int (97 : Int32)), (.int p1)]))
  by_cases q_10 : p1.toInt < 97
  ·
    refine own_go (fun t k => XS.icmpYes X0.here hx rfl (pc0 := 10) (pc' := 19) rfl (hb hby d1_10) rfl (own_ltY (k := 97) (by decide) q_10) (by decide) (by decide) k) ?_
    show own_End p e below s _ _ _ (s0.setTop (mkF m 19 #[.val (.int p1), .unset] []))
    exact J_19 (by omega)
  refine own_go (fun t k => XS.icmpNo X0.here hx rfl (hb hby d1_10) rfl (own_ltN (k := 97) (by decide) q_10) k) ?_
  show own_End p e below s _ _ _ (s0.setTop (mkF m 13 #[.val (.int p1), .unset] []))
  refine own_go (fun t k => XS.iloadN X0.here hx rfl (hb hby d1_13) rfl k) ?_
  show own_End p e below s _ _ _ (s0.setTop (mkF m 14 #[.val (.int p1), .unset] [(.int p1)]))
  refine own_go (fun t k => XS.bipush X0.here hx rfl (hb hby d1_14) k) ?_
  show own_End p e below s _ _ _ (s0.setTop (mkF m 16 #[.val (.int p1), .unset] [(.int (122 : Int32)), (.int p1)]))
  by_cases q_16 : p1.toInt ≤ 122
  ·
    refine own_go (fun t k => XS.icmpYes X0.here hx rfl (pc0 := 16) (pc' := 37) rfl (hb hby d1_16) rfl (own_leY (k := 122) (by decide) q_16) (by decide) (by decide) k) ?_
    show own_End p e below s _ _ _ (s0.setTop (mkF m 37 #[.val (.int p1), .unset] []))
    refine own_go (fun t k => XS.iconst X0.here hx rfl (hb hby d1_37) k) ?_
    show own_End p e below s _ _ _ (s0.setTop (mkF m 38 #[.val (.int p1), .unset] [(.int (1 : Int32))]))
    refine own_go (fun t k => XS.goto X0.here hx rfl (pc0 := 38) (pc' := 42) rfl (hb hby d1_38) (by decide) (by decide) k) ?_
    show own_End p e below s _ _ _ (s0.setTop (mkF m 42 #[.val (.int p1), .unset] [(.int (1 : Int32))]))
    exact own_retN X0 hx (t := .boolean) hret hlk (by simp) (hb hby d1_42) ⟨own_yes (by omega), N0, e0⟩ (by decide) (by decide)
  refine own_go (fun t k => XS.icmpNo X0.here hx rfl (hb hby d1_16) rfl (own_leN (k := 122) (by decide) q_16) k) ?_
  show own_End p e below s _ _ _ (s0.setTop (mkF m 19 #[.val (.int p1), .unset] []))
  exact J_19 (by omega)
set_option maxRecDepth 65536 in
set_option maxHeartbeats 40000000 in
theorem rm3 (l : Launch) (Z : State) (a0 : Array Value) (hw : ∀ d ∈ tables_1, d.before a0 Z = true) (ws : List Jvm.Cond) (p1 : Int32) (p2 : Int32) (p3 : Int32) (h0 : Heap) (n0 : Nat) (Z0 : n0 ≤ h0.size) {k2 k3 : Int} (hk2 : p2.toInt = k2) (hk3 : p3.toInt = k3) :
    own_Met l (⟨"com/example/penumbra/penumbra/store/NamesIsNameStartPinLaw", "in", "(III)Z"⟩ : MethodName) method_2_code 3 (some .boolean) ws ({ frames := 0, cells := 0, slots := 0, locals := 0 } : Room) #[(.int p1), (.int p2), (.int p3)] Z h0 (fun v h L => v = some (.int (if k2 ≤ p1.toInt ∧ p1.toInt ≤ k3 then 1 else 0)) ∧ Fr n0 L ∧ h = h0) := by
  refine own_body (plainFor_of_name pn_NamesIsNameStartPinLaw) ?_
  intro p e s m below meth c s0 X0 hx hby hml hret hlk hown hnm hZ e0
  replace hown : s.vm.findClass "com/example/penumbra/penumbra/store/NamesIsNameStartPinLaw" = some m.cls := hown
  have N0 := Fr.nil n0
  have ef : entryFrame m #[(.int p1), (.int p2), (.int p3)] 3 = (mkF m 0 #[.val (.int p1), .val (.int p2), .val (.int p3)] []) := by first | (simp [entryFrame, mkF, argsToLocals, Value.category, maxLocals]; done) | rfl
  rw [ef]
  show own_End p e below s _ _ _ (s0.setTop (mkF m 0 #[.val (.int p1), .val (.int p2), .val (.int p3)] []))
  refine own_go (fun t k => XS.iloadN X0.here hx rfl (hb hby d3_0) rfl k) ?_
  show own_End p e below s _ _ _ (s0.setTop (mkF m 1 #[.val (.int p1), .val (.int p2), .val (.int p3)] [(.int p1)]))
  refine own_go (fun t k => XS.iloadN X0.here hx rfl (hb hby d3_1) rfl k) ?_
  show own_End p e below s _ _ _ (s0.setTop (mkF m 2 #[.val (.int p1), .val (.int p2), .val (.int p3)] [(.int p2), (.int p1)]))
  by_cases q_2 : p1.toInt < p2.toInt
  ·
    refine own_go (fun t k => XS.icmpYes X0.here hx rfl (pc0 := 2) (pc' := 14) rfl (hb hby d3_2) rfl (own_ltY rfl q_2) (by decide) (by decide) k) ?_
    show own_End p e below s _ _ _ (s0.setTop (mkF m 14 #[.val (.int p1), .val (.int p2), .val (.int p3)] []))
    refine own_go (fun t k => XS.iconst X0.here hx rfl (hb hby d3_14) k) ?_
    show own_End p e below s _ _ _ (s0.setTop (mkF m 15 #[.val (.int p1), .val (.int p2), .val (.int p3)] [(.int (0 : Int32))]))
    exact own_retN X0 hx (t := .boolean) hret hlk (by simp) (hb hby d3_15) ⟨own_no (by omega), N0, e0⟩ (by decide) (by decide)
  refine own_go (fun t k => XS.icmpNo X0.here hx rfl (hb hby d3_2) rfl (own_ltN rfl q_2) k) ?_
  show own_End p e below s _ _ _ (s0.setTop (mkF m 5 #[.val (.int p1), .val (.int p2), .val (.int p3)] []))
  refine own_go (fun t k => XS.iloadN X0.here hx rfl (hb hby d3_5) rfl k) ?_
  show own_End p e below s _ _ _ (s0.setTop (mkF m 6 #[.val (.int p1), .val (.int p2), .val (.int p3)] [(.int p1)]))
  refine own_go (fun t k => XS.iloadN X0.here hx rfl (hb hby d3_6) rfl k) ?_
  show own_End p e below s _ _ _ (s0.setTop (mkF m 7 #[.val (.int p1), .val (.int p2), .val (.int p3)] [(.int p3), (.int p1)]))
  by_cases q_7 : p3.toInt < p1.toInt
  ·
    refine own_go (fun t k => XS.icmpYes X0.here hx rfl (pc0 := 7) (pc' := 14) rfl (hb hby d3_7) rfl (own_gtY rfl q_7) (by decide) (by decide) k) ?_
    show own_End p e below s _ _ _ (s0.setTop (mkF m 14 #[.val (.int p1), .val (.int p2), .val (.int p3)] []))
    refine own_go (fun t k => XS.iconst X0.here hx rfl (hb hby d3_14) k) ?_
    show own_End p e below s _ _ _ (s0.setTop (mkF m 15 #[.val (.int p1), .val (.int p2), .val (.int p3)] [(.int (0 : Int32))]))
    exact own_retN X0 hx (t := .boolean) hret hlk (by simp) (hb hby d3_15) ⟨own_no (by omega), N0, e0⟩ (by decide) (by decide)
  refine own_go (fun t k => XS.icmpNo X0.here hx rfl (hb hby d3_7) rfl (own_gtN rfl q_7) k) ?_
  show own_End p e below s _ _ _ (s0.setTop (mkF m 10 #[.val (.int p1), .val (.int p2), .val (.int p3)] []))
  refine own_go (fun t k => XS.iconst X0.here hx rfl (hb hby d3_10) k) ?_
  show own_End p e below s _ _ _ (s0.setTop (mkF m 11 #[.val (.int p1), .val (.int p2), .val (.int p3)] [(.int (1 : Int32))]))
  refine own_go (fun t k => XS.goto X0.here hx rfl (pc0 := 11) (pc' := 15) rfl (hb hby d3_11) (by decide) (by decide) k) ?_
  show own_End p e below s _ _ _ (s0.setTop (mkF m 15 #[.val (.int p1), .val (.int p2), .val (.int p3)] [(.int (1 : Int32))]))
  exact own_retN X0 hx (t := .boolean) hret hlk (by simp) (hb hby d3_15) ⟨own_yes (by omega), N0, e0⟩ (by decide) (by decide)
set_option maxRecDepth 65536 in
set_option maxHeartbeats 40000000 in
theorem rm2 (l : Launch) (Z : State) (a0 : Array Value) (hw : ∀ d ∈ tables_1, d.before a0 Z = true) (ws : List Jvm.Cond) (p1 : Int32) (h0 : Heap) (n0 : Nat) (Z0 : n0 ≤ h0.size)  :
    own_Met l (⟨"com/example/penumbra/penumbra/store/NamesIsNameStartPinLaw", "ref", "(I)Z"⟩ : MethodName) method_3_code 1 (some .boolean) ws ({ frames := 1, cells := 0, slots := 0, locals := 14 } : Room) #[(.int p1)] Z h0 (fun v h L => v = some (.int (if own_ns p1.toInt then 1 else 0)) ∧ Fr n0 L ∧ h = h0) := by
  refine own_body (plainFor_of_name pn_NamesIsNameStartPinLaw) ?_
  intro p e s m below meth c s0 X0 hx hby hml hret hlk hown hnm hZ e0
  replace hown : s.vm.findClass "com/example/penumbra/penumbra/store/NamesIsNameStartPinLaw" = some m.cls := hown
  have N0 := Fr.nil n0
  have ef : entryFrame m #[(.int p1)] 1 = (mkF m 0 #[.val (.int p1)] []) := by first | (simp [entryFrame, mkF, argsToLocals, Value.category, maxLocals]; done) | rfl
  rw [ef]
  show own_End p e below s _ _ _ (s0.setTop (mkF m 0 #[.val (.int p1)] []))
  refine own_go (fun t k => XS.iloadN X0.here hx rfl (hb hby d2_0) rfl k) ?_
  show own_End p e below s _ _ _ (s0.setTop (mkF m 1 #[.val (.int p1)] [(.int p1)]))
  refine own_go (fun t k => XS.bipush X0.here hx rfl (hb hby d2_1) k) ?_
  show own_End p e below s _ _ _ (s0.setTop (mkF m 3 #[.val (.int p1)] [(.int (65 : Int32)), (.int p1)]))
  refine own_go (fun t k => XS.bipush X0.here hx rfl (hb hby d2_3) k) ?_
  show own_End p e below s _ _ _ (s0.setTop (mkF m 5 #[.val (.int p1)] [(.int (90 : Int32)), (.int (65 : Int32)), (.int p1)]))
  obtain ⟨v38, T38, L38, X38, hQ38, st38⟩ := own_callS X0 hx hZ (y := (⟨"com/example/penumbra/penumbra/store/NamesIsNameStartPinLaw", "in", "(III)Z"⟩ : MethodName)) 0 hown (hw _ (List.mem_of_getElem? (i := 19) rfl)) (hw _ (List.mem_of_getElem? (i := 20) rfl)) (hw _ (List.mem_of_getElem? (i := 17) rfl)) (hw _ (List.mem_of_getElem? (i := 21) rfl)) (by decide) (rm3 l Z a0 hw [] p1 (65 : Int32) (90 : Int32) h0 n0 Z0 (k2 := 65) (k3 := 90) (by decide) (by decide)) e0 (pc := 5) (Ls := #[.val (.int p1)]) [(.int p1), (.int (65 : Int32)), (.int (90 : Int32))] [] (by rw [hml]; rfl) rfl rfl (lenOf pd_III_Z rfl) (Nat.le_of_eq rfl) (hb hby d2_5) (by decide) (by decide) (by decide) (by decide)
  obtain ⟨rfl, Nc39, e39⟩ := hQ38
  have N39 := Fr.app N0 Nc39
  refine own_go st38 ?_
  show own_End p e below s _ _ _ (T38.setTop (mkF m 8 #[.val (.int p1)] [(.int (if 65 ≤ p1.toInt ∧ p1.toInt ≤ 90 then 1 else 0))]))
  by_cases q_8 : 65 ≤ p1.toInt ∧ p1.toInt ≤ 90
  ·
    refine own_go (fun t k => XS.ifYes X38.here hx rfl (pc0 := 8) (pc' := 177) rfl (hb hby d2_8) rfl (own_bneY q_8) (by decide) (by decide) k) ?_
    show own_End p e below s _ _ _ (T38.setTop (mkF m 177 #[.val (.int p1)] []))
    refine own_go (fun t k => XS.iconst X38.here hx rfl (hb hby d2_177) k) ?_
    show own_End p e below s _ _ _ (T38.setTop (mkF m 178 #[.val (.int p1)] [(.int (1 : Int32))]))
    refine own_go (fun t k => XS.goto X38.here hx rfl (pc0 := 178) (pc' := 182) rfl (hb hby d2_178) (by decide) (by decide) k) ?_
    show own_End p e below s _ _ _ (T38.setTop (mkF m 182 #[.val (.int p1)] [(.int (1 : Int32))]))
    exact own_retN X38 hx (t := .boolean) hret hlk (by simp) (hb hby d2_182) ⟨own_yes (by omega), N39, e39⟩ (by decide) (by decide)
  refine own_go (fun t k => XS.ifNo X38.here hx rfl (hb hby d2_8) rfl (own_bneN q_8) k) ?_
  show own_End p e below s _ _ _ (T38.setTop (mkF m 11 #[.val (.int p1)] []))
  refine own_go (fun t k => XS.iloadN X38.here hx rfl (hb hby d2_11) rfl k) ?_
  show own_End p e below s _ _ _ (T38.setTop (mkF m 12 #[.val (.int p1)] [(.int p1)]))
  refine own_go (fun t k => XS.bipush X38.here hx rfl (hb hby d2_12) k) ?_
  show own_End p e below s _ _ _ (T38.setTop (mkF m 14 #[.val (.int p1)] [(.int (95 : Int32)), (.int p1)]))
  by_cases q_14 : p1.toInt = 95
  ·
    refine own_go (fun t k => XS.icmpYes X38.here hx rfl (pc0 := 14) (pc' := 177) rfl (hb hby d2_14) rfl (own_eqY (k := 95) (by decide) q_14) (by decide) (by decide) k) ?_
    show own_End p e below s _ _ _ (T38.setTop (mkF m 177 #[.val (.int p1)] []))
    refine own_go (fun t k => XS.iconst X38.here hx rfl (hb hby d2_177) k) ?_
    show own_End p e below s _ _ _ (T38.setTop (mkF m 178 #[.val (.int p1)] [(.int (1 : Int32))]))
    refine own_go (fun t k => XS.goto X38.here hx rfl (pc0 := 178) (pc' := 182) rfl (hb hby d2_178) (by decide) (by decide) k) ?_
    show own_End p e below s _ _ _ (T38.setTop (mkF m 182 #[.val (.int p1)] [(.int (1 : Int32))]))
    exact own_retN X38 hx (t := .boolean) hret hlk (by simp) (hb hby d2_182) ⟨own_yes (by omega), N39, e39⟩ (by decide) (by decide)
  refine own_go (fun t k => XS.icmpNo X38.here hx rfl (hb hby d2_14) rfl (own_eqN (k := 95) (by decide) q_14) k) ?_
  show own_End p e below s _ _ _ (T38.setTop (mkF m 17 #[.val (.int p1)] []))
  refine own_go (fun t k => XS.iloadN X38.here hx rfl (hb hby d2_17) rfl k) ?_
  show own_End p e below s _ _ _ (T38.setTop (mkF m 18 #[.val (.int p1)] [(.int p1)]))
  refine own_go (fun t k => XS.bipush X38.here hx rfl (hb hby d2_18) k) ?_
  show own_End p e below s _ _ _ (T38.setTop (mkF m 20 #[.val (.int p1)] [(.int (97 : Int32)), (.int p1)]))
  refine own_go (fun t k => XS.bipush X38.here hx rfl (hb hby d2_20) k) ?_
  show own_End p e below s _ _ _ (T38.setTop (mkF m 22 #[.val (.int p1)] [(.int (122 : Int32)), (.int (97 : Int32)), (.int p1)]))
  obtain ⟨v40, T40, L40, X40, hQ40, st40⟩ := own_callS X38 hx hZ (y := (⟨"com/example/penumbra/penumbra/store/NamesIsNameStartPinLaw", "in", "(III)Z"⟩ : MethodName)) 0 hown (hw _ (List.mem_of_getElem? (i := 19) rfl)) (hw _ (List.mem_of_getElem? (i := 20) rfl)) (hw _ (List.mem_of_getElem? (i := 17) rfl)) (hw _ (List.mem_of_getElem? (i := 21) rfl)) (by decide) (rm3 l Z a0 hw [] p1 (97 : Int32) (122 : Int32) h0 n0 Z0 (k2 := 97) (k3 := 122) (by decide) (by decide)) e39 (pc := 22) (Ls := #[.val (.int p1)]) [(.int p1), (.int (97 : Int32)), (.int (122 : Int32))] [] (by rw [hml]; rfl) rfl rfl (lenOf pd_III_Z rfl) (Nat.le_of_eq rfl) (hb hby d2_22) (by decide) (by decide) (by decide) (by decide)
  obtain ⟨rfl, Nc41, e41⟩ := hQ40
  have N41 := Fr.app N39 Nc41
  refine own_go st40 ?_
  show own_End p e below s _ _ _ (T40.setTop (mkF m 25 #[.val (.int p1)] [(.int (if 97 ≤ p1.toInt ∧ p1.toInt ≤ 122 then 1 else 0))]))
  by_cases q_25 : 97 ≤ p1.toInt ∧ p1.toInt ≤ 122
  ·
    refine own_go (fun t k => XS.ifYes X40.here hx rfl (pc0 := 25) (pc' := 177) rfl (hb hby d2_25) rfl (own_bneY q_25) (by decide) (by decide) k) ?_
    show own_End p e below s _ _ _ (T40.setTop (mkF m 177 #[.val (.int p1)] []))
    refine own_go (fun t k => XS.iconst X40.here hx rfl (hb hby d2_177) k) ?_
    show own_End p e below s _ _ _ (T40.setTop (mkF m 178 #[.val (.int p1)] [(.int (1 : Int32))]))
    refine own_go (fun t k => XS.goto X40.here hx rfl (pc0 := 178) (pc' := 182) rfl (hb hby d2_178) (by decide) (by decide) k) ?_
    show own_End p e below s _ _ _ (T40.setTop (mkF m 182 #[.val (.int p1)] [(.int (1 : Int32))]))
    exact own_retN X40 hx (t := .boolean) hret hlk (by simp) (hb hby d2_182) ⟨own_yes (by omega), N41, e41⟩ (by decide) (by decide)
  refine own_go (fun t k => XS.ifNo X40.here hx rfl (hb hby d2_25) rfl (own_bneN q_25) k) ?_
  show own_End p e below s _ _ _ (T40.setTop (mkF m 28 #[.val (.int p1)] []))
  refine own_go (fun t k => XS.iloadN X40.here hx rfl (hb hby d2_28) rfl k) ?_
  show own_End p e below s _ _ _ (T40.setTop (mkF m 29 #[.val (.int p1)] [(.int p1)]))
  refine own_go (fun t k => XS.sipush X40.here hx rfl (hb hby d2_29) k) ?_
  show own_End p e below s _ _ _ (T40.setTop (mkF m 32 #[.val (.int p1)] [(.int (192 : Int32)), (.int p1)]))
  refine own_go (fun t k => XS.sipush X40.here hx rfl (hb hby d2_32) k) ?_
  show own_End p e below s _ _ _ (T40.setTop (mkF m 35 #[.val (.int p1)] [(.int (214 : Int32)), (.int (192 : Int32)), (.int p1)]))
  obtain ⟨v42, T42, L42, X42, hQ42, st42⟩ := own_callS X40 hx hZ (y := (⟨"com/example/penumbra/penumbra/store/NamesIsNameStartPinLaw", "in", "(III)Z"⟩ : MethodName)) 0 hown (hw _ (List.mem_of_getElem? (i := 19) rfl)) (hw _ (List.mem_of_getElem? (i := 20) rfl)) (hw _ (List.mem_of_getElem? (i := 17) rfl)) (hw _ (List.mem_of_getElem? (i := 21) rfl)) (by decide) (rm3 l Z a0 hw [] p1 (192 : Int32) (214 : Int32) h0 n0 Z0 (k2 := 192) (k3 := 214) (by decide) (by decide)) e41 (pc := 35) (Ls := #[.val (.int p1)]) [(.int p1), (.int (192 : Int32)), (.int (214 : Int32))] [] (by rw [hml]; rfl) rfl rfl (lenOf pd_III_Z rfl) (Nat.le_of_eq rfl) (hb hby d2_35) (by decide) (by decide) (by decide) (by decide)
  obtain ⟨rfl, Nc43, e43⟩ := hQ42
  have N43 := Fr.app N41 Nc43
  refine own_go st42 ?_
  show own_End p e below s _ _ _ (T42.setTop (mkF m 38 #[.val (.int p1)] [(.int (if 192 ≤ p1.toInt ∧ p1.toInt ≤ 214 then 1 else 0))]))
  by_cases q_38 : 192 ≤ p1.toInt ∧ p1.toInt ≤ 214
  ·
    refine own_go (fun t k => XS.ifYes X42.here hx rfl (pc0 := 38) (pc' := 177) rfl (hb hby d2_38) rfl (own_bneY q_38) (by decide) (by decide) k) ?_
    show own_End p e below s _ _ _ (T42.setTop (mkF m 177 #[.val (.int p1)] []))
    refine own_go (fun t k => XS.iconst X42.here hx rfl (hb hby d2_177) k) ?_
    show own_End p e below s _ _ _ (T42.setTop (mkF m 178 #[.val (.int p1)] [(.int (1 : Int32))]))
    refine own_go (fun t k => XS.goto X42.here hx rfl (pc0 := 178) (pc' := 182) rfl (hb hby d2_178) (by decide) (by decide) k) ?_
    show own_End p e below s _ _ _ (T42.setTop (mkF m 182 #[.val (.int p1)] [(.int (1 : Int32))]))
    exact own_retN X42 hx (t := .boolean) hret hlk (by simp) (hb hby d2_182) ⟨own_yes (by omega), N43, e43⟩ (by decide) (by decide)
  refine own_go (fun t k => XS.ifNo X42.here hx rfl (hb hby d2_38) rfl (own_bneN q_38) k) ?_
  show own_End p e below s _ _ _ (T42.setTop (mkF m 41 #[.val (.int p1)] []))
  refine own_go (fun t k => XS.iloadN X42.here hx rfl (hb hby d2_41) rfl k) ?_
  show own_End p e below s _ _ _ (T42.setTop (mkF m 42 #[.val (.int p1)] [(.int p1)]))
  refine own_go (fun t k => XS.sipush X42.here hx rfl (hb hby d2_42) k) ?_
  show own_End p e below s _ _ _ (T42.setTop (mkF m 45 #[.val (.int p1)] [(.int (216 : Int32)), (.int p1)]))
  refine own_go (fun t k => XS.sipush X42.here hx rfl (hb hby d2_45) k) ?_
  show own_End p e below s _ _ _ (T42.setTop (mkF m 48 #[.val (.int p1)] [(.int (246 : Int32)), (.int (216 : Int32)), (.int p1)]))
  obtain ⟨v44, T44, L44, X44, hQ44, st44⟩ := own_callS X42 hx hZ (y := (⟨"com/example/penumbra/penumbra/store/NamesIsNameStartPinLaw", "in", "(III)Z"⟩ : MethodName)) 0 hown (hw _ (List.mem_of_getElem? (i := 19) rfl)) (hw _ (List.mem_of_getElem? (i := 20) rfl)) (hw _ (List.mem_of_getElem? (i := 17) rfl)) (hw _ (List.mem_of_getElem? (i := 21) rfl)) (by decide) (rm3 l Z a0 hw [] p1 (216 : Int32) (246 : Int32) h0 n0 Z0 (k2 := 216) (k3 := 246) (by decide) (by decide)) e43 (pc := 48) (Ls := #[.val (.int p1)]) [(.int p1), (.int (216 : Int32)), (.int (246 : Int32))] [] (by rw [hml]; rfl) rfl rfl (lenOf pd_III_Z rfl) (Nat.le_of_eq rfl) (hb hby d2_48) (by decide) (by decide) (by decide) (by decide)
  obtain ⟨rfl, Nc45, e45⟩ := hQ44
  have N45 := Fr.app N43 Nc45
  refine own_go st44 ?_
  show own_End p e below s _ _ _ (T44.setTop (mkF m 51 #[.val (.int p1)] [(.int (if 216 ≤ p1.toInt ∧ p1.toInt ≤ 246 then 1 else 0))]))
  by_cases q_51 : 216 ≤ p1.toInt ∧ p1.toInt ≤ 246
  ·
    refine own_go (fun t k => XS.ifYes X44.here hx rfl (pc0 := 51) (pc' := 177) rfl (hb hby d2_51) rfl (own_bneY q_51) (by decide) (by decide) k) ?_
    show own_End p e below s _ _ _ (T44.setTop (mkF m 177 #[.val (.int p1)] []))
    refine own_go (fun t k => XS.iconst X44.here hx rfl (hb hby d2_177) k) ?_
    show own_End p e below s _ _ _ (T44.setTop (mkF m 178 #[.val (.int p1)] [(.int (1 : Int32))]))
    refine own_go (fun t k => XS.goto X44.here hx rfl (pc0 := 178) (pc' := 182) rfl (hb hby d2_178) (by decide) (by decide) k) ?_
    show own_End p e below s _ _ _ (T44.setTop (mkF m 182 #[.val (.int p1)] [(.int (1 : Int32))]))
    exact own_retN X44 hx (t := .boolean) hret hlk (by simp) (hb hby d2_182) ⟨own_yes (by omega), N45, e45⟩ (by decide) (by decide)
  refine own_go (fun t k => XS.ifNo X44.here hx rfl (hb hby d2_51) rfl (own_bneN q_51) k) ?_
  show own_End p e below s _ _ _ (T44.setTop (mkF m 54 #[.val (.int p1)] []))
  refine own_go (fun t k => XS.iloadN X44.here hx rfl (hb hby d2_54) rfl k) ?_
  show own_End p e below s _ _ _ (T44.setTop (mkF m 55 #[.val (.int p1)] [(.int p1)]))
  refine own_go (fun t k => XS.sipush X44.here hx rfl (hb hby d2_55) k) ?_
  show own_End p e below s _ _ _ (T44.setTop (mkF m 58 #[.val (.int p1)] [(.int (248 : Int32)), (.int p1)]))
  refine own_go (fun t k => XS.sipush X44.here hx rfl (hb hby d2_58) k) ?_
  show own_End p e below s _ _ _ (T44.setTop (mkF m 61 #[.val (.int p1)] [(.int (767 : Int32)), (.int (248 : Int32)), (.int p1)]))
  obtain ⟨v46, T46, L46, X46, hQ46, st46⟩ := own_callS X44 hx hZ (y := (⟨"com/example/penumbra/penumbra/store/NamesIsNameStartPinLaw", "in", "(III)Z"⟩ : MethodName)) 0 hown (hw _ (List.mem_of_getElem? (i := 19) rfl)) (hw _ (List.mem_of_getElem? (i := 20) rfl)) (hw _ (List.mem_of_getElem? (i := 17) rfl)) (hw _ (List.mem_of_getElem? (i := 21) rfl)) (by decide) (rm3 l Z a0 hw [] p1 (248 : Int32) (767 : Int32) h0 n0 Z0 (k2 := 248) (k3 := 767) (by decide) (by decide)) e45 (pc := 61) (Ls := #[.val (.int p1)]) [(.int p1), (.int (248 : Int32)), (.int (767 : Int32))] [] (by rw [hml]; rfl) rfl rfl (lenOf pd_III_Z rfl) (Nat.le_of_eq rfl) (hb hby d2_61) (by decide) (by decide) (by decide) (by decide)
  obtain ⟨rfl, Nc47, e47⟩ := hQ46
  have N47 := Fr.app N45 Nc47
  refine own_go st46 ?_
  show own_End p e below s _ _ _ (T46.setTop (mkF m 64 #[.val (.int p1)] [(.int (if 248 ≤ p1.toInt ∧ p1.toInt ≤ 767 then 1 else 0))]))
  by_cases q_64 : 248 ≤ p1.toInt ∧ p1.toInt ≤ 767
  ·
    refine own_go (fun t k => XS.ifYes X46.here hx rfl (pc0 := 64) (pc' := 177) rfl (hb hby d2_64) rfl (own_bneY q_64) (by decide) (by decide) k) ?_
    show own_End p e below s _ _ _ (T46.setTop (mkF m 177 #[.val (.int p1)] []))
    refine own_go (fun t k => XS.iconst X46.here hx rfl (hb hby d2_177) k) ?_
    show own_End p e below s _ _ _ (T46.setTop (mkF m 178 #[.val (.int p1)] [(.int (1 : Int32))]))
    refine own_go (fun t k => XS.goto X46.here hx rfl (pc0 := 178) (pc' := 182) rfl (hb hby d2_178) (by decide) (by decide) k) ?_
    show own_End p e below s _ _ _ (T46.setTop (mkF m 182 #[.val (.int p1)] [(.int (1 : Int32))]))
    exact own_retN X46 hx (t := .boolean) hret hlk (by simp) (hb hby d2_182) ⟨own_yes (by omega), N47, e47⟩ (by decide) (by decide)
  refine own_go (fun t k => XS.ifNo X46.here hx rfl (hb hby d2_64) rfl (own_bneN q_64) k) ?_
  show own_End p e below s _ _ _ (T46.setTop (mkF m 67 #[.val (.int p1)] []))
  refine own_go (fun t k => XS.iloadN X46.here hx rfl (hb hby d2_67) rfl k) ?_
  show own_End p e below s _ _ _ (T46.setTop (mkF m 68 #[.val (.int p1)] [(.int p1)]))
  refine own_go (fun t k => XS.sipush X46.here hx rfl (hb hby d2_68) k) ?_
  show own_End p e below s _ _ _ (T46.setTop (mkF m 71 #[.val (.int p1)] [(.int (880 : Int32)), (.int p1)]))
  refine own_go (fun t k => XS.sipush X46.here hx rfl (hb hby d2_71) k) ?_
  show own_End p e below s _ _ _ (T46.setTop (mkF m 74 #[.val (.int p1)] [(.int (893 : Int32)), (.int (880 : Int32)), (.int p1)]))
  obtain ⟨v48, T48, L48, X48, hQ48, st48⟩ := own_callS X46 hx hZ (y := (⟨"com/example/penumbra/penumbra/store/NamesIsNameStartPinLaw", "in", "(III)Z"⟩ : MethodName)) 0 hown (hw _ (List.mem_of_getElem? (i := 19) rfl)) (hw _ (List.mem_of_getElem? (i := 20) rfl)) (hw _ (List.mem_of_getElem? (i := 17) rfl)) (hw _ (List.mem_of_getElem? (i := 21) rfl)) (by decide) (rm3 l Z a0 hw [] p1 (880 : Int32) (893 : Int32) h0 n0 Z0 (k2 := 880) (k3 := 893) (by decide) (by decide)) e47 (pc := 74) (Ls := #[.val (.int p1)]) [(.int p1), (.int (880 : Int32)), (.int (893 : Int32))] [] (by rw [hml]; rfl) rfl rfl (lenOf pd_III_Z rfl) (Nat.le_of_eq rfl) (hb hby d2_74) (by decide) (by decide) (by decide) (by decide)
  obtain ⟨rfl, Nc49, e49⟩ := hQ48
  have N49 := Fr.app N47 Nc49
  refine own_go st48 ?_
  show own_End p e below s _ _ _ (T48.setTop (mkF m 77 #[.val (.int p1)] [(.int (if 880 ≤ p1.toInt ∧ p1.toInt ≤ 893 then 1 else 0))]))
  by_cases q_77 : 880 ≤ p1.toInt ∧ p1.toInt ≤ 893
  ·
    refine own_go (fun t k => XS.ifYes X48.here hx rfl (pc0 := 77) (pc' := 177) rfl (hb hby d2_77) rfl (own_bneY q_77) (by decide) (by decide) k) ?_
    show own_End p e below s _ _ _ (T48.setTop (mkF m 177 #[.val (.int p1)] []))
    refine own_go (fun t k => XS.iconst X48.here hx rfl (hb hby d2_177) k) ?_
    show own_End p e below s _ _ _ (T48.setTop (mkF m 178 #[.val (.int p1)] [(.int (1 : Int32))]))
    refine own_go (fun t k => XS.goto X48.here hx rfl (pc0 := 178) (pc' := 182) rfl (hb hby d2_178) (by decide) (by decide) k) ?_
    show own_End p e below s _ _ _ (T48.setTop (mkF m 182 #[.val (.int p1)] [(.int (1 : Int32))]))
    exact own_retN X48 hx (t := .boolean) hret hlk (by simp) (hb hby d2_182) ⟨own_yes (by omega), N49, e49⟩ (by decide) (by decide)
  refine own_go (fun t k => XS.ifNo X48.here hx rfl (hb hby d2_77) rfl (own_bneN q_77) k) ?_
  show own_End p e below s _ _ _ (T48.setTop (mkF m 80 #[.val (.int p1)] []))
  refine own_go (fun t k => XS.iloadN X48.here hx rfl (hb hby d2_80) rfl k) ?_
  show own_End p e below s _ _ _ (T48.setTop (mkF m 81 #[.val (.int p1)] [(.int p1)]))
  refine own_go (fun t k => XS.sipush X48.here hx rfl (hb hby d2_81) k) ?_
  show own_End p e below s _ _ _ (T48.setTop (mkF m 84 #[.val (.int p1)] [(.int (895 : Int32)), (.int p1)]))
  refine own_go (fun t k => XS.sipush X48.here hx rfl (hb hby d2_84) k) ?_
  show own_End p e below s _ _ _ (T48.setTop (mkF m 87 #[.val (.int p1)] [(.int (8191 : Int32)), (.int (895 : Int32)), (.int p1)]))
  obtain ⟨v50, T50, L50, X50, hQ50, st50⟩ := own_callS X48 hx hZ (y := (⟨"com/example/penumbra/penumbra/store/NamesIsNameStartPinLaw", "in", "(III)Z"⟩ : MethodName)) 0 hown (hw _ (List.mem_of_getElem? (i := 19) rfl)) (hw _ (List.mem_of_getElem? (i := 20) rfl)) (hw _ (List.mem_of_getElem? (i := 17) rfl)) (hw _ (List.mem_of_getElem? (i := 21) rfl)) (by decide) (rm3 l Z a0 hw [] p1 (895 : Int32) (8191 : Int32) h0 n0 Z0 (k2 := 895) (k3 := 8191) (by decide) (by decide)) e49 (pc := 87) (Ls := #[.val (.int p1)]) [(.int p1), (.int (895 : Int32)), (.int (8191 : Int32))] [] (by rw [hml]; rfl) rfl rfl (lenOf pd_III_Z rfl) (Nat.le_of_eq rfl) (hb hby d2_87) (by decide) (by decide) (by decide) (by decide)
  obtain ⟨rfl, Nc51, e51⟩ := hQ50
  have N51 := Fr.app N49 Nc51
  refine own_go st50 ?_
  show own_End p e below s _ _ _ (T50.setTop (mkF m 90 #[.val (.int p1)] [(.int (if 895 ≤ p1.toInt ∧ p1.toInt ≤ 8191 then 1 else 0))]))
  by_cases q_90 : 895 ≤ p1.toInt ∧ p1.toInt ≤ 8191
  ·
    refine own_go (fun t k => XS.ifYes X50.here hx rfl (pc0 := 90) (pc' := 177) rfl (hb hby d2_90) rfl (own_bneY q_90) (by decide) (by decide) k) ?_
    show own_End p e below s _ _ _ (T50.setTop (mkF m 177 #[.val (.int p1)] []))
    refine own_go (fun t k => XS.iconst X50.here hx rfl (hb hby d2_177) k) ?_
    show own_End p e below s _ _ _ (T50.setTop (mkF m 178 #[.val (.int p1)] [(.int (1 : Int32))]))
    refine own_go (fun t k => XS.goto X50.here hx rfl (pc0 := 178) (pc' := 182) rfl (hb hby d2_178) (by decide) (by decide) k) ?_
    show own_End p e below s _ _ _ (T50.setTop (mkF m 182 #[.val (.int p1)] [(.int (1 : Int32))]))
    exact own_retN X50 hx (t := .boolean) hret hlk (by simp) (hb hby d2_182) ⟨own_yes (by omega), N51, e51⟩ (by decide) (by decide)
  refine own_go (fun t k => XS.ifNo X50.here hx rfl (hb hby d2_90) rfl (own_bneN q_90) k) ?_
  show own_End p e below s _ _ _ (T50.setTop (mkF m 93 #[.val (.int p1)] []))
  refine own_go (fun t k => XS.iloadN X50.here hx rfl (hb hby d2_93) rfl k) ?_
  show own_End p e below s _ _ _ (T50.setTop (mkF m 94 #[.val (.int p1)] [(.int p1)]))
  refine own_go (fun t k => XS.sipush X50.here hx rfl (hb hby d2_94) k) ?_
  show own_End p e below s _ _ _ (T50.setTop (mkF m 97 #[.val (.int p1)] [(.int (8204 : Int32)), (.int p1)]))
  refine own_go (fun t k => XS.sipush X50.here hx rfl (hb hby d2_97) k) ?_
  show own_End p e below s _ _ _ (T50.setTop (mkF m 100 #[.val (.int p1)] [(.int (8205 : Int32)), (.int (8204 : Int32)), (.int p1)]))
  obtain ⟨v52, T52, L52, X52, hQ52, st52⟩ := own_callS X50 hx hZ (y := (⟨"com/example/penumbra/penumbra/store/NamesIsNameStartPinLaw", "in", "(III)Z"⟩ : MethodName)) 0 hown (hw _ (List.mem_of_getElem? (i := 19) rfl)) (hw _ (List.mem_of_getElem? (i := 20) rfl)) (hw _ (List.mem_of_getElem? (i := 17) rfl)) (hw _ (List.mem_of_getElem? (i := 21) rfl)) (by decide) (rm3 l Z a0 hw [] p1 (8204 : Int32) (8205 : Int32) h0 n0 Z0 (k2 := 8204) (k3 := 8205) (by decide) (by decide)) e51 (pc := 100) (Ls := #[.val (.int p1)]) [(.int p1), (.int (8204 : Int32)), (.int (8205 : Int32))] [] (by rw [hml]; rfl) rfl rfl (lenOf pd_III_Z rfl) (Nat.le_of_eq rfl) (hb hby d2_100) (by decide) (by decide) (by decide) (by decide)
  obtain ⟨rfl, Nc53, e53⟩ := hQ52
  have N53 := Fr.app N51 Nc53
  refine own_go st52 ?_
  show own_End p e below s _ _ _ (T52.setTop (mkF m 103 #[.val (.int p1)] [(.int (if 8204 ≤ p1.toInt ∧ p1.toInt ≤ 8205 then 1 else 0))]))
  by_cases q_103 : 8204 ≤ p1.toInt ∧ p1.toInt ≤ 8205
  ·
    refine own_go (fun t k => XS.ifYes X52.here hx rfl (pc0 := 103) (pc' := 177) rfl (hb hby d2_103) rfl (own_bneY q_103) (by decide) (by decide) k) ?_
    show own_End p e below s _ _ _ (T52.setTop (mkF m 177 #[.val (.int p1)] []))
    refine own_go (fun t k => XS.iconst X52.here hx rfl (hb hby d2_177) k) ?_
    show own_End p e below s _ _ _ (T52.setTop (mkF m 178 #[.val (.int p1)] [(.int (1 : Int32))]))
    refine own_go (fun t k => XS.goto X52.here hx rfl (pc0 := 178) (pc' := 182) rfl (hb hby d2_178) (by decide) (by decide) k) ?_
    show own_End p e below s _ _ _ (T52.setTop (mkF m 182 #[.val (.int p1)] [(.int (1 : Int32))]))
    exact own_retN X52 hx (t := .boolean) hret hlk (by simp) (hb hby d2_182) ⟨own_yes (by omega), N53, e53⟩ (by decide) (by decide)
  refine own_go (fun t k => XS.ifNo X52.here hx rfl (hb hby d2_103) rfl (own_bneN q_103) k) ?_
  show own_End p e below s _ _ _ (T52.setTop (mkF m 106 #[.val (.int p1)] []))
  refine own_go (fun t k => XS.iloadN X52.here hx rfl (hb hby d2_106) rfl k) ?_
  show own_End p e below s _ _ _ (T52.setTop (mkF m 107 #[.val (.int p1)] [(.int p1)]))
  refine own_go (fun t k => XS.sipush X52.here hx rfl (hb hby d2_107) k) ?_
  show own_End p e below s _ _ _ (T52.setTop (mkF m 110 #[.val (.int p1)] [(.int (8304 : Int32)), (.int p1)]))
  refine own_go (fun t k => XS.sipush X52.here hx rfl (hb hby d2_110) k) ?_
  show own_End p e below s _ _ _ (T52.setTop (mkF m 113 #[.val (.int p1)] [(.int (8591 : Int32)), (.int (8304 : Int32)), (.int p1)]))
  obtain ⟨v54, T54, L54, X54, hQ54, st54⟩ := own_callS X52 hx hZ (y := (⟨"com/example/penumbra/penumbra/store/NamesIsNameStartPinLaw", "in", "(III)Z"⟩ : MethodName)) 0 hown (hw _ (List.mem_of_getElem? (i := 19) rfl)) (hw _ (List.mem_of_getElem? (i := 20) rfl)) (hw _ (List.mem_of_getElem? (i := 17) rfl)) (hw _ (List.mem_of_getElem? (i := 21) rfl)) (by decide) (rm3 l Z a0 hw [] p1 (8304 : Int32) (8591 : Int32) h0 n0 Z0 (k2 := 8304) (k3 := 8591) (by decide) (by decide)) e53 (pc := 113) (Ls := #[.val (.int p1)]) [(.int p1), (.int (8304 : Int32)), (.int (8591 : Int32))] [] (by rw [hml]; rfl) rfl rfl (lenOf pd_III_Z rfl) (Nat.le_of_eq rfl) (hb hby d2_113) (by decide) (by decide) (by decide) (by decide)
  obtain ⟨rfl, Nc55, e55⟩ := hQ54
  have N55 := Fr.app N53 Nc55
  refine own_go st54 ?_
  show own_End p e below s _ _ _ (T54.setTop (mkF m 116 #[.val (.int p1)] [(.int (if 8304 ≤ p1.toInt ∧ p1.toInt ≤ 8591 then 1 else 0))]))
  by_cases q_116 : 8304 ≤ p1.toInt ∧ p1.toInt ≤ 8591
  ·
    refine own_go (fun t k => XS.ifYes X54.here hx rfl (pc0 := 116) (pc' := 177) rfl (hb hby d2_116) rfl (own_bneY q_116) (by decide) (by decide) k) ?_
    show own_End p e below s _ _ _ (T54.setTop (mkF m 177 #[.val (.int p1)] []))
    refine own_go (fun t k => XS.iconst X54.here hx rfl (hb hby d2_177) k) ?_
    show own_End p e below s _ _ _ (T54.setTop (mkF m 178 #[.val (.int p1)] [(.int (1 : Int32))]))
    refine own_go (fun t k => XS.goto X54.here hx rfl (pc0 := 178) (pc' := 182) rfl (hb hby d2_178) (by decide) (by decide) k) ?_
    show own_End p e below s _ _ _ (T54.setTop (mkF m 182 #[.val (.int p1)] [(.int (1 : Int32))]))
    exact own_retN X54 hx (t := .boolean) hret hlk (by simp) (hb hby d2_182) ⟨own_yes (by omega), N55, e55⟩ (by decide) (by decide)
  refine own_go (fun t k => XS.ifNo X54.here hx rfl (hb hby d2_116) rfl (own_bneN q_116) k) ?_
  show own_End p e below s _ _ _ (T54.setTop (mkF m 119 #[.val (.int p1)] []))
  refine own_go (fun t k => XS.iloadN X54.here hx rfl (hb hby d2_119) rfl k) ?_
  show own_End p e below s _ _ _ (T54.setTop (mkF m 120 #[.val (.int p1)] [(.int p1)]))
  refine own_go (fun t k => XS.sipush X54.here hx rfl (hb hby d2_120) k) ?_
  show own_End p e below s _ _ _ (T54.setTop (mkF m 123 #[.val (.int p1)] [(.int (11264 : Int32)), (.int p1)]))
  refine own_go (fun t k => XS.sipush X54.here hx rfl (hb hby d2_123) k) ?_
  show own_End p e below s _ _ _ (T54.setTop (mkF m 126 #[.val (.int p1)] [(.int (12271 : Int32)), (.int (11264 : Int32)), (.int p1)]))
  obtain ⟨v56, T56, L56, X56, hQ56, st56⟩ := own_callS X54 hx hZ (y := (⟨"com/example/penumbra/penumbra/store/NamesIsNameStartPinLaw", "in", "(III)Z"⟩ : MethodName)) 0 hown (hw _ (List.mem_of_getElem? (i := 19) rfl)) (hw _ (List.mem_of_getElem? (i := 20) rfl)) (hw _ (List.mem_of_getElem? (i := 17) rfl)) (hw _ (List.mem_of_getElem? (i := 21) rfl)) (by decide) (rm3 l Z a0 hw [] p1 (11264 : Int32) (12271 : Int32) h0 n0 Z0 (k2 := 11264) (k3 := 12271) (by decide) (by decide)) e55 (pc := 126) (Ls := #[.val (.int p1)]) [(.int p1), (.int (11264 : Int32)), (.int (12271 : Int32))] [] (by rw [hml]; rfl) rfl rfl (lenOf pd_III_Z rfl) (Nat.le_of_eq rfl) (hb hby d2_126) (by decide) (by decide) (by decide) (by decide)
  obtain ⟨rfl, Nc57, e57⟩ := hQ56
  have N57 := Fr.app N55 Nc57
  refine own_go st56 ?_
  show own_End p e below s _ _ _ (T56.setTop (mkF m 129 #[.val (.int p1)] [(.int (if 11264 ≤ p1.toInt ∧ p1.toInt ≤ 12271 then 1 else 0))]))
  by_cases q_129 : 11264 ≤ p1.toInt ∧ p1.toInt ≤ 12271
  ·
    refine own_go (fun t k => XS.ifYes X56.here hx rfl (pc0 := 129) (pc' := 177) rfl (hb hby d2_129) rfl (own_bneY q_129) (by decide) (by decide) k) ?_
    show own_End p e below s _ _ _ (T56.setTop (mkF m 177 #[.val (.int p1)] []))
    refine own_go (fun t k => XS.iconst X56.here hx rfl (hb hby d2_177) k) ?_
    show own_End p e below s _ _ _ (T56.setTop (mkF m 178 #[.val (.int p1)] [(.int (1 : Int32))]))
    refine own_go (fun t k => XS.goto X56.here hx rfl (pc0 := 178) (pc' := 182) rfl (hb hby d2_178) (by decide) (by decide) k) ?_
    show own_End p e below s _ _ _ (T56.setTop (mkF m 182 #[.val (.int p1)] [(.int (1 : Int32))]))
    exact own_retN X56 hx (t := .boolean) hret hlk (by simp) (hb hby d2_182) ⟨own_yes (by omega), N57, e57⟩ (by decide) (by decide)
  refine own_go (fun t k => XS.ifNo X56.here hx rfl (hb hby d2_129) rfl (own_bneN q_129) k) ?_
  show own_End p e below s _ _ _ (T56.setTop (mkF m 132 #[.val (.int p1)] []))
  refine own_go (fun t k => XS.iloadN X56.here hx rfl (hb hby d2_132) rfl k) ?_
  show own_End p e below s _ _ _ (T56.setTop (mkF m 133 #[.val (.int p1)] [(.int p1)]))
  refine own_go (fun t k => XS.sipush X56.here hx rfl (hb hby d2_133) k) ?_
  show own_End p e below s _ _ _ (T56.setTop (mkF m 136 #[.val (.int p1)] [(.int (12289 : Int32)), (.int p1)]))
  refine own_go (X56.ldcInt (own := "com/example/penumbra/penumbra/store/NamesIsNameStartPinLaw") (index := 13) (v := 55295) hx hown (mvT hZ (hw _ (List.mem_of_getElem? (i := 1) rfl))) (g := (mkF m 136 #[.val (.int p1)] [(.int (12289 : Int32)), (.int p1)])) rfl (hb hby d2_136)) ?_
  show own_End p e below s _ _ _ (T56.setTop (mkF m 138 #[.val (.int p1)] [(.int (55295 : Int32)), (.int (12289 : Int32)), (.int p1)]))
  obtain ⟨v58, T58, L58, X58, hQ58, st58⟩ := own_callS X56 hx hZ (y := (⟨"com/example/penumbra/penumbra/store/NamesIsNameStartPinLaw", "in", "(III)Z"⟩ : MethodName)) 0 hown (hw _ (List.mem_of_getElem? (i := 19) rfl)) (hw _ (List.mem_of_getElem? (i := 20) rfl)) (hw _ (List.mem_of_getElem? (i := 17) rfl)) (hw _ (List.mem_of_getElem? (i := 21) rfl)) (by decide) (rm3 l Z a0 hw [] p1 (12289 : Int32) (55295 : Int32) h0 n0 Z0 (k2 := 12289) (k3 := 55295) (by decide) (by decide)) e57 (pc := 138) (Ls := #[.val (.int p1)]) [(.int p1), (.int (12289 : Int32)), (.int (55295 : Int32))] [] (by rw [hml]; rfl) rfl rfl (lenOf pd_III_Z rfl) (Nat.le_of_eq rfl) (hb hby d2_138) (by decide) (by decide) (by decide) (by decide)
  obtain ⟨rfl, Nc59, e59⟩ := hQ58
  have N59 := Fr.app N57 Nc59
  refine own_go st58 ?_
  show own_End p e below s _ _ _ (T58.setTop (mkF m 141 #[.val (.int p1)] [(.int (if 12289 ≤ p1.toInt ∧ p1.toInt ≤ 55295 then 1 else 0))]))
  by_cases q_141 : 12289 ≤ p1.toInt ∧ p1.toInt ≤ 55295
  ·
    refine own_go (fun t k => XS.ifYes X58.here hx rfl (pc0 := 141) (pc' := 177) rfl (hb hby d2_141) rfl (own_bneY q_141) (by decide) (by decide) k) ?_
    show own_End p e below s _ _ _ (T58.setTop (mkF m 177 #[.val (.int p1)] []))
    refine own_go (fun t k => XS.iconst X58.here hx rfl (hb hby d2_177) k) ?_
    show own_End p e below s _ _ _ (T58.setTop (mkF m 178 #[.val (.int p1)] [(.int (1 : Int32))]))
    refine own_go (fun t k => XS.goto X58.here hx rfl (pc0 := 178) (pc' := 182) rfl (hb hby d2_178) (by decide) (by decide) k) ?_
    show own_End p e below s _ _ _ (T58.setTop (mkF m 182 #[.val (.int p1)] [(.int (1 : Int32))]))
    exact own_retN X58 hx (t := .boolean) hret hlk (by simp) (hb hby d2_182) ⟨own_yes (by omega), N59, e59⟩ (by decide) (by decide)
  refine own_go (fun t k => XS.ifNo X58.here hx rfl (hb hby d2_141) rfl (own_bneN q_141) k) ?_
  show own_End p e below s _ _ _ (T58.setTop (mkF m 144 #[.val (.int p1)] []))
  refine own_go (fun t k => XS.iloadN X58.here hx rfl (hb hby d2_144) rfl k) ?_
  show own_End p e below s _ _ _ (T58.setTop (mkF m 145 #[.val (.int p1)] [(.int p1)]))
  refine own_go (X58.ldcInt (own := "com/example/penumbra/penumbra/store/NamesIsNameStartPinLaw") (index := 14) (v := 63744) hx hown (mvT hZ (hw _ (List.mem_of_getElem? (i := 2) rfl))) (g := (mkF m 145 #[.val (.int p1)] [(.int p1)])) rfl (hb hby d2_145)) ?_
  show own_End p e below s _ _ _ (T58.setTop (mkF m 147 #[.val (.int p1)] [(.int (63744 : Int32)), (.int p1)]))
  refine own_go (X58.ldcInt (own := "com/example/penumbra/penumbra/store/NamesIsNameStartPinLaw") (index := 15) (v := 64975) hx hown (mvT hZ (hw _ (List.mem_of_getElem? (i := 3) rfl))) (g := (mkF m 147 #[.val (.int p1)] [(.int (63744 : Int32)), (.int p1)])) rfl (hb hby d2_147)) ?_
  show own_End p e below s _ _ _ (T58.setTop (mkF m 149 #[.val (.int p1)] [(.int (64975 : Int32)), (.int (63744 : Int32)), (.int p1)]))
  obtain ⟨v60, T60, L60, X60, hQ60, st60⟩ := own_callS X58 hx hZ (y := (⟨"com/example/penumbra/penumbra/store/NamesIsNameStartPinLaw", "in", "(III)Z"⟩ : MethodName)) 0 hown (hw _ (List.mem_of_getElem? (i := 19) rfl)) (hw _ (List.mem_of_getElem? (i := 20) rfl)) (hw _ (List.mem_of_getElem? (i := 17) rfl)) (hw _ (List.mem_of_getElem? (i := 21) rfl)) (by decide) (rm3 l Z a0 hw [] p1 (63744 : Int32) (64975 : Int32) h0 n0 Z0 (k2 := 63744) (k3 := 64975) (by decide) (by decide)) e59 (pc := 149) (Ls := #[.val (.int p1)]) [(.int p1), (.int (63744 : Int32)), (.int (64975 : Int32))] [] (by rw [hml]; rfl) rfl rfl (lenOf pd_III_Z rfl) (Nat.le_of_eq rfl) (hb hby d2_149) (by decide) (by decide) (by decide) (by decide)
  obtain ⟨rfl, Nc61, e61⟩ := hQ60
  have N61 := Fr.app N59 Nc61
  refine own_go st60 ?_
  show own_End p e below s _ _ _ (T60.setTop (mkF m 152 #[.val (.int p1)] [(.int (if 63744 ≤ p1.toInt ∧ p1.toInt ≤ 64975 then 1 else 0))]))
  by_cases q_152 : 63744 ≤ p1.toInt ∧ p1.toInt ≤ 64975
  ·
    refine own_go (fun t k => XS.ifYes X60.here hx rfl (pc0 := 152) (pc' := 177) rfl (hb hby d2_152) rfl (own_bneY q_152) (by decide) (by decide) k) ?_
    show own_End p e below s _ _ _ (T60.setTop (mkF m 177 #[.val (.int p1)] []))
    refine own_go (fun t k => XS.iconst X60.here hx rfl (hb hby d2_177) k) ?_
    show own_End p e below s _ _ _ (T60.setTop (mkF m 178 #[.val (.int p1)] [(.int (1 : Int32))]))
    refine own_go (fun t k => XS.goto X60.here hx rfl (pc0 := 178) (pc' := 182) rfl (hb hby d2_178) (by decide) (by decide) k) ?_
    show own_End p e below s _ _ _ (T60.setTop (mkF m 182 #[.val (.int p1)] [(.int (1 : Int32))]))
    exact own_retN X60 hx (t := .boolean) hret hlk (by simp) (hb hby d2_182) ⟨own_yes (by omega), N61, e61⟩ (by decide) (by decide)
  refine own_go (fun t k => XS.ifNo X60.here hx rfl (hb hby d2_152) rfl (own_bneN q_152) k) ?_
  show own_End p e below s _ _ _ (T60.setTop (mkF m 155 #[.val (.int p1)] []))
  refine own_go (fun t k => XS.iloadN X60.here hx rfl (hb hby d2_155) rfl k) ?_
  show own_End p e below s _ _ _ (T60.setTop (mkF m 156 #[.val (.int p1)] [(.int p1)]))
  refine own_go (X60.ldcInt (own := "com/example/penumbra/penumbra/store/NamesIsNameStartPinLaw") (index := 16) (v := 65008) hx hown (mvT hZ (hw _ (List.mem_of_getElem? (i := 4) rfl))) (g := (mkF m 156 #[.val (.int p1)] [(.int p1)])) rfl (hb hby d2_156)) ?_
  show own_End p e below s _ _ _ (T60.setTop (mkF m 158 #[.val (.int p1)] [(.int (65008 : Int32)), (.int p1)]))
  refine own_go (X60.ldcInt (own := "com/example/penumbra/penumbra/store/NamesIsNameStartPinLaw") (index := 17) (v := 65533) hx hown (mvT hZ (hw _ (List.mem_of_getElem? (i := 5) rfl))) (g := (mkF m 158 #[.val (.int p1)] [(.int (65008 : Int32)), (.int p1)])) rfl (hb hby d2_158)) ?_
  show own_End p e below s _ _ _ (T60.setTop (mkF m 160 #[.val (.int p1)] [(.int (65533 : Int32)), (.int (65008 : Int32)), (.int p1)]))
  obtain ⟨v62, T62, L62, X62, hQ62, st62⟩ := own_callS X60 hx hZ (y := (⟨"com/example/penumbra/penumbra/store/NamesIsNameStartPinLaw", "in", "(III)Z"⟩ : MethodName)) 0 hown (hw _ (List.mem_of_getElem? (i := 19) rfl)) (hw _ (List.mem_of_getElem? (i := 20) rfl)) (hw _ (List.mem_of_getElem? (i := 17) rfl)) (hw _ (List.mem_of_getElem? (i := 21) rfl)) (by decide) (rm3 l Z a0 hw [] p1 (65008 : Int32) (65533 : Int32) h0 n0 Z0 (k2 := 65008) (k3 := 65533) (by decide) (by decide)) e61 (pc := 160) (Ls := #[.val (.int p1)]) [(.int p1), (.int (65008 : Int32)), (.int (65533 : Int32))] [] (by rw [hml]; rfl) rfl rfl (lenOf pd_III_Z rfl) (Nat.le_of_eq rfl) (hb hby d2_160) (by decide) (by decide) (by decide) (by decide)
  obtain ⟨rfl, Nc63, e63⟩ := hQ62
  have N63 := Fr.app N61 Nc63
  refine own_go st62 ?_
  show own_End p e below s _ _ _ (T62.setTop (mkF m 163 #[.val (.int p1)] [(.int (if 65008 ≤ p1.toInt ∧ p1.toInt ≤ 65533 then 1 else 0))]))
  by_cases q_163 : 65008 ≤ p1.toInt ∧ p1.toInt ≤ 65533
  ·
    refine own_go (fun t k => XS.ifYes X62.here hx rfl (pc0 := 163) (pc' := 177) rfl (hb hby d2_163) rfl (own_bneY q_163) (by decide) (by decide) k) ?_
    show own_End p e below s _ _ _ (T62.setTop (mkF m 177 #[.val (.int p1)] []))
    refine own_go (fun t k => XS.iconst X62.here hx rfl (hb hby d2_177) k) ?_
    show own_End p e below s _ _ _ (T62.setTop (mkF m 178 #[.val (.int p1)] [(.int (1 : Int32))]))
    refine own_go (fun t k => XS.goto X62.here hx rfl (pc0 := 178) (pc' := 182) rfl (hb hby d2_178) (by decide) (by decide) k) ?_
    show own_End p e below s _ _ _ (T62.setTop (mkF m 182 #[.val (.int p1)] [(.int (1 : Int32))]))
    exact own_retN X62 hx (t := .boolean) hret hlk (by simp) (hb hby d2_182) ⟨own_yes (by omega), N63, e63⟩ (by decide) (by decide)
  refine own_go (fun t k => XS.ifNo X62.here hx rfl (hb hby d2_163) rfl (own_bneN q_163) k) ?_
  show own_End p e below s _ _ _ (T62.setTop (mkF m 166 #[.val (.int p1)] []))
  refine own_go (fun t k => XS.iloadN X62.here hx rfl (hb hby d2_166) rfl k) ?_
  show own_End p e below s _ _ _ (T62.setTop (mkF m 167 #[.val (.int p1)] [(.int p1)]))
  refine own_go (X62.ldcInt (own := "com/example/penumbra/penumbra/store/NamesIsNameStartPinLaw") (index := 18) (v := 65536) hx hown (mvT hZ (hw _ (List.mem_of_getElem? (i := 6) rfl))) (g := (mkF m 167 #[.val (.int p1)] [(.int p1)])) rfl (hb hby d2_167)) ?_
  show own_End p e below s _ _ _ (T62.setTop (mkF m 169 #[.val (.int p1)] [(.int (65536 : Int32)), (.int p1)]))
  refine own_go (X62.ldcInt (own := "com/example/penumbra/penumbra/store/NamesIsNameStartPinLaw") (index := 19) (v := 983039) hx hown (mvT hZ (hw _ (List.mem_of_getElem? (i := 7) rfl))) (g := (mkF m 169 #[.val (.int p1)] [(.int (65536 : Int32)), (.int p1)])) rfl (hb hby d2_169)) ?_
  show own_End p e below s _ _ _ (T62.setTop (mkF m 171 #[.val (.int p1)] [(.int (983039 : Int32)), (.int (65536 : Int32)), (.int p1)]))
  obtain ⟨v64, T64, L64, X64, hQ64, st64⟩ := own_callS X62 hx hZ (y := (⟨"com/example/penumbra/penumbra/store/NamesIsNameStartPinLaw", "in", "(III)Z"⟩ : MethodName)) 0 hown (hw _ (List.mem_of_getElem? (i := 19) rfl)) (hw _ (List.mem_of_getElem? (i := 20) rfl)) (hw _ (List.mem_of_getElem? (i := 17) rfl)) (hw _ (List.mem_of_getElem? (i := 21) rfl)) (by decide) (rm3 l Z a0 hw [] p1 (65536 : Int32) (983039 : Int32) h0 n0 Z0 (k2 := 65536) (k3 := 983039) (by decide) (by decide)) e63 (pc := 171) (Ls := #[.val (.int p1)]) [(.int p1), (.int (65536 : Int32)), (.int (983039 : Int32))] [] (by rw [hml]; rfl) rfl rfl (lenOf pd_III_Z rfl) (Nat.le_of_eq rfl) (hb hby d2_171) (by decide) (by decide) (by decide) (by decide)
  obtain ⟨rfl, Nc65, e65⟩ := hQ64
  have N65 := Fr.app N63 Nc65
  refine own_go st64 ?_
  show own_End p e below s _ _ _ (T64.setTop (mkF m 174 #[.val (.int p1)] [(.int (if 65536 ≤ p1.toInt ∧ p1.toInt ≤ 983039 then 1 else 0))]))
  by_cases q_174 : ¬ (65536 ≤ p1.toInt ∧ p1.toInt ≤ 983039)
  ·
    refine own_go (fun t k => XS.ifYes X64.here hx rfl (pc0 := 174) (pc' := 181) rfl (hb hby d2_174) rfl (own_beqY q_174) (by decide) (by decide) k) ?_
    show own_End p e below s _ _ _ (T64.setTop (mkF m 181 #[.val (.int p1)] []))
    refine own_go (fun t k => XS.iconst X64.here hx rfl (hb hby d2_181) k) ?_
    show own_End p e below s _ _ _ (T64.setTop (mkF m 182 #[.val (.int p1)] [(.int (0 : Int32))]))
    exact own_retN X64 hx (t := .boolean) hret hlk (by simp) (hb hby d2_182) ⟨own_no (by omega), N65, e65⟩ (by decide) (by decide)
  refine own_go (fun t k => XS.ifNo X64.here hx rfl (hb hby d2_174) rfl (own_beqN q_174) k) ?_
  show own_End p e below s _ _ _ (T64.setTop (mkF m 177 #[.val (.int p1)] []))
  refine own_go (fun t k => XS.iconst X64.here hx rfl (hb hby d2_177) k) ?_
  show own_End p e below s _ _ _ (T64.setTop (mkF m 178 #[.val (.int p1)] [(.int (1 : Int32))]))
  refine own_go (fun t k => XS.goto X64.here hx rfl (pc0 := 178) (pc' := 182) rfl (hb hby d2_178) (by decide) (by decide) k) ?_
  show own_End p e below s _ _ _ (T64.setTop (mkF m 182 #[.val (.int p1)] [(.int (1 : Int32))]))
  exact own_retN X64 hx (t := .boolean) hret hlk (by simp) (hb hby d2_182) ⟨own_yes (by omega), N65, e65⟩ (by decide) (by decide)
theorem own_ix (x n : Int32) (hn : 0 < n.toInt) : 0 ≤ ((x &&& 2147483647) % n).toInt ∧ ((x &&& 2147483647) % n).toInt < n.toInt := by
  have h1 := (c_and x 2147483647 (by decide)).1
  have h2 := (c_iremV (x &&& 2147483647) n).1 h1 hn
  exact ⟨h2.1, h2.2.1⟩
set_option maxRecDepth 65536 in
set_option maxHeartbeats 40000000 in
theorem rm0 (l : Launch) (Z : State) (a0 : Array Value) (hw : ∀ d ∈ tables_1, d.before a0 Z = true) (ws : List Jvm.Cond) (p1 : Int32) (p2 : Int32) (p3 : Int32) (h0 : Heap) (n0 : Nat) (Z0 : n0 ≤ h0.size) (sa : Addr) (ka : ClassId) (S0 : Sta Z h0 "com/example/penumbra/penumbra/store/Names" "NAME_START_RANGES" "[I" (.ref sa)) (F0 : own_F Z h0 sa ka .int 24 own_rg) :
    own_Met l x code maxLocals ret ws room_1 #[(.int p1), (.int p2), (.int p3)] Z h0 (fun v h L => v = some (.int 1) ∧ Fr n0 L) := by
  refine own_body (plainFor_of_name pn_NamesIsNameStartPinLaw) ?_
  intro p e s m below meth c s0 X0 hx hby hml hret hlk hown hnm hZ e0
  replace hown : s.vm.findClass "com/example/penumbra/penumbra/store/NamesIsNameStartPinLaw" = some m.cls := hown
  have N0 := Fr.nil n0
  have ef : entryFrame m #[(.int p1), (.int p2), (.int p3)] maxLocals = (mkF m 0 #[.val (.int p1), .val (.int p2), .val (.int p3), .unset, .unset, .unset, .unset, .unset, .unset] []) := by first | (simp [entryFrame, mkF, argsToLocals, Value.category, maxLocals]; done) | rfl
  rw [ef]
  show own_End p e below s _ _ _ (s0.setTop (mkF m 0 #[.val (.int p1), .val (.int p2), .val (.int p3), .unset, .unset, .unset, .unset, .unset, .unset] []))
  refine own_go (fun t k => XS.bipush X0.here hx rfl (hb hby at_0) k) ?_
  show own_End p e below s _ _ _ (s0.setTop (mkF m 2 #[.val (.int p1), .val (.int p2), .val (.int p3), .unset, .unset, .unset, .unset, .unset, .unset] [(.int (39 : Int32))]))
  obtain ⟨T66, h66, k66, X66, e66, E66, A66, st66⟩ := newP X0 hx hZ (hw _ (List.mem_of_getElem? (i := 0) rfl)) e0 (g := (mkF m 2 #[.val (.int p1), .val (.int p2), .val (.int p3), .unset, .unset, .unset, .unset, .unset, .unset] [(.int (39 : Int32))])) rfl (hb hby at_2) rfl (by decide) (cap := 39) (by decide) (by decide) (by decide) (by decide)
  obtain ⟨b66, gb66⟩ : ∃ z, z = h0.size := ⟨_, rfl⟩
  rw [← gb66] at A66 st66
  have A66a := own_A.of (h' := h66) A66 (j := 39) (by decide) (by decide)
  have nb66 : n0 ≤ b66 := by rw [gb66]; exact Z0
  have Z66 : n0 ≤ h66.size := Nat.le_trans Z0 E66.1
  have lt_sa_b66 : @LT.lt Nat _ sa b66 := Nat.lt_of_lt_of_le F0.lt (Nat.le_of_eq gb66.symm)
  have f67 := S0.ext E66
  have f68 := F0.ext E66
  refine own_go st66 ?_
  show own_End p e below s _ _ _ (T66.setTop (mkF m 4 #[.val (.int p1), .val (.int p2), .val (.int p3), .unset, .unset, .unset, .unset, .unset, .unset] [(.ref b66)]))
  refine own_go (fun t k => XS.dup X66.here hx rfl (hb hby at_4) rfl rfl k) ?_
  show own_End p e below s _ _ _ (T66.setTop (mkF m 5 #[.val (.int p1), .val (.int p2), .val (.int p3), .unset, .unset, .unset, .unset, .unset, .unset] [(.ref b66), (.ref b66)]))
  refine own_go (fun t k => XS.iconst X66.here hx rfl (hb hby at_5) k) ?_
  show own_End p e below s _ _ _ (T66.setTop (mkF m 6 #[.val (.int p1), .val (.int p2), .val (.int p3), .unset, .unset, .unset, .unset, .unset, .unset] [(.int (0 : Int32)), (.ref b66), (.ref b66)]))
  refine own_go (fun t k => XS.bipush X66.here hx rfl (hb hby at_6) k) ?_
  show own_End p e below s _ _ _ (T66.setTop (mkF m 8 #[.val (.int p1), .val (.int p2), .val (.int p3), .unset, .unset, .unset, .unset, .unset, .unset] [(.int (65 : Int32)), (.int (0 : Int32)), (.ref b66), (.ref b66)]))
  obtain ⟨T69, h69, X69, e69, W69, A69, st69⟩ := own_stI X66 hx hZ e66 A66a (j := (0 : Int32)) (x := (65 : Int32)) (by decide) (by decide) (pc := 8) (Ls := #[.val (.int p1), .val (.int p2), .val (.int p3), .unset, .unset, .unset, .unset, .unset, .unset]) (rest := [(.ref b66)]) (hb hby at_8)
  have N69 := Fr.snoc X69 N0 nb66
  have Z69 : n0 ≤ h69.size := by rw [W69.size]; exact Z66
  refine own_go st69 ?_
  have f70 := f67.wr W69
  have f71 := f68.other W69 (Nat.ne_of_lt lt_sa_b66)
  show own_End p e below s _ _ _ (T69.setTop (mkF m 9 #[.val (.int p1), .val (.int p2), .val (.int p3), .unset, .unset, .unset, .unset, .unset, .unset] [(.ref b66)]))
  refine own_go (fun t k => XS.dup X69.here hx rfl (hb hby at_9) rfl rfl k) ?_
  show own_End p e below s _ _ _ (T69.setTop (mkF m 10 #[.val (.int p1), .val (.int p2), .val (.int p3), .unset, .unset, .unset, .unset, .unset, .unset] [(.ref b66), (.ref b66)]))
  refine own_go (fun t k => XS.iconst X69.here hx rfl (hb hby at_10) k) ?_
  show own_End p e below s _ _ _ (T69.setTop (mkF m 11 #[.val (.int p1), .val (.int p2), .val (.int p3), .unset, .unset, .unset, .unset, .unset, .unset] [(.int (1 : Int32)), (.ref b66), (.ref b66)]))
  refine own_go (fun t k => XS.bipush X69.here hx rfl (hb hby at_11) k) ?_
  show own_End p e below s _ _ _ (T69.setTop (mkF m 13 #[.val (.int p1), .val (.int p2), .val (.int p3), .unset, .unset, .unset, .unset, .unset, .unset] [(.int (90 : Int32)), (.int (1 : Int32)), (.ref b66), (.ref b66)]))
  obtain ⟨T73, h73, X73, e73, W73, A73, st73⟩ := own_stI X69 hx hZ e69 A69 (j := (1 : Int32)) (x := (90 : Int32)) (by decide) (by decide) (pc := 13) (Ls := #[.val (.int p1), .val (.int p2), .val (.int p3), .unset, .unset, .unset, .unset, .unset, .unset]) (rest := [(.ref b66)]) (hb hby at_13)
  have N73 := Fr.snoc X73 N69 nb66
  have Z73 : n0 ≤ h73.size := by rw [W73.size]; exact Z69
  refine own_go st73 ?_
  have f74 := f70.wr W73
  have f75 := f71.other W73 (Nat.ne_of_lt lt_sa_b66)
  show own_End p e below s _ _ _ (T73.setTop (mkF m 14 #[.val (.int p1), .val (.int p2), .val (.int p3), .unset, .unset, .unset, .unset, .unset, .unset] [(.ref b66)]))
  refine own_go (fun t k => XS.dup X73.here hx rfl (hb hby at_14) rfl rfl k) ?_
  show own_End p e below s _ _ _ (T73.setTop (mkF m 15 #[.val (.int p1), .val (.int p2), .val (.int p3), .unset, .unset, .unset, .unset, .unset, .unset] [(.ref b66), (.ref b66)]))
  refine own_go (fun t k => XS.iconst X73.here hx rfl (hb hby at_15) k) ?_
  show own_End p e below s _ _ _ (T73.setTop (mkF m 16 #[.val (.int p1), .val (.int p2), .val (.int p3), .unset, .unset, .unset, .unset, .unset, .unset] [(.int (2 : Int32)), (.ref b66), (.ref b66)]))
  refine own_go (fun t k => XS.bipush X73.here hx rfl (hb hby at_16) k) ?_
  show own_End p e below s _ _ _ (T73.setTop (mkF m 18 #[.val (.int p1), .val (.int p2), .val (.int p3), .unset, .unset, .unset, .unset, .unset, .unset] [(.int (97 : Int32)), (.int (2 : Int32)), (.ref b66), (.ref b66)]))
  obtain ⟨T77, h77, X77, e77, W77, A77, st77⟩ := own_stI X73 hx hZ e73 A73 (j := (2 : Int32)) (x := (97 : Int32)) (by decide) (by decide) (pc := 18) (Ls := #[.val (.int p1), .val (.int p2), .val (.int p3), .unset, .unset, .unset, .unset, .unset, .unset]) (rest := [(.ref b66)]) (hb hby at_18)
  have N77 := Fr.snoc X77 N73 nb66
  have Z77 : n0 ≤ h77.size := by rw [W77.size]; exact Z73
  refine own_go st77 ?_
  have f78 := f74.wr W77
  have f79 := f75.other W77 (Nat.ne_of_lt lt_sa_b66)
  show own_End p e below s _ _ _ (T77.setTop (mkF m 19 #[.val (.int p1), .val (.int p2), .val (.int p3), .unset, .unset, .unset, .unset, .unset, .unset] [(.ref b66)]))
  refine own_go (fun t k => XS.dup X77.here hx rfl (hb hby at_19) rfl rfl k) ?_
  show own_End p e below s _ _ _ (T77.setTop (mkF m 20 #[.val (.int p1), .val (.int p2), .val (.int p3), .unset, .unset, .unset, .unset, .unset, .unset] [(.ref b66), (.ref b66)]))
  refine own_go (fun t k => XS.iconst X77.here hx rfl (hb hby at_20) k) ?_
  show own_End p e below s _ _ _ (T77.setTop (mkF m 21 #[.val (.int p1), .val (.int p2), .val (.int p3), .unset, .unset, .unset, .unset, .unset, .unset] [(.int (3 : Int32)), (.ref b66), (.ref b66)]))
  refine own_go (fun t k => XS.bipush X77.here hx rfl (hb hby at_21) k) ?_
  show own_End p e below s _ _ _ (T77.setTop (mkF m 23 #[.val (.int p1), .val (.int p2), .val (.int p3), .unset, .unset, .unset, .unset, .unset, .unset] [(.int (122 : Int32)), (.int (3 : Int32)), (.ref b66), (.ref b66)]))
  obtain ⟨T81, h81, X81, e81, W81, A81, st81⟩ := own_stI X77 hx hZ e77 A77 (j := (3 : Int32)) (x := (122 : Int32)) (by decide) (by decide) (pc := 23) (Ls := #[.val (.int p1), .val (.int p2), .val (.int p3), .unset, .unset, .unset, .unset, .unset, .unset]) (rest := [(.ref b66)]) (hb hby at_23)
  have N81 := Fr.snoc X81 N77 nb66
  have Z81 : n0 ≤ h81.size := by rw [W81.size]; exact Z77
  refine own_go st81 ?_
  have f82 := f78.wr W81
  have f83 := f79.other W81 (Nat.ne_of_lt lt_sa_b66)
  show own_End p e below s _ _ _ (T81.setTop (mkF m 24 #[.val (.int p1), .val (.int p2), .val (.int p3), .unset, .unset, .unset, .unset, .unset, .unset] [(.ref b66)]))
  refine own_go (fun t k => XS.dup X81.here hx rfl (hb hby at_24) rfl rfl k) ?_
  show own_End p e below s _ _ _ (T81.setTop (mkF m 25 #[.val (.int p1), .val (.int p2), .val (.int p3), .unset, .unset, .unset, .unset, .unset, .unset] [(.ref b66), (.ref b66)]))
  refine own_go (fun t k => XS.iconst X81.here hx rfl (hb hby at_25) k) ?_
  show own_End p e below s _ _ _ (T81.setTop (mkF m 26 #[.val (.int p1), .val (.int p2), .val (.int p3), .unset, .unset, .unset, .unset, .unset, .unset] [(.int (4 : Int32)), (.ref b66), (.ref b66)]))
  refine own_go (fun t k => XS.bipush X81.here hx rfl (hb hby at_26) k) ?_
  show own_End p e below s _ _ _ (T81.setTop (mkF m 28 #[.val (.int p1), .val (.int p2), .val (.int p3), .unset, .unset, .unset, .unset, .unset, .unset] [(.int (95 : Int32)), (.int (4 : Int32)), (.ref b66), (.ref b66)]))
  obtain ⟨T85, h85, X85, e85, W85, A85, st85⟩ := own_stI X81 hx hZ e81 A81 (j := (4 : Int32)) (x := (95 : Int32)) (by decide) (by decide) (pc := 28) (Ls := #[.val (.int p1), .val (.int p2), .val (.int p3), .unset, .unset, .unset, .unset, .unset, .unset]) (rest := [(.ref b66)]) (hb hby at_28)
  have N85 := Fr.snoc X85 N81 nb66
  have Z85 : n0 ≤ h85.size := by rw [W85.size]; exact Z81
  refine own_go st85 ?_
  have f86 := f82.wr W85
  have f87 := f83.other W85 (Nat.ne_of_lt lt_sa_b66)
  show own_End p e below s _ _ _ (T85.setTop (mkF m 29 #[.val (.int p1), .val (.int p2), .val (.int p3), .unset, .unset, .unset, .unset, .unset, .unset] [(.ref b66)]))
  refine own_go (fun t k => XS.dup X85.here hx rfl (hb hby at_29) rfl rfl k) ?_
  show own_End p e below s _ _ _ (T85.setTop (mkF m 30 #[.val (.int p1), .val (.int p2), .val (.int p3), .unset, .unset, .unset, .unset, .unset, .unset] [(.ref b66), (.ref b66)]))
  refine own_go (fun t k => XS.iconst X85.here hx rfl (hb hby at_30) k) ?_
  show own_End p e below s _ _ _ (T85.setTop (mkF m 31 #[.val (.int p1), .val (.int p2), .val (.int p3), .unset, .unset, .unset, .unset, .unset, .unset] [(.int (5 : Int32)), (.ref b66), (.ref b66)]))
  refine own_go (fun t k => XS.bipush X85.here hx rfl (hb hby at_31) k) ?_
  show own_End p e below s _ _ _ (T85.setTop (mkF m 33 #[.val (.int p1), .val (.int p2), .val (.int p3), .unset, .unset, .unset, .unset, .unset, .unset] [(.int (58 : Int32)), (.int (5 : Int32)), (.ref b66), (.ref b66)]))
  obtain ⟨T89, h89, X89, e89, W89, A89, st89⟩ := own_stI X85 hx hZ e85 A85 (j := (5 : Int32)) (x := (58 : Int32)) (by decide) (by decide) (pc := 33) (Ls := #[.val (.int p1), .val (.int p2), .val (.int p3), .unset, .unset, .unset, .unset, .unset, .unset]) (rest := [(.ref b66)]) (hb hby at_33)
  have N89 := Fr.snoc X89 N85 nb66
  have Z89 : n0 ≤ h89.size := by rw [W89.size]; exact Z85
  refine own_go st89 ?_
  have f90 := f86.wr W89
  have f91 := f87.other W89 (Nat.ne_of_lt lt_sa_b66)
  show own_End p e below s _ _ _ (T89.setTop (mkF m 34 #[.val (.int p1), .val (.int p2), .val (.int p3), .unset, .unset, .unset, .unset, .unset, .unset] [(.ref b66)]))
  refine own_go (fun t k => XS.dup X89.here hx rfl (hb hby at_34) rfl rfl k) ?_
  show own_End p e below s _ _ _ (T89.setTop (mkF m 35 #[.val (.int p1), .val (.int p2), .val (.int p3), .unset, .unset, .unset, .unset, .unset, .unset] [(.ref b66), (.ref b66)]))
  refine own_go (fun t k => XS.bipush X89.here hx rfl (hb hby at_35) k) ?_
  show own_End p e below s _ _ _ (T89.setTop (mkF m 37 #[.val (.int p1), .val (.int p2), .val (.int p3), .unset, .unset, .unset, .unset, .unset, .unset] [(.int (6 : Int32)), (.ref b66), (.ref b66)]))
  refine own_go (fun t k => XS.bipush X89.here hx rfl (hb hby at_37) k) ?_
  show own_End p e below s _ _ _ (T89.setTop (mkF m 39 #[.val (.int p1), .val (.int p2), .val (.int p3), .unset, .unset, .unset, .unset, .unset, .unset] [(.int (48 : Int32)), (.int (6 : Int32)), (.ref b66), (.ref b66)]))
  obtain ⟨T93, h93, X93, e93, W93, A93, st93⟩ := own_stI X89 hx hZ e89 A89 (j := (6 : Int32)) (x := (48 : Int32)) (by decide) (by decide) (pc := 39) (Ls := #[.val (.int p1), .val (.int p2), .val (.int p3), .unset, .unset, .unset, .unset, .unset, .unset]) (rest := [(.ref b66)]) (hb hby at_39)
  have N93 := Fr.snoc X93 N89 nb66
  have Z93 : n0 ≤ h93.size := by rw [W93.size]; exact Z89
  refine own_go st93 ?_
  have f94 := f90.wr W93
  have f95 := f91.other W93 (Nat.ne_of_lt lt_sa_b66)
  show own_End p e below s _ _ _ (T93.setTop (mkF m 40 #[.val (.int p1), .val (.int p2), .val (.int p3), .unset, .unset, .unset, .unset, .unset, .unset] [(.ref b66)]))
  refine own_go (fun t k => XS.dup X93.here hx rfl (hb hby at_40) rfl rfl k) ?_
  show own_End p e below s _ _ _ (T93.setTop (mkF m 41 #[.val (.int p1), .val (.int p2), .val (.int p3), .unset, .unset, .unset, .unset, .unset, .unset] [(.ref b66), (.ref b66)]))
  refine own_go (fun t k => XS.bipush X93.here hx rfl (hb hby at_41) k) ?_
  show own_End p e below s _ _ _ (T93.setTop (mkF m 43 #[.val (.int p1), .val (.int p2), .val (.int p3), .unset, .unset, .unset, .unset, .unset, .unset] [(.int (7 : Int32)), (.ref b66), (.ref b66)]))
  refine own_go (fun t k => XS.bipush X93.here hx rfl (hb hby at_43) k) ?_
  show own_End p e below s _ _ _ (T93.setTop (mkF m 45 #[.val (.int p1), .val (.int p2), .val (.int p3), .unset, .unset, .unset, .unset, .unset, .unset] [(.int (57 : Int32)), (.int (7 : Int32)), (.ref b66), (.ref b66)]))
  obtain ⟨T97, h97, X97, e97, W97, A97, st97⟩ := own_stI X93 hx hZ e93 A93 (j := (7 : Int32)) (x := (57 : Int32)) (by decide) (by decide) (pc := 45) (Ls := #[.val (.int p1), .val (.int p2), .val (.int p3), .unset, .unset, .unset, .unset, .unset, .unset]) (rest := [(.ref b66)]) (hb hby at_45)
  have N97 := Fr.snoc X97 N93 nb66
  have Z97 : n0 ≤ h97.size := by rw [W97.size]; exact Z93
  refine own_go st97 ?_
  have f98 := f94.wr W97
  have f99 := f95.other W97 (Nat.ne_of_lt lt_sa_b66)
  show own_End p e below s _ _ _ (T97.setTop (mkF m 46 #[.val (.int p1), .val (.int p2), .val (.int p3), .unset, .unset, .unset, .unset, .unset, .unset] [(.ref b66)]))
  refine own_go (fun t k => XS.dup X97.here hx rfl (hb hby at_46) rfl rfl k) ?_
  show own_End p e below s _ _ _ (T97.setTop (mkF m 47 #[.val (.int p1), .val (.int p2), .val (.int p3), .unset, .unset, .unset, .unset, .unset, .unset] [(.ref b66), (.ref b66)]))
  refine own_go (fun t k => XS.bipush X97.here hx rfl (hb hby at_47) k) ?_
  show own_End p e below s _ _ _ (T97.setTop (mkF m 49 #[.val (.int p1), .val (.int p2), .val (.int p3), .unset, .unset, .unset, .unset, .unset, .unset] [(.int (8 : Int32)), (.ref b66), (.ref b66)]))
  refine own_go (fun t k => XS.iconst X97.here hx rfl (hb hby at_49) k) ?_
  show own_End p e below s _ _ _ (T97.setTop (mkF m 50 #[.val (.int p1), .val (.int p2), .val (.int p3), .unset, .unset, .unset, .unset, .unset, .unset] [(.int (0 : Int32)), (.int (8 : Int32)), (.ref b66), (.ref b66)]))
  obtain ⟨T101, h101, X101, e101, W101, A101, st101⟩ := own_stI X97 hx hZ e97 A97 (j := (8 : Int32)) (x := (0 : Int32)) (by decide) (by decide) (pc := 50) (Ls := #[.val (.int p1), .val (.int p2), .val (.int p3), .unset, .unset, .unset, .unset, .unset, .unset]) (rest := [(.ref b66)]) (hb hby at_50)
  have N101 := Fr.snoc X101 N97 nb66
  have Z101 : n0 ≤ h101.size := by rw [W101.size]; exact Z97
  refine own_go st101 ?_
  have f102 := f98.wr W101
  have f103 := f99.other W101 (Nat.ne_of_lt lt_sa_b66)
  show own_End p e below s _ _ _ (T101.setTop (mkF m 51 #[.val (.int p1), .val (.int p2), .val (.int p3), .unset, .unset, .unset, .unset, .unset, .unset] [(.ref b66)]))
  refine own_go (fun t k => XS.dup X101.here hx rfl (hb hby at_51) rfl rfl k) ?_
  show own_End p e below s _ _ _ (T101.setTop (mkF m 52 #[.val (.int p1), .val (.int p2), .val (.int p3), .unset, .unset, .unset, .unset, .unset, .unset] [(.ref b66), (.ref b66)]))
  refine own_go (fun t k => XS.bipush X101.here hx rfl (hb hby at_52) k) ?_
  show own_End p e below s _ _ _ (T101.setTop (mkF m 54 #[.val (.int p1), .val (.int p2), .val (.int p3), .unset, .unset, .unset, .unset, .unset, .unset] [(.int (9 : Int32)), (.ref b66), (.ref b66)]))
  refine own_go (fun t k => XS.bipush X101.here hx rfl (hb hby at_54) k) ?_
  show own_End p e below s _ _ _ (T101.setTop (mkF m 56 #[.val (.int p1), .val (.int p2), .val (.int p3), .unset, .unset, .unset, .unset, .unset, .unset] [(.int (127 : Int32)), (.int (9 : Int32)), (.ref b66), (.ref b66)]))
  obtain ⟨T105, h105, X105, e105, W105, A105, st105⟩ := own_stI X101 hx hZ e101 A101 (j := (9 : Int32)) (x := (127 : Int32)) (by decide) (by decide) (pc := 56) (Ls := #[.val (.int p1), .val (.int p2), .val (.int p3), .unset, .unset, .unset, .unset, .unset, .unset]) (rest := [(.ref b66)]) (hb hby at_56)
  have N105 := Fr.snoc X105 N101 nb66
  have Z105 : n0 ≤ h105.size := by rw [W105.size]; exact Z101
  refine own_go st105 ?_
  have f106 := f102.wr W105
  have f107 := f103.other W105 (Nat.ne_of_lt lt_sa_b66)
  show own_End p e below s _ _ _ (T105.setTop (mkF m 57 #[.val (.int p1), .val (.int p2), .val (.int p3), .unset, .unset, .unset, .unset, .unset, .unset] [(.ref b66)]))
  refine own_go (fun t k => XS.dup X105.here hx rfl (hb hby at_57) rfl rfl k) ?_
  show own_End p e below s _ _ _ (T105.setTop (mkF m 58 #[.val (.int p1), .val (.int p2), .val (.int p3), .unset, .unset, .unset, .unset, .unset, .unset] [(.ref b66), (.ref b66)]))
  refine own_go (fun t k => XS.bipush X105.here hx rfl (hb hby at_58) k) ?_
  show own_End p e below s _ _ _ (T105.setTop (mkF m 60 #[.val (.int p1), .val (.int p2), .val (.int p3), .unset, .unset, .unset, .unset, .unset, .unset] [(.int (10 : Int32)), (.ref b66), (.ref b66)]))
  refine own_go (fun t k => XS.sipush X105.here hx rfl (hb hby at_60) k) ?_
  show own_End p e below s _ _ _ (T105.setTop (mkF m 63 #[.val (.int p1), .val (.int p2), .val (.int p3), .unset, .unset, .unset, .unset, .unset, .unset] [(.int (128 : Int32)), (.int (10 : Int32)), (.ref b66), (.ref b66)]))
  obtain ⟨T109, h109, X109, e109, W109, A109, st109⟩ := own_stI X105 hx hZ e105 A105 (j := (10 : Int32)) (x := (128 : Int32)) (by decide) (by decide) (pc := 63) (Ls := #[.val (.int p1), .val (.int p2), .val (.int p3), .unset, .unset, .unset, .unset, .unset, .unset]) (rest := [(.ref b66)]) (hb hby at_63)
  have N109 := Fr.snoc X109 N105 nb66
  have Z109 : n0 ≤ h109.size := by rw [W109.size]; exact Z105
  refine own_go st109 ?_
  have f110 := f106.wr W109
  have f111 := f107.other W109 (Nat.ne_of_lt lt_sa_b66)
  show own_End p e below s _ _ _ (T109.setTop (mkF m 64 #[.val (.int p1), .val (.int p2), .val (.int p3), .unset, .unset, .unset, .unset, .unset, .unset] [(.ref b66)]))
  refine own_go (fun t k => XS.dup X109.here hx rfl (hb hby at_64) rfl rfl k) ?_
  show own_End p e below s _ _ _ (T109.setTop (mkF m 65 #[.val (.int p1), .val (.int p2), .val (.int p3), .unset, .unset, .unset, .unset, .unset, .unset] [(.ref b66), (.ref b66)]))
  refine own_go (fun t k => XS.bipush X109.here hx rfl (hb hby at_65) k) ?_
  show own_End p e below s _ _ _ (T109.setTop (mkF m 67 #[.val (.int p1), .val (.int p2), .val (.int p3), .unset, .unset, .unset, .unset, .unset, .unset] [(.int (11 : Int32)), (.ref b66), (.ref b66)]))
  refine own_go (fun t k => XS.sipush X109.here hx rfl (hb hby at_67) k) ?_
  show own_End p e below s _ _ _ (T109.setTop (mkF m 70 #[.val (.int p1), .val (.int p2), .val (.int p3), .unset, .unset, .unset, .unset, .unset, .unset] [(.int (183 : Int32)), (.int (11 : Int32)), (.ref b66), (.ref b66)]))
  obtain ⟨T113, h113, X113, e113, W113, A113, st113⟩ := own_stI X109 hx hZ e109 A109 (j := (11 : Int32)) (x := (183 : Int32)) (by decide) (by decide) (pc := 70) (Ls := #[.val (.int p1), .val (.int p2), .val (.int p3), .unset, .unset, .unset, .unset, .unset, .unset]) (rest := [(.ref b66)]) (hb hby at_70)
  have N113 := Fr.snoc X113 N109 nb66
  have Z113 : n0 ≤ h113.size := by rw [W113.size]; exact Z109
  refine own_go st113 ?_
  have f114 := f110.wr W113
  have f115 := f111.other W113 (Nat.ne_of_lt lt_sa_b66)
  show own_End p e below s _ _ _ (T113.setTop (mkF m 71 #[.val (.int p1), .val (.int p2), .val (.int p3), .unset, .unset, .unset, .unset, .unset, .unset] [(.ref b66)]))
  refine own_go (fun t k => XS.dup X113.here hx rfl (hb hby at_71) rfl rfl k) ?_
  show own_End p e below s _ _ _ (T113.setTop (mkF m 72 #[.val (.int p1), .val (.int p2), .val (.int p3), .unset, .unset, .unset, .unset, .unset, .unset] [(.ref b66), (.ref b66)]))
  refine own_go (fun t k => XS.bipush X113.here hx rfl (hb hby at_72) k) ?_
  show own_End p e below s _ _ _ (T113.setTop (mkF m 74 #[.val (.int p1), .val (.int p2), .val (.int p3), .unset, .unset, .unset, .unset, .unset, .unset] [(.int (12 : Int32)), (.ref b66), (.ref b66)]))
  refine own_go (fun t k => XS.sipush X113.here hx rfl (hb hby at_74) k) ?_
  show own_End p e below s _ _ _ (T113.setTop (mkF m 77 #[.val (.int p1), .val (.int p2), .val (.int p3), .unset, .unset, .unset, .unset, .unset, .unset] [(.int (192 : Int32)), (.int (12 : Int32)), (.ref b66), (.ref b66)]))
  obtain ⟨T117, h117, X117, e117, W117, A117, st117⟩ := own_stI X113 hx hZ e113 A113 (j := (12 : Int32)) (x := (192 : Int32)) (by decide) (by decide) (pc := 77) (Ls := #[.val (.int p1), .val (.int p2), .val (.int p3), .unset, .unset, .unset, .unset, .unset, .unset]) (rest := [(.ref b66)]) (hb hby at_77)
  have N117 := Fr.snoc X117 N113 nb66
  have Z117 : n0 ≤ h117.size := by rw [W117.size]; exact Z113
  refine own_go st117 ?_
  have f118 := f114.wr W117
  have f119 := f115.other W117 (Nat.ne_of_lt lt_sa_b66)
  show own_End p e below s _ _ _ (T117.setTop (mkF m 78 #[.val (.int p1), .val (.int p2), .val (.int p3), .unset, .unset, .unset, .unset, .unset, .unset] [(.ref b66)]))
  refine own_go (fun t k => XS.dup X117.here hx rfl (hb hby at_78) rfl rfl k) ?_
  show own_End p e below s _ _ _ (T117.setTop (mkF m 79 #[.val (.int p1), .val (.int p2), .val (.int p3), .unset, .unset, .unset, .unset, .unset, .unset] [(.ref b66), (.ref b66)]))
  refine own_go (fun t k => XS.bipush X117.here hx rfl (hb hby at_79) k) ?_
  show own_End p e below s _ _ _ (T117.setTop (mkF m 81 #[.val (.int p1), .val (.int p2), .val (.int p3), .unset, .unset, .unset, .unset, .unset, .unset] [(.int (13 : Int32)), (.ref b66), (.ref b66)]))
  refine own_go (fun t k => XS.sipush X117.here hx rfl (hb hby at_81) k) ?_
  show own_End p e below s _ _ _ (T117.setTop (mkF m 84 #[.val (.int p1), .val (.int p2), .val (.int p3), .unset, .unset, .unset, .unset, .unset, .unset] [(.int (214 : Int32)), (.int (13 : Int32)), (.ref b66), (.ref b66)]))
  obtain ⟨T121, h121, X121, e121, W121, A121, st121⟩ := own_stI X117 hx hZ e117 A117 (j := (13 : Int32)) (x := (214 : Int32)) (by decide) (by decide) (pc := 84) (Ls := #[.val (.int p1), .val (.int p2), .val (.int p3), .unset, .unset, .unset, .unset, .unset, .unset]) (rest := [(.ref b66)]) (hb hby at_84)
  have N121 := Fr.snoc X121 N117 nb66
  have Z121 : n0 ≤ h121.size := by rw [W121.size]; exact Z117
  refine own_go st121 ?_
  have f122 := f118.wr W121
  have f123 := f119.other W121 (Nat.ne_of_lt lt_sa_b66)
  show own_End p e below s _ _ _ (T121.setTop (mkF m 85 #[.val (.int p1), .val (.int p2), .val (.int p3), .unset, .unset, .unset, .unset, .unset, .unset] [(.ref b66)]))
  refine own_go (fun t k => XS.dup X121.here hx rfl (hb hby at_85) rfl rfl k) ?_
  show own_End p e below s _ _ _ (T121.setTop (mkF m 86 #[.val (.int p1), .val (.int p2), .val (.int p3), .unset, .unset, .unset, .unset, .unset, .unset] [(.ref b66), (.ref b66)]))
  refine own_go (fun t k => XS.bipush X121.here hx rfl (hb hby at_86) k) ?_
  show own_End p e below s _ _ _ (T121.setTop (mkF m 88 #[.val (.int p1), .val (.int p2), .val (.int p3), .unset, .unset, .unset, .unset, .unset, .unset] [(.int (14 : Int32)), (.ref b66), (.ref b66)]))
  refine own_go (fun t k => XS.sipush X121.here hx rfl (hb hby at_88) k) ?_
  show own_End p e below s _ _ _ (T121.setTop (mkF m 91 #[.val (.int p1), .val (.int p2), .val (.int p3), .unset, .unset, .unset, .unset, .unset, .unset] [(.int (216 : Int32)), (.int (14 : Int32)), (.ref b66), (.ref b66)]))
  obtain ⟨T125, h125, X125, e125, W125, A125, st125⟩ := own_stI X121 hx hZ e121 A121 (j := (14 : Int32)) (x := (216 : Int32)) (by decide) (by decide) (pc := 91) (Ls := #[.val (.int p1), .val (.int p2), .val (.int p3), .unset, .unset, .unset, .unset, .unset, .unset]) (rest := [(.ref b66)]) (hb hby at_91)
  have N125 := Fr.snoc X125 N121 nb66
  have Z125 : n0 ≤ h125.size := by rw [W125.size]; exact Z121
  refine own_go st125 ?_
  have f126 := f122.wr W125
  have f127 := f123.other W125 (Nat.ne_of_lt lt_sa_b66)
  show own_End p e below s _ _ _ (T125.setTop (mkF m 92 #[.val (.int p1), .val (.int p2), .val (.int p3), .unset, .unset, .unset, .unset, .unset, .unset] [(.ref b66)]))
  refine own_go (fun t k => XS.dup X125.here hx rfl (hb hby at_92) rfl rfl k) ?_
  show own_End p e below s _ _ _ (T125.setTop (mkF m 93 #[.val (.int p1), .val (.int p2), .val (.int p3), .unset, .unset, .unset, .unset, .unset, .unset] [(.ref b66), (.ref b66)]))
  refine own_go (fun t k => XS.bipush X125.here hx rfl (hb hby at_93) k) ?_
  show own_End p e below s _ _ _ (T125.setTop (mkF m 95 #[.val (.int p1), .val (.int p2), .val (.int p3), .unset, .unset, .unset, .unset, .unset, .unset] [(.int (15 : Int32)), (.ref b66), (.ref b66)]))
  refine own_go (fun t k => XS.sipush X125.here hx rfl (hb hby at_95) k) ?_
  show own_End p e below s _ _ _ (T125.setTop (mkF m 98 #[.val (.int p1), .val (.int p2), .val (.int p3), .unset, .unset, .unset, .unset, .unset, .unset] [(.int (246 : Int32)), (.int (15 : Int32)), (.ref b66), (.ref b66)]))
  obtain ⟨T129, h129, X129, e129, W129, A129, st129⟩ := own_stI X125 hx hZ e125 A125 (j := (15 : Int32)) (x := (246 : Int32)) (by decide) (by decide) (pc := 98) (Ls := #[.val (.int p1), .val (.int p2), .val (.int p3), .unset, .unset, .unset, .unset, .unset, .unset]) (rest := [(.ref b66)]) (hb hby at_98)
  have N129 := Fr.snoc X129 N125 nb66
  have Z129 : n0 ≤ h129.size := by rw [W129.size]; exact Z125
  refine own_go st129 ?_
  have f130 := f126.wr W129
  have f131 := f127.other W129 (Nat.ne_of_lt lt_sa_b66)
  show own_End p e below s _ _ _ (T129.setTop (mkF m 99 #[.val (.int p1), .val (.int p2), .val (.int p3), .unset, .unset, .unset, .unset, .unset, .unset] [(.ref b66)]))
  refine own_go (fun t k => XS.dup X129.here hx rfl (hb hby at_99) rfl rfl k) ?_
  show own_End p e below s _ _ _ (T129.setTop (mkF m 100 #[.val (.int p1), .val (.int p2), .val (.int p3), .unset, .unset, .unset, .unset, .unset, .unset] [(.ref b66), (.ref b66)]))
  refine own_go (fun t k => XS.bipush X129.here hx rfl (hb hby at_100) k) ?_
  show own_End p e below s _ _ _ (T129.setTop (mkF m 102 #[.val (.int p1), .val (.int p2), .val (.int p3), .unset, .unset, .unset, .unset, .unset, .unset] [(.int (16 : Int32)), (.ref b66), (.ref b66)]))
  refine own_go (fun t k => XS.sipush X129.here hx rfl (hb hby at_102) k) ?_
  show own_End p e below s _ _ _ (T129.setTop (mkF m 105 #[.val (.int p1), .val (.int p2), .val (.int p3), .unset, .unset, .unset, .unset, .unset, .unset] [(.int (248 : Int32)), (.int (16 : Int32)), (.ref b66), (.ref b66)]))
  obtain ⟨T133, h133, X133, e133, W133, A133, st133⟩ := own_stI X129 hx hZ e129 A129 (j := (16 : Int32)) (x := (248 : Int32)) (by decide) (by decide) (pc := 105) (Ls := #[.val (.int p1), .val (.int p2), .val (.int p3), .unset, .unset, .unset, .unset, .unset, .unset]) (rest := [(.ref b66)]) (hb hby at_105)
  have N133 := Fr.snoc X133 N129 nb66
  have Z133 : n0 ≤ h133.size := by rw [W133.size]; exact Z129
  refine own_go st133 ?_
  have f134 := f130.wr W133
  have f135 := f131.other W133 (Nat.ne_of_lt lt_sa_b66)
  show own_End p e below s _ _ _ (T133.setTop (mkF m 106 #[.val (.int p1), .val (.int p2), .val (.int p3), .unset, .unset, .unset, .unset, .unset, .unset] [(.ref b66)]))
  refine own_go (fun t k => XS.dup X133.here hx rfl (hb hby at_106) rfl rfl k) ?_
  show own_End p e below s _ _ _ (T133.setTop (mkF m 107 #[.val (.int p1), .val (.int p2), .val (.int p3), .unset, .unset, .unset, .unset, .unset, .unset] [(.ref b66), (.ref b66)]))
  refine own_go (fun t k => XS.bipush X133.here hx rfl (hb hby at_107) k) ?_
  show own_End p e below s _ _ _ (T133.setTop (mkF m 109 #[.val (.int p1), .val (.int p2), .val (.int p3), .unset, .unset, .unset, .unset, .unset, .unset] [(.int (17 : Int32)), (.ref b66), (.ref b66)]))
  refine own_go (fun t k => XS.sipush X133.here hx rfl (hb hby at_109) k) ?_
  show own_End p e below s _ _ _ (T133.setTop (mkF m 112 #[.val (.int p1), .val (.int p2), .val (.int p3), .unset, .unset, .unset, .unset, .unset, .unset] [(.int (767 : Int32)), (.int (17 : Int32)), (.ref b66), (.ref b66)]))
  obtain ⟨T137, h137, X137, e137, W137, A137, st137⟩ := own_stI X133 hx hZ e133 A133 (j := (17 : Int32)) (x := (767 : Int32)) (by decide) (by decide) (pc := 112) (Ls := #[.val (.int p1), .val (.int p2), .val (.int p3), .unset, .unset, .unset, .unset, .unset, .unset]) (rest := [(.ref b66)]) (hb hby at_112)
  have N137 := Fr.snoc X137 N133 nb66
  have Z137 : n0 ≤ h137.size := by rw [W137.size]; exact Z133
  refine own_go st137 ?_
  have f138 := f134.wr W137
  have f139 := f135.other W137 (Nat.ne_of_lt lt_sa_b66)
  show own_End p e below s _ _ _ (T137.setTop (mkF m 113 #[.val (.int p1), .val (.int p2), .val (.int p3), .unset, .unset, .unset, .unset, .unset, .unset] [(.ref b66)]))
  refine own_go (fun t k => XS.dup X137.here hx rfl (hb hby at_113) rfl rfl k) ?_
  show own_End p e below s _ _ _ (T137.setTop (mkF m 114 #[.val (.int p1), .val (.int p2), .val (.int p3), .unset, .unset, .unset, .unset, .unset, .unset] [(.ref b66), (.ref b66)]))
  refine own_go (fun t k => XS.bipush X137.here hx rfl (hb hby at_114) k) ?_
  show own_End p e below s _ _ _ (T137.setTop (mkF m 116 #[.val (.int p1), .val (.int p2), .val (.int p3), .unset, .unset, .unset, .unset, .unset, .unset] [(.int (18 : Int32)), (.ref b66), (.ref b66)]))
  refine own_go (fun t k => XS.sipush X137.here hx rfl (hb hby at_116) k) ?_
  show own_End p e below s _ _ _ (T137.setTop (mkF m 119 #[.val (.int p1), .val (.int p2), .val (.int p3), .unset, .unset, .unset, .unset, .unset, .unset] [(.int (880 : Int32)), (.int (18 : Int32)), (.ref b66), (.ref b66)]))
  obtain ⟨T141, h141, X141, e141, W141, A141, st141⟩ := own_stI X137 hx hZ e137 A137 (j := (18 : Int32)) (x := (880 : Int32)) (by decide) (by decide) (pc := 119) (Ls := #[.val (.int p1), .val (.int p2), .val (.int p3), .unset, .unset, .unset, .unset, .unset, .unset]) (rest := [(.ref b66)]) (hb hby at_119)
  have N141 := Fr.snoc X141 N137 nb66
  have Z141 : n0 ≤ h141.size := by rw [W141.size]; exact Z137
  refine own_go st141 ?_
  have f142 := f138.wr W141
  have f143 := f139.other W141 (Nat.ne_of_lt lt_sa_b66)
  show own_End p e below s _ _ _ (T141.setTop (mkF m 120 #[.val (.int p1), .val (.int p2), .val (.int p3), .unset, .unset, .unset, .unset, .unset, .unset] [(.ref b66)]))
  refine own_go (fun t k => XS.dup X141.here hx rfl (hb hby at_120) rfl rfl k) ?_
  show own_End p e below s _ _ _ (T141.setTop (mkF m 121 #[.val (.int p1), .val (.int p2), .val (.int p3), .unset, .unset, .unset, .unset, .unset, .unset] [(.ref b66), (.ref b66)]))
  refine own_go (fun t k => XS.bipush X141.here hx rfl (hb hby at_121) k) ?_
  show own_End p e below s _ _ _ (T141.setTop (mkF m 123 #[.val (.int p1), .val (.int p2), .val (.int p3), .unset, .unset, .unset, .unset, .unset, .unset] [(.int (19 : Int32)), (.ref b66), (.ref b66)]))
  refine own_go (fun t k => XS.sipush X141.here hx rfl (hb hby at_123) k) ?_
  show own_End p e below s _ _ _ (T141.setTop (mkF m 126 #[.val (.int p1), .val (.int p2), .val (.int p3), .unset, .unset, .unset, .unset, .unset, .unset] [(.int (893 : Int32)), (.int (19 : Int32)), (.ref b66), (.ref b66)]))
  obtain ⟨T145, h145, X145, e145, W145, A145, st145⟩ := own_stI X141 hx hZ e141 A141 (j := (19 : Int32)) (x := (893 : Int32)) (by decide) (by decide) (pc := 126) (Ls := #[.val (.int p1), .val (.int p2), .val (.int p3), .unset, .unset, .unset, .unset, .unset, .unset]) (rest := [(.ref b66)]) (hb hby at_126)
  have N145 := Fr.snoc X145 N141 nb66
  have Z145 : n0 ≤ h145.size := by rw [W145.size]; exact Z141
  refine own_go st145 ?_
  have f146 := f142.wr W145
  have f147 := f143.other W145 (Nat.ne_of_lt lt_sa_b66)
  show own_End p e below s _ _ _ (T145.setTop (mkF m 127 #[.val (.int p1), .val (.int p2), .val (.int p3), .unset, .unset, .unset, .unset, .unset, .unset] [(.ref b66)]))
  refine own_go (fun t k => XS.dup X145.here hx rfl (hb hby at_127) rfl rfl k) ?_
  show own_End p e below s _ _ _ (T145.setTop (mkF m 128 #[.val (.int p1), .val (.int p2), .val (.int p3), .unset, .unset, .unset, .unset, .unset, .unset] [(.ref b66), (.ref b66)]))
  refine own_go (fun t k => XS.bipush X145.here hx rfl (hb hby at_128) k) ?_
  show own_End p e below s _ _ _ (T145.setTop (mkF m 130 #[.val (.int p1), .val (.int p2), .val (.int p3), .unset, .unset, .unset, .unset, .unset, .unset] [(.int (20 : Int32)), (.ref b66), (.ref b66)]))
  refine own_go (fun t k => XS.sipush X145.here hx rfl (hb hby at_130) k) ?_
  show own_End p e below s _ _ _ (T145.setTop (mkF m 133 #[.val (.int p1), .val (.int p2), .val (.int p3), .unset, .unset, .unset, .unset, .unset, .unset] [(.int (895 : Int32)), (.int (20 : Int32)), (.ref b66), (.ref b66)]))
  obtain ⟨T149, h149, X149, e149, W149, A149, st149⟩ := own_stI X145 hx hZ e145 A145 (j := (20 : Int32)) (x := (895 : Int32)) (by decide) (by decide) (pc := 133) (Ls := #[.val (.int p1), .val (.int p2), .val (.int p3), .unset, .unset, .unset, .unset, .unset, .unset]) (rest := [(.ref b66)]) (hb hby at_133)
  have N149 := Fr.snoc X149 N145 nb66
  have Z149 : n0 ≤ h149.size := by rw [W149.size]; exact Z145
  refine own_go st149 ?_
  have f150 := f146.wr W149
  have f151 := f147.other W149 (Nat.ne_of_lt lt_sa_b66)
  show own_End p e below s _ _ _ (T149.setTop (mkF m 134 #[.val (.int p1), .val (.int p2), .val (.int p3), .unset, .unset, .unset, .unset, .unset, .unset] [(.ref b66)]))
  refine own_go (fun t k => XS.dup X149.here hx rfl (hb hby at_134) rfl rfl k) ?_
  show own_End p e below s _ _ _ (T149.setTop (mkF m 135 #[.val (.int p1), .val (.int p2), .val (.int p3), .unset, .unset, .unset, .unset, .unset, .unset] [(.ref b66), (.ref b66)]))
  refine own_go (fun t k => XS.bipush X149.here hx rfl (hb hby at_135) k) ?_
  show own_End p e below s _ _ _ (T149.setTop (mkF m 137 #[.val (.int p1), .val (.int p2), .val (.int p3), .unset, .unset, .unset, .unset, .unset, .unset] [(.int (21 : Int32)), (.ref b66), (.ref b66)]))
  refine own_go (fun t k => XS.sipush X149.here hx rfl (hb hby at_137) k) ?_
  show own_End p e below s _ _ _ (T149.setTop (mkF m 140 #[.val (.int p1), .val (.int p2), .val (.int p3), .unset, .unset, .unset, .unset, .unset, .unset] [(.int (8191 : Int32)), (.int (21 : Int32)), (.ref b66), (.ref b66)]))
  obtain ⟨T153, h153, X153, e153, W153, A153, st153⟩ := own_stI X149 hx hZ e149 A149 (j := (21 : Int32)) (x := (8191 : Int32)) (by decide) (by decide) (pc := 140) (Ls := #[.val (.int p1), .val (.int p2), .val (.int p3), .unset, .unset, .unset, .unset, .unset, .unset]) (rest := [(.ref b66)]) (hb hby at_140)
  have N153 := Fr.snoc X153 N149 nb66
  have Z153 : n0 ≤ h153.size := by rw [W153.size]; exact Z149
  refine own_go st153 ?_
  have f154 := f150.wr W153
  have f155 := f151.other W153 (Nat.ne_of_lt lt_sa_b66)
  show own_End p e below s _ _ _ (T153.setTop (mkF m 141 #[.val (.int p1), .val (.int p2), .val (.int p3), .unset, .unset, .unset, .unset, .unset, .unset] [(.ref b66)]))
  refine own_go (fun t k => XS.dup X153.here hx rfl (hb hby at_141) rfl rfl k) ?_
  show own_End p e below s _ _ _ (T153.setTop (mkF m 142 #[.val (.int p1), .val (.int p2), .val (.int p3), .unset, .unset, .unset, .unset, .unset, .unset] [(.ref b66), (.ref b66)]))
  refine own_go (fun t k => XS.bipush X153.here hx rfl (hb hby at_142) k) ?_
  show own_End p e below s _ _ _ (T153.setTop (mkF m 144 #[.val (.int p1), .val (.int p2), .val (.int p3), .unset, .unset, .unset, .unset, .unset, .unset] [(.int (22 : Int32)), (.ref b66), (.ref b66)]))
  refine own_go (fun t k => XS.sipush X153.here hx rfl (hb hby at_144) k) ?_
  show own_End p e below s _ _ _ (T153.setTop (mkF m 147 #[.val (.int p1), .val (.int p2), .val (.int p3), .unset, .unset, .unset, .unset, .unset, .unset] [(.int (8204 : Int32)), (.int (22 : Int32)), (.ref b66), (.ref b66)]))
  obtain ⟨T157, h157, X157, e157, W157, A157, st157⟩ := own_stI X153 hx hZ e153 A153 (j := (22 : Int32)) (x := (8204 : Int32)) (by decide) (by decide) (pc := 147) (Ls := #[.val (.int p1), .val (.int p2), .val (.int p3), .unset, .unset, .unset, .unset, .unset, .unset]) (rest := [(.ref b66)]) (hb hby at_147)
  have N157 := Fr.snoc X157 N153 nb66
  have Z157 : n0 ≤ h157.size := by rw [W157.size]; exact Z153
  refine own_go st157 ?_
  have f158 := f154.wr W157
  have f159 := f155.other W157 (Nat.ne_of_lt lt_sa_b66)
  show own_End p e below s _ _ _ (T157.setTop (mkF m 148 #[.val (.int p1), .val (.int p2), .val (.int p3), .unset, .unset, .unset, .unset, .unset, .unset] [(.ref b66)]))
  refine own_go (fun t k => XS.dup X157.here hx rfl (hb hby at_148) rfl rfl k) ?_
  show own_End p e below s _ _ _ (T157.setTop (mkF m 149 #[.val (.int p1), .val (.int p2), .val (.int p3), .unset, .unset, .unset, .unset, .unset, .unset] [(.ref b66), (.ref b66)]))
  refine own_go (fun t k => XS.bipush X157.here hx rfl (hb hby at_149) k) ?_
  show own_End p e below s _ _ _ (T157.setTop (mkF m 151 #[.val (.int p1), .val (.int p2), .val (.int p3), .unset, .unset, .unset, .unset, .unset, .unset] [(.int (23 : Int32)), (.ref b66), (.ref b66)]))
  refine own_go (fun t k => XS.sipush X157.here hx rfl (hb hby at_151) k) ?_
  show own_End p e below s _ _ _ (T157.setTop (mkF m 154 #[.val (.int p1), .val (.int p2), .val (.int p3), .unset, .unset, .unset, .unset, .unset, .unset] [(.int (8205 : Int32)), (.int (23 : Int32)), (.ref b66), (.ref b66)]))
  obtain ⟨T161, h161, X161, e161, W161, A161, st161⟩ := own_stI X157 hx hZ e157 A157 (j := (23 : Int32)) (x := (8205 : Int32)) (by decide) (by decide) (pc := 154) (Ls := #[.val (.int p1), .val (.int p2), .val (.int p3), .unset, .unset, .unset, .unset, .unset, .unset]) (rest := [(.ref b66)]) (hb hby at_154)
  have N161 := Fr.snoc X161 N157 nb66
  have Z161 : n0 ≤ h161.size := by rw [W161.size]; exact Z157
  refine own_go st161 ?_
  have f162 := f158.wr W161
  have f163 := f159.other W161 (Nat.ne_of_lt lt_sa_b66)
  show own_End p e below s _ _ _ (T161.setTop (mkF m 155 #[.val (.int p1), .val (.int p2), .val (.int p3), .unset, .unset, .unset, .unset, .unset, .unset] [(.ref b66)]))
  refine own_go (fun t k => XS.dup X161.here hx rfl (hb hby at_155) rfl rfl k) ?_
  show own_End p e below s _ _ _ (T161.setTop (mkF m 156 #[.val (.int p1), .val (.int p2), .val (.int p3), .unset, .unset, .unset, .unset, .unset, .unset] [(.ref b66), (.ref b66)]))
  refine own_go (fun t k => XS.bipush X161.here hx rfl (hb hby at_156) k) ?_
  show own_End p e below s _ _ _ (T161.setTop (mkF m 158 #[.val (.int p1), .val (.int p2), .val (.int p3), .unset, .unset, .unset, .unset, .unset, .unset] [(.int (24 : Int32)), (.ref b66), (.ref b66)]))
  refine own_go (fun t k => XS.sipush X161.here hx rfl (hb hby at_158) k) ?_
  show own_End p e below s _ _ _ (T161.setTop (mkF m 161 #[.val (.int p1), .val (.int p2), .val (.int p3), .unset, .unset, .unset, .unset, .unset, .unset] [(.int (8304 : Int32)), (.int (24 : Int32)), (.ref b66), (.ref b66)]))
  obtain ⟨T165, h165, X165, e165, W165, A165, st165⟩ := own_stI X161 hx hZ e161 A161 (j := (24 : Int32)) (x := (8304 : Int32)) (by decide) (by decide) (pc := 161) (Ls := #[.val (.int p1), .val (.int p2), .val (.int p3), .unset, .unset, .unset, .unset, .unset, .unset]) (rest := [(.ref b66)]) (hb hby at_161)
  have N165 := Fr.snoc X165 N161 nb66
  have Z165 : n0 ≤ h165.size := by rw [W165.size]; exact Z161
  refine own_go st165 ?_
  have f166 := f162.wr W165
  have f167 := f163.other W165 (Nat.ne_of_lt lt_sa_b66)
  show own_End p e below s _ _ _ (T165.setTop (mkF m 162 #[.val (.int p1), .val (.int p2), .val (.int p3), .unset, .unset, .unset, .unset, .unset, .unset] [(.ref b66)]))
  refine own_go (fun t k => XS.dup X165.here hx rfl (hb hby at_162) rfl rfl k) ?_
  show own_End p e below s _ _ _ (T165.setTop (mkF m 163 #[.val (.int p1), .val (.int p2), .val (.int p3), .unset, .unset, .unset, .unset, .unset, .unset] [(.ref b66), (.ref b66)]))
  refine own_go (fun t k => XS.bipush X165.here hx rfl (hb hby at_163) k) ?_
  show own_End p e below s _ _ _ (T165.setTop (mkF m 165 #[.val (.int p1), .val (.int p2), .val (.int p3), .unset, .unset, .unset, .unset, .unset, .unset] [(.int (25 : Int32)), (.ref b66), (.ref b66)]))
  refine own_go (fun t k => XS.sipush X165.here hx rfl (hb hby at_165) k) ?_
  show own_End p e below s _ _ _ (T165.setTop (mkF m 168 #[.val (.int p1), .val (.int p2), .val (.int p3), .unset, .unset, .unset, .unset, .unset, .unset] [(.int (8591 : Int32)), (.int (25 : Int32)), (.ref b66), (.ref b66)]))
  obtain ⟨T169, h169, X169, e169, W169, A169, st169⟩ := own_stI X165 hx hZ e165 A165 (j := (25 : Int32)) (x := (8591 : Int32)) (by decide) (by decide) (pc := 168) (Ls := #[.val (.int p1), .val (.int p2), .val (.int p3), .unset, .unset, .unset, .unset, .unset, .unset]) (rest := [(.ref b66)]) (hb hby at_168)
  have N169 := Fr.snoc X169 N165 nb66
  have Z169 : n0 ≤ h169.size := by rw [W169.size]; exact Z165
  refine own_go st169 ?_
  have f170 := f166.wr W169
  have f171 := f167.other W169 (Nat.ne_of_lt lt_sa_b66)
  show own_End p e below s _ _ _ (T169.setTop (mkF m 169 #[.val (.int p1), .val (.int p2), .val (.int p3), .unset, .unset, .unset, .unset, .unset, .unset] [(.ref b66)]))
  refine own_go (fun t k => XS.dup X169.here hx rfl (hb hby at_169) rfl rfl k) ?_
  show own_End p e below s _ _ _ (T169.setTop (mkF m 170 #[.val (.int p1), .val (.int p2), .val (.int p3), .unset, .unset, .unset, .unset, .unset, .unset] [(.ref b66), (.ref b66)]))
  refine own_go (fun t k => XS.bipush X169.here hx rfl (hb hby at_170) k) ?_
  show own_End p e below s _ _ _ (T169.setTop (mkF m 172 #[.val (.int p1), .val (.int p2), .val (.int p3), .unset, .unset, .unset, .unset, .unset, .unset] [(.int (26 : Int32)), (.ref b66), (.ref b66)]))
  refine own_go (fun t k => XS.sipush X169.here hx rfl (hb hby at_172) k) ?_
  show own_End p e below s _ _ _ (T169.setTop (mkF m 175 #[.val (.int p1), .val (.int p2), .val (.int p3), .unset, .unset, .unset, .unset, .unset, .unset] [(.int (11264 : Int32)), (.int (26 : Int32)), (.ref b66), (.ref b66)]))
  obtain ⟨T173, h173, X173, e173, W173, A173, st173⟩ := own_stI X169 hx hZ e169 A169 (j := (26 : Int32)) (x := (11264 : Int32)) (by decide) (by decide) (pc := 175) (Ls := #[.val (.int p1), .val (.int p2), .val (.int p3), .unset, .unset, .unset, .unset, .unset, .unset]) (rest := [(.ref b66)]) (hb hby at_175)
  have N173 := Fr.snoc X173 N169 nb66
  have Z173 : n0 ≤ h173.size := by rw [W173.size]; exact Z169
  refine own_go st173 ?_
  have f174 := f170.wr W173
  have f175 := f171.other W173 (Nat.ne_of_lt lt_sa_b66)
  show own_End p e below s _ _ _ (T173.setTop (mkF m 176 #[.val (.int p1), .val (.int p2), .val (.int p3), .unset, .unset, .unset, .unset, .unset, .unset] [(.ref b66)]))
  refine own_go (fun t k => XS.dup X173.here hx rfl (hb hby at_176) rfl rfl k) ?_
  show own_End p e below s _ _ _ (T173.setTop (mkF m 177 #[.val (.int p1), .val (.int p2), .val (.int p3), .unset, .unset, .unset, .unset, .unset, .unset] [(.ref b66), (.ref b66)]))
  refine own_go (fun t k => XS.bipush X173.here hx rfl (hb hby at_177) k) ?_
  show own_End p e below s _ _ _ (T173.setTop (mkF m 179 #[.val (.int p1), .val (.int p2), .val (.int p3), .unset, .unset, .unset, .unset, .unset, .unset] [(.int (27 : Int32)), (.ref b66), (.ref b66)]))
  refine own_go (fun t k => XS.sipush X173.here hx rfl (hb hby at_179) k) ?_
  show own_End p e below s _ _ _ (T173.setTop (mkF m 182 #[.val (.int p1), .val (.int p2), .val (.int p3), .unset, .unset, .unset, .unset, .unset, .unset] [(.int (12271 : Int32)), (.int (27 : Int32)), (.ref b66), (.ref b66)]))
  obtain ⟨T177, h177, X177, e177, W177, A177, st177⟩ := own_stI X173 hx hZ e173 A173 (j := (27 : Int32)) (x := (12271 : Int32)) (by decide) (by decide) (pc := 182) (Ls := #[.val (.int p1), .val (.int p2), .val (.int p3), .unset, .unset, .unset, .unset, .unset, .unset]) (rest := [(.ref b66)]) (hb hby at_182)
  have N177 := Fr.snoc X177 N173 nb66
  have Z177 : n0 ≤ h177.size := by rw [W177.size]; exact Z173
  refine own_go st177 ?_
  have f178 := f174.wr W177
  have f179 := f175.other W177 (Nat.ne_of_lt lt_sa_b66)
  show own_End p e below s _ _ _ (T177.setTop (mkF m 183 #[.val (.int p1), .val (.int p2), .val (.int p3), .unset, .unset, .unset, .unset, .unset, .unset] [(.ref b66)]))
  refine own_go (fun t k => XS.dup X177.here hx rfl (hb hby at_183) rfl rfl k) ?_
  show own_End p e below s _ _ _ (T177.setTop (mkF m 184 #[.val (.int p1), .val (.int p2), .val (.int p3), .unset, .unset, .unset, .unset, .unset, .unset] [(.ref b66), (.ref b66)]))
  refine own_go (fun t k => XS.bipush X177.here hx rfl (hb hby at_184) k) ?_
  show own_End p e below s _ _ _ (T177.setTop (mkF m 186 #[.val (.int p1), .val (.int p2), .val (.int p3), .unset, .unset, .unset, .unset, .unset, .unset] [(.int (28 : Int32)), (.ref b66), (.ref b66)]))
  refine own_go (fun t k => XS.sipush X177.here hx rfl (hb hby at_186) k) ?_
  show own_End p e below s _ _ _ (T177.setTop (mkF m 189 #[.val (.int p1), .val (.int p2), .val (.int p3), .unset, .unset, .unset, .unset, .unset, .unset] [(.int (12289 : Int32)), (.int (28 : Int32)), (.ref b66), (.ref b66)]))
  obtain ⟨T181, h181, X181, e181, W181, A181, st181⟩ := own_stI X177 hx hZ e177 A177 (j := (28 : Int32)) (x := (12289 : Int32)) (by decide) (by decide) (pc := 189) (Ls := #[.val (.int p1), .val (.int p2), .val (.int p3), .unset, .unset, .unset, .unset, .unset, .unset]) (rest := [(.ref b66)]) (hb hby at_189)
  have N181 := Fr.snoc X181 N177 nb66
  have Z181 : n0 ≤ h181.size := by rw [W181.size]; exact Z177
  refine own_go st181 ?_
  have f182 := f178.wr W181
  have f183 := f179.other W181 (Nat.ne_of_lt lt_sa_b66)
  show own_End p e below s _ _ _ (T181.setTop (mkF m 190 #[.val (.int p1), .val (.int p2), .val (.int p3), .unset, .unset, .unset, .unset, .unset, .unset] [(.ref b66)]))
  refine own_go (fun t k => XS.dup X181.here hx rfl (hb hby at_190) rfl rfl k) ?_
  show own_End p e below s _ _ _ (T181.setTop (mkF m 191 #[.val (.int p1), .val (.int p2), .val (.int p3), .unset, .unset, .unset, .unset, .unset, .unset] [(.ref b66), (.ref b66)]))
  refine own_go (fun t k => XS.bipush X181.here hx rfl (hb hby at_191) k) ?_
  show own_End p e below s _ _ _ (T181.setTop (mkF m 193 #[.val (.int p1), .val (.int p2), .val (.int p3), .unset, .unset, .unset, .unset, .unset, .unset] [(.int (29 : Int32)), (.ref b66), (.ref b66)]))
  refine own_go (X181.ldcInt (own := "com/example/penumbra/penumbra/store/NamesIsNameStartPinLaw") (index := 13) (v := 55295) hx hown (mvT hZ (hw _ (List.mem_of_getElem? (i := 1) rfl))) (g := (mkF m 193 #[.val (.int p1), .val (.int p2), .val (.int p3), .unset, .unset, .unset, .unset, .unset, .unset] [(.int (29 : Int32)), (.ref b66), (.ref b66)])) rfl (hb hby at_193)) ?_
  show own_End p e below s _ _ _ (T181.setTop (mkF m 195 #[.val (.int p1), .val (.int p2), .val (.int p3), .unset, .unset, .unset, .unset, .unset, .unset] [(.int (55295 : Int32)), (.int (29 : Int32)), (.ref b66), (.ref b66)]))
  obtain ⟨T185, h185, X185, e185, W185, A185, st185⟩ := own_stI X181 hx hZ e181 A181 (j := (29 : Int32)) (x := (55295 : Int32)) (by decide) (by decide) (pc := 195) (Ls := #[.val (.int p1), .val (.int p2), .val (.int p3), .unset, .unset, .unset, .unset, .unset, .unset]) (rest := [(.ref b66)]) (hb hby at_195)
  have N185 := Fr.snoc X185 N181 nb66
  have Z185 : n0 ≤ h185.size := by rw [W185.size]; exact Z181
  refine own_go st185 ?_
  have f186 := f182.wr W185
  have f187 := f183.other W185 (Nat.ne_of_lt lt_sa_b66)
  show own_End p e below s _ _ _ (T185.setTop (mkF m 196 #[.val (.int p1), .val (.int p2), .val (.int p3), .unset, .unset, .unset, .unset, .unset, .unset] [(.ref b66)]))
  refine own_go (fun t k => XS.dup X185.here hx rfl (hb hby at_196) rfl rfl k) ?_
  show own_End p e below s _ _ _ (T185.setTop (mkF m 197 #[.val (.int p1), .val (.int p2), .val (.int p3), .unset, .unset, .unset, .unset, .unset, .unset] [(.ref b66), (.ref b66)]))
  refine own_go (fun t k => XS.bipush X185.here hx rfl (hb hby at_197) k) ?_
  show own_End p e below s _ _ _ (T185.setTop (mkF m 199 #[.val (.int p1), .val (.int p2), .val (.int p3), .unset, .unset, .unset, .unset, .unset, .unset] [(.int (30 : Int32)), (.ref b66), (.ref b66)]))
  refine own_go (X185.ldcInt (own := "com/example/penumbra/penumbra/store/NamesIsNameStartPinLaw") (index := 14) (v := 63744) hx hown (mvT hZ (hw _ (List.mem_of_getElem? (i := 2) rfl))) (g := (mkF m 199 #[.val (.int p1), .val (.int p2), .val (.int p3), .unset, .unset, .unset, .unset, .unset, .unset] [(.int (30 : Int32)), (.ref b66), (.ref b66)])) rfl (hb hby at_199)) ?_
  show own_End p e below s _ _ _ (T185.setTop (mkF m 201 #[.val (.int p1), .val (.int p2), .val (.int p3), .unset, .unset, .unset, .unset, .unset, .unset] [(.int (63744 : Int32)), (.int (30 : Int32)), (.ref b66), (.ref b66)]))
  obtain ⟨T189, h189, X189, e189, W189, A189, st189⟩ := own_stI X185 hx hZ e185 A185 (j := (30 : Int32)) (x := (63744 : Int32)) (by decide) (by decide) (pc := 201) (Ls := #[.val (.int p1), .val (.int p2), .val (.int p3), .unset, .unset, .unset, .unset, .unset, .unset]) (rest := [(.ref b66)]) (hb hby at_201)
  have N189 := Fr.snoc X189 N185 nb66
  have Z189 : n0 ≤ h189.size := by rw [W189.size]; exact Z185
  refine own_go st189 ?_
  have f190 := f186.wr W189
  have f191 := f187.other W189 (Nat.ne_of_lt lt_sa_b66)
  show own_End p e below s _ _ _ (T189.setTop (mkF m 202 #[.val (.int p1), .val (.int p2), .val (.int p3), .unset, .unset, .unset, .unset, .unset, .unset] [(.ref b66)]))
  refine own_go (fun t k => XS.dup X189.here hx rfl (hb hby at_202) rfl rfl k) ?_
  show own_End p e below s _ _ _ (T189.setTop (mkF m 203 #[.val (.int p1), .val (.int p2), .val (.int p3), .unset, .unset, .unset, .unset, .unset, .unset] [(.ref b66), (.ref b66)]))
  refine own_go (fun t k => XS.bipush X189.here hx rfl (hb hby at_203) k) ?_
  show own_End p e below s _ _ _ (T189.setTop (mkF m 205 #[.val (.int p1), .val (.int p2), .val (.int p3), .unset, .unset, .unset, .unset, .unset, .unset] [(.int (31 : Int32)), (.ref b66), (.ref b66)]))
  refine own_go (X189.ldcInt (own := "com/example/penumbra/penumbra/store/NamesIsNameStartPinLaw") (index := 15) (v := 64975) hx hown (mvT hZ (hw _ (List.mem_of_getElem? (i := 3) rfl))) (g := (mkF m 205 #[.val (.int p1), .val (.int p2), .val (.int p3), .unset, .unset, .unset, .unset, .unset, .unset] [(.int (31 : Int32)), (.ref b66), (.ref b66)])) rfl (hb hby at_205)) ?_
  show own_End p e below s _ _ _ (T189.setTop (mkF m 207 #[.val (.int p1), .val (.int p2), .val (.int p3), .unset, .unset, .unset, .unset, .unset, .unset] [(.int (64975 : Int32)), (.int (31 : Int32)), (.ref b66), (.ref b66)]))
  obtain ⟨T193, h193, X193, e193, W193, A193, st193⟩ := own_stI X189 hx hZ e189 A189 (j := (31 : Int32)) (x := (64975 : Int32)) (by decide) (by decide) (pc := 207) (Ls := #[.val (.int p1), .val (.int p2), .val (.int p3), .unset, .unset, .unset, .unset, .unset, .unset]) (rest := [(.ref b66)]) (hb hby at_207)
  have N193 := Fr.snoc X193 N189 nb66
  have Z193 : n0 ≤ h193.size := by rw [W193.size]; exact Z189
  refine own_go st193 ?_
  have f194 := f190.wr W193
  have f195 := f191.other W193 (Nat.ne_of_lt lt_sa_b66)
  show own_End p e below s _ _ _ (T193.setTop (mkF m 208 #[.val (.int p1), .val (.int p2), .val (.int p3), .unset, .unset, .unset, .unset, .unset, .unset] [(.ref b66)]))
  refine own_go (fun t k => XS.dup X193.here hx rfl (hb hby at_208) rfl rfl k) ?_
  show own_End p e below s _ _ _ (T193.setTop (mkF m 209 #[.val (.int p1), .val (.int p2), .val (.int p3), .unset, .unset, .unset, .unset, .unset, .unset] [(.ref b66), (.ref b66)]))
  refine own_go (fun t k => XS.bipush X193.here hx rfl (hb hby at_209) k) ?_
  show own_End p e below s _ _ _ (T193.setTop (mkF m 211 #[.val (.int p1), .val (.int p2), .val (.int p3), .unset, .unset, .unset, .unset, .unset, .unset] [(.int (32 : Int32)), (.ref b66), (.ref b66)]))
  refine own_go (X193.ldcInt (own := "com/example/penumbra/penumbra/store/NamesIsNameStartPinLaw") (index := 16) (v := 65008) hx hown (mvT hZ (hw _ (List.mem_of_getElem? (i := 4) rfl))) (g := (mkF m 211 #[.val (.int p1), .val (.int p2), .val (.int p3), .unset, .unset, .unset, .unset, .unset, .unset] [(.int (32 : Int32)), (.ref b66), (.ref b66)])) rfl (hb hby at_211)) ?_
  show own_End p e below s _ _ _ (T193.setTop (mkF m 213 #[.val (.int p1), .val (.int p2), .val (.int p3), .unset, .unset, .unset, .unset, .unset, .unset] [(.int (65008 : Int32)), (.int (32 : Int32)), (.ref b66), (.ref b66)]))
  obtain ⟨T197, h197, X197, e197, W197, A197, st197⟩ := own_stI X193 hx hZ e193 A193 (j := (32 : Int32)) (x := (65008 : Int32)) (by decide) (by decide) (pc := 213) (Ls := #[.val (.int p1), .val (.int p2), .val (.int p3), .unset, .unset, .unset, .unset, .unset, .unset]) (rest := [(.ref b66)]) (hb hby at_213)
  have N197 := Fr.snoc X197 N193 nb66
  have Z197 : n0 ≤ h197.size := by rw [W197.size]; exact Z193
  refine own_go st197 ?_
  have f198 := f194.wr W197
  have f199 := f195.other W197 (Nat.ne_of_lt lt_sa_b66)
  show own_End p e below s _ _ _ (T197.setTop (mkF m 214 #[.val (.int p1), .val (.int p2), .val (.int p3), .unset, .unset, .unset, .unset, .unset, .unset] [(.ref b66)]))
  refine own_go (fun t k => XS.dup X197.here hx rfl (hb hby at_214) rfl rfl k) ?_
  show own_End p e below s _ _ _ (T197.setTop (mkF m 215 #[.val (.int p1), .val (.int p2), .val (.int p3), .unset, .unset, .unset, .unset, .unset, .unset] [(.ref b66), (.ref b66)]))
  refine own_go (fun t k => XS.bipush X197.here hx rfl (hb hby at_215) k) ?_
  show own_End p e below s _ _ _ (T197.setTop (mkF m 217 #[.val (.int p1), .val (.int p2), .val (.int p3), .unset, .unset, .unset, .unset, .unset, .unset] [(.int (33 : Int32)), (.ref b66), (.ref b66)]))
  refine own_go (X197.ldcInt (own := "com/example/penumbra/penumbra/store/NamesIsNameStartPinLaw") (index := 17) (v := 65533) hx hown (mvT hZ (hw _ (List.mem_of_getElem? (i := 5) rfl))) (g := (mkF m 217 #[.val (.int p1), .val (.int p2), .val (.int p3), .unset, .unset, .unset, .unset, .unset, .unset] [(.int (33 : Int32)), (.ref b66), (.ref b66)])) rfl (hb hby at_217)) ?_
  show own_End p e below s _ _ _ (T197.setTop (mkF m 219 #[.val (.int p1), .val (.int p2), .val (.int p3), .unset, .unset, .unset, .unset, .unset, .unset] [(.int (65533 : Int32)), (.int (33 : Int32)), (.ref b66), (.ref b66)]))
  obtain ⟨T201, h201, X201, e201, W201, A201, st201⟩ := own_stI X197 hx hZ e197 A197 (j := (33 : Int32)) (x := (65533 : Int32)) (by decide) (by decide) (pc := 219) (Ls := #[.val (.int p1), .val (.int p2), .val (.int p3), .unset, .unset, .unset, .unset, .unset, .unset]) (rest := [(.ref b66)]) (hb hby at_219)
  have N201 := Fr.snoc X201 N197 nb66
  have Z201 : n0 ≤ h201.size := by rw [W201.size]; exact Z197
  refine own_go st201 ?_
  have f202 := f198.wr W201
  have f203 := f199.other W201 (Nat.ne_of_lt lt_sa_b66)
  show own_End p e below s _ _ _ (T201.setTop (mkF m 220 #[.val (.int p1), .val (.int p2), .val (.int p3), .unset, .unset, .unset, .unset, .unset, .unset] [(.ref b66)]))
  refine own_go (fun t k => XS.dup X201.here hx rfl (hb hby at_220) rfl rfl k) ?_
  show own_End p e below s _ _ _ (T201.setTop (mkF m 221 #[.val (.int p1), .val (.int p2), .val (.int p3), .unset, .unset, .unset, .unset, .unset, .unset] [(.ref b66), (.ref b66)]))
  refine own_go (fun t k => XS.bipush X201.here hx rfl (hb hby at_221) k) ?_
  show own_End p e below s _ _ _ (T201.setTop (mkF m 223 #[.val (.int p1), .val (.int p2), .val (.int p3), .unset, .unset, .unset, .unset, .unset, .unset] [(.int (34 : Int32)), (.ref b66), (.ref b66)]))
  refine own_go (X201.ldcInt (own := "com/example/penumbra/penumbra/store/NamesIsNameStartPinLaw") (index := 18) (v := 65536) hx hown (mvT hZ (hw _ (List.mem_of_getElem? (i := 6) rfl))) (g := (mkF m 223 #[.val (.int p1), .val (.int p2), .val (.int p3), .unset, .unset, .unset, .unset, .unset, .unset] [(.int (34 : Int32)), (.ref b66), (.ref b66)])) rfl (hb hby at_223)) ?_
  show own_End p e below s _ _ _ (T201.setTop (mkF m 225 #[.val (.int p1), .val (.int p2), .val (.int p3), .unset, .unset, .unset, .unset, .unset, .unset] [(.int (65536 : Int32)), (.int (34 : Int32)), (.ref b66), (.ref b66)]))
  obtain ⟨T205, h205, X205, e205, W205, A205, st205⟩ := own_stI X201 hx hZ e201 A201 (j := (34 : Int32)) (x := (65536 : Int32)) (by decide) (by decide) (pc := 225) (Ls := #[.val (.int p1), .val (.int p2), .val (.int p3), .unset, .unset, .unset, .unset, .unset, .unset]) (rest := [(.ref b66)]) (hb hby at_225)
  have N205 := Fr.snoc X205 N201 nb66
  have Z205 : n0 ≤ h205.size := by rw [W205.size]; exact Z201
  refine own_go st205 ?_
  have f206 := f202.wr W205
  have f207 := f203.other W205 (Nat.ne_of_lt lt_sa_b66)
  show own_End p e below s _ _ _ (T205.setTop (mkF m 226 #[.val (.int p1), .val (.int p2), .val (.int p3), .unset, .unset, .unset, .unset, .unset, .unset] [(.ref b66)]))
  refine own_go (fun t k => XS.dup X205.here hx rfl (hb hby at_226) rfl rfl k) ?_
  show own_End p e below s _ _ _ (T205.setTop (mkF m 227 #[.val (.int p1), .val (.int p2), .val (.int p3), .unset, .unset, .unset, .unset, .unset, .unset] [(.ref b66), (.ref b66)]))
  refine own_go (fun t k => XS.bipush X205.here hx rfl (hb hby at_227) k) ?_
  show own_End p e below s _ _ _ (T205.setTop (mkF m 229 #[.val (.int p1), .val (.int p2), .val (.int p3), .unset, .unset, .unset, .unset, .unset, .unset] [(.int (35 : Int32)), (.ref b66), (.ref b66)]))
  refine own_go (X205.ldcInt (own := "com/example/penumbra/penumbra/store/NamesIsNameStartPinLaw") (index := 19) (v := 983039) hx hown (mvT hZ (hw _ (List.mem_of_getElem? (i := 7) rfl))) (g := (mkF m 229 #[.val (.int p1), .val (.int p2), .val (.int p3), .unset, .unset, .unset, .unset, .unset, .unset] [(.int (35 : Int32)), (.ref b66), (.ref b66)])) rfl (hb hby at_229)) ?_
  show own_End p e below s _ _ _ (T205.setTop (mkF m 231 #[.val (.int p1), .val (.int p2), .val (.int p3), .unset, .unset, .unset, .unset, .unset, .unset] [(.int (983039 : Int32)), (.int (35 : Int32)), (.ref b66), (.ref b66)]))
  obtain ⟨T209, h209, X209, e209, W209, A209, st209⟩ := own_stI X205 hx hZ e205 A205 (j := (35 : Int32)) (x := (983039 : Int32)) (by decide) (by decide) (pc := 231) (Ls := #[.val (.int p1), .val (.int p2), .val (.int p3), .unset, .unset, .unset, .unset, .unset, .unset]) (rest := [(.ref b66)]) (hb hby at_231)
  have N209 := Fr.snoc X209 N205 nb66
  have Z209 : n0 ≤ h209.size := by rw [W209.size]; exact Z205
  refine own_go st209 ?_
  have f210 := f206.wr W209
  have f211 := f207.other W209 (Nat.ne_of_lt lt_sa_b66)
  show own_End p e below s _ _ _ (T209.setTop (mkF m 232 #[.val (.int p1), .val (.int p2), .val (.int p3), .unset, .unset, .unset, .unset, .unset, .unset] [(.ref b66)]))
  refine own_go (fun t k => XS.dup X209.here hx rfl (hb hby at_232) rfl rfl k) ?_
  show own_End p e below s _ _ _ (T209.setTop (mkF m 233 #[.val (.int p1), .val (.int p2), .val (.int p3), .unset, .unset, .unset, .unset, .unset, .unset] [(.ref b66), (.ref b66)]))
  refine own_go (fun t k => XS.bipush X209.here hx rfl (hb hby at_233) k) ?_
  show own_End p e below s _ _ _ (T209.setTop (mkF m 235 #[.val (.int p1), .val (.int p2), .val (.int p3), .unset, .unset, .unset, .unset, .unset, .unset] [(.int (36 : Int32)), (.ref b66), (.ref b66)]))
  refine own_go (X209.ldcInt (own := "com/example/penumbra/penumbra/store/NamesIsNameStartPinLaw") (index := 20) (v := 1114111) hx hown (mvT hZ (hw _ (List.mem_of_getElem? (i := 8) rfl))) (g := (mkF m 235 #[.val (.int p1), .val (.int p2), .val (.int p3), .unset, .unset, .unset, .unset, .unset, .unset] [(.int (36 : Int32)), (.ref b66), (.ref b66)])) rfl (hb hby at_235)) ?_
  show own_End p e below s _ _ _ (T209.setTop (mkF m 237 #[.val (.int p1), .val (.int p2), .val (.int p3), .unset, .unset, .unset, .unset, .unset, .unset] [(.int (1114111 : Int32)), (.int (36 : Int32)), (.ref b66), (.ref b66)]))
  obtain ⟨T213, h213, X213, e213, W213, A213, st213⟩ := own_stI X209 hx hZ e209 A209 (j := (36 : Int32)) (x := (1114111 : Int32)) (by decide) (by decide) (pc := 237) (Ls := #[.val (.int p1), .val (.int p2), .val (.int p3), .unset, .unset, .unset, .unset, .unset, .unset]) (rest := [(.ref b66)]) (hb hby at_237)
  have N213 := Fr.snoc X213 N209 nb66
  have Z213 : n0 ≤ h213.size := by rw [W213.size]; exact Z209
  refine own_go st213 ?_
  have f214 := f210.wr W213
  have f215 := f211.other W213 (Nat.ne_of_lt lt_sa_b66)
  show own_End p e below s _ _ _ (T213.setTop (mkF m 238 #[.val (.int p1), .val (.int p2), .val (.int p3), .unset, .unset, .unset, .unset, .unset, .unset] [(.ref b66)]))
  refine own_go (fun t k => XS.dup X213.here hx rfl (hb hby at_238) rfl rfl k) ?_
  show own_End p e below s _ _ _ (T213.setTop (mkF m 239 #[.val (.int p1), .val (.int p2), .val (.int p3), .unset, .unset, .unset, .unset, .unset, .unset] [(.ref b66), (.ref b66)]))
  refine own_go (fun t k => XS.bipush X213.here hx rfl (hb hby at_239) k) ?_
  show own_End p e below s _ _ _ (T213.setTop (mkF m 241 #[.val (.int p1), .val (.int p2), .val (.int p3), .unset, .unset, .unset, .unset, .unset, .unset] [(.int (37 : Int32)), (.ref b66), (.ref b66)]))
  refine own_go (X213.ldcInt (own := "com/example/penumbra/penumbra/store/NamesIsNameStartPinLaw") (index := 23) (v := (-2147483648)) hx hown (mvT hZ (hw _ (List.mem_of_getElem? (i := 9) rfl))) (g := (mkF m 241 #[.val (.int p1), .val (.int p2), .val (.int p3), .unset, .unset, .unset, .unset, .unset, .unset] [(.int (37 : Int32)), (.ref b66), (.ref b66)])) rfl (hb hby at_241)) ?_
  show own_End p e below s _ _ _ (T213.setTop (mkF m 243 #[.val (.int p1), .val (.int p2), .val (.int p3), .unset, .unset, .unset, .unset, .unset, .unset] [(.int (-2147483648 : Int32)), (.int (37 : Int32)), (.ref b66), (.ref b66)]))
  obtain ⟨T217, h217, X217, e217, W217, A217, st217⟩ := own_stI X213 hx hZ e213 A213 (j := (37 : Int32)) (x := (-2147483648 : Int32)) (by decide) (by decide) (pc := 243) (Ls := #[.val (.int p1), .val (.int p2), .val (.int p3), .unset, .unset, .unset, .unset, .unset, .unset]) (rest := [(.ref b66)]) (hb hby at_243)
  have N217 := Fr.snoc X217 N213 nb66
  have Z217 : n0 ≤ h217.size := by rw [W217.size]; exact Z213
  refine own_go st217 ?_
  have f218 := f214.wr W217
  have f219 := f215.other W217 (Nat.ne_of_lt lt_sa_b66)
  show own_End p e below s _ _ _ (T217.setTop (mkF m 244 #[.val (.int p1), .val (.int p2), .val (.int p3), .unset, .unset, .unset, .unset, .unset, .unset] [(.ref b66)]))
  refine own_go (fun t k => XS.dup X217.here hx rfl (hb hby at_244) rfl rfl k) ?_
  show own_End p e below s _ _ _ (T217.setTop (mkF m 245 #[.val (.int p1), .val (.int p2), .val (.int p3), .unset, .unset, .unset, .unset, .unset, .unset] [(.ref b66), (.ref b66)]))
  refine own_go (fun t k => XS.bipush X217.here hx rfl (hb hby at_245) k) ?_
  show own_End p e below s _ _ _ (T217.setTop (mkF m 247 #[.val (.int p1), .val (.int p2), .val (.int p3), .unset, .unset, .unset, .unset, .unset, .unset] [(.int (38 : Int32)), (.ref b66), (.ref b66)]))
  refine own_go (X217.ldcInt (own := "com/example/penumbra/penumbra/store/NamesIsNameStartPinLaw") (index := 24) (v := 2147483647) hx hown (mvT hZ (hw _ (List.mem_of_getElem? (i := 10) rfl))) (g := (mkF m 247 #[.val (.int p1), .val (.int p2), .val (.int p3), .unset, .unset, .unset, .unset, .unset, .unset] [(.int (38 : Int32)), (.ref b66), (.ref b66)])) rfl (hb hby at_247)) ?_
  show own_End p e below s _ _ _ (T217.setTop (mkF m 249 #[.val (.int p1), .val (.int p2), .val (.int p3), .unset, .unset, .unset, .unset, .unset, .unset] [(.int (2147483647 : Int32)), (.int (38 : Int32)), (.ref b66), (.ref b66)]))
  obtain ⟨T221, h221, X221, e221, W221, A221, st221⟩ := own_stI X217 hx hZ e217 A217 (j := (38 : Int32)) (x := (2147483647 : Int32)) (by decide) (by decide) (pc := 249) (Ls := #[.val (.int p1), .val (.int p2), .val (.int p3), .unset, .unset, .unset, .unset, .unset, .unset]) (rest := [(.ref b66)]) (hb hby at_249)
  have N221 := Fr.snoc X221 N217 nb66
  have Z221 : n0 ≤ h221.size := by rw [W221.size]; exact Z217
  refine own_go st221 ?_
  have f222 := f218.wr W221
  have f223 := f219.other W221 (Nat.ne_of_lt lt_sa_b66)
  show own_End p e below s _ _ _ (T221.setTop (mkF m 250 #[.val (.int p1), .val (.int p2), .val (.int p3), .unset, .unset, .unset, .unset, .unset, .unset] [(.ref b66)]))
  refine own_go (fun t k => XS.astoreN X221.here hx rfl (hb hby at_250) rfl rfl (l' := #[.val (.int p1), .val (.int p2), .val (.int p3), .val (.ref b66), .unset, .unset, .unset, .unset, .unset]) rfl k) ?_
  show own_End p e below s _ _ _ (T221.setTop (mkF m 251 #[.val (.int p1), .val (.int p2), .val (.int p3), .val (.ref b66), .unset, .unset, .unset, .unset, .unset] []))
  refine own_go (fun t k => XS.iloadN X221.here hx rfl (hb hby at_251) rfl k) ?_
  show own_End p e below s _ _ _ (T221.setTop (mkF m 252 #[.val (.int p1), .val (.int p2), .val (.int p3), .val (.ref b66), .unset, .unset, .unset, .unset, .unset] [(.int p2)]))
  refine own_go (X221.ldcInt (own := "com/example/penumbra/penumbra/store/NamesIsNameStartPinLaw") (index := 24) (v := 2147483647) hx hown (mvT hZ (hw _ (List.mem_of_getElem? (i := 10) rfl))) (g := (mkF m 252 #[.val (.int p1), .val (.int p2), .val (.int p3), .val (.ref b66), .unset, .unset, .unset, .unset, .unset] [(.int p2)])) rfl (hb hby at_252)) ?_
  show own_End p e below s _ _ _ (T221.setTop (mkF m 254 #[.val (.int p1), .val (.int p2), .val (.int p3), .val (.ref b66), .unset, .unset, .unset, .unset, .unset] [(.int (2147483647 : Int32)), (.int p2)]))
  refine own_go (fun t k => XS.iand X221.here hx rfl (hb hby at_254) rfl k) ?_
  show own_End p e below s _ _ _ (T221.setTop (mkF m 255 #[.val (.int p1), .val (.int p2), .val (.int p3), .val (.ref b66), .unset, .unset, .unset, .unset, .unset] [(.int (p2 &&& (2147483647 : Int32)))]))
  refine own_go (fun t k => XS.aloadN X221.here hx rfl (hb hby at_255) rfl rfl k) ?_
  show own_End p e below s _ _ _ (T221.setTop (mkF m 256 #[.val (.int p1), .val (.int p2), .val (.int p3), .val (.ref b66), .unset, .unset, .unset, .unset, .unset] [(.ref b66), (.int (p2 &&& (2147483647 : Int32)))]))
  refine own_go (own_len X221 hx hZ e221 A221 (pc := 256) (Ls := #[.val (.int p1), .val (.int p2), .val (.int p3), .val (.ref b66), .unset, .unset, .unset, .unset, .unset]) (rest := [(.int (p2 &&& (2147483647 : Int32)))]) (hb hby at_256)) ?_
  show own_End p e below s _ _ _ (T221.setTop (mkF m 257 #[.val (.int p1), .val (.int p2), .val (.int p3), .val (.ref b66), .unset, .unset, .unset, .unset, .unset] [(.int (39 : Int32)), (.int (p2 &&& (2147483647 : Int32)))]))
  refine own_go (fun t k => XS.irem X221.here hx rfl (hb hby at_257) rfl (by decide) k) ?_
  show own_End p e below s _ _ _ (T221.setTop (mkF m 258 #[.val (.int p1), .val (.int p2), .val (.int p3), .val (.ref b66), .unset, .unset, .unset, .unset, .unset] [(.int ((p2 &&& (2147483647 : Int32)) - ((p2 &&& (2147483647 : Int32)) / (39 : Int32)) * (39 : Int32)))]))
  rw [irem_eq_mod (p2 &&& (2147483647 : Int32)) (39 : Int32)]
  show own_End p e below s _ _ _ (T221.setTop (mkF m 258 #[.val (.int p1), .val (.int p2), .val (.int p3), .val (.ref b66), .unset, .unset, .unset, .unset, .unset] [(.int ((p2 &&& (2147483647 : Int32)) % (39 : Int32)))]))
  obtain ⟨ix225, qix225⟩ : ∃ z : Int32, z = ((p2 &&& (2147483647 : Int32)) % (39 : Int32)) := ⟨_, rfl⟩
  rw [← qix225]
  show own_End p e below s _ _ _ (T221.setTop (mkF m 258 #[.val (.int p1), .val (.int p2), .val (.int p3), .val (.ref b66), .unset, .unset, .unset, .unset, .unset] [(.int ix225)]))
  have rix : 0 ≤ ix225.toInt ∧ ix225.toInt < 39 := by rw [qix225]; exact own_ix p2 39 (by decide)
  refine own_go (fun t k => XS.istore X221.here hx rfl (hb hby at_258) rfl (l' := #[.val (.int p1), .val (.int p2), .val (.int p3), .val (.ref b66), .val (.int ix225), .unset, .unset, .unset, .unset]) rfl k) ?_
  show own_End p e below s _ _ _ (T221.setTop (mkF m 260 #[.val (.int p1), .val (.int p2), .val (.int p3), .val (.ref b66), .val (.int ix225), .unset, .unset, .unset, .unset] []))
  refine own_go (fun t k => XS.iloadN X221.here hx rfl (hb hby at_260) rfl k) ?_
  show own_End p e below s _ _ _ (T221.setTop (mkF m 261 #[.val (.int p1), .val (.int p2), .val (.int p3), .val (.ref b66), .val (.int ix225), .unset, .unset, .unset, .unset] [(.int p3)]))
  refine own_go (X221.ldcInt (own := "com/example/penumbra/penumbra/store/NamesIsNameStartPinLaw") (index := 24) (v := 2147483647) hx hown (mvT hZ (hw _ (List.mem_of_getElem? (i := 10) rfl))) (g := (mkF m 261 #[.val (.int p1), .val (.int p2), .val (.int p3), .val (.ref b66), .val (.int ix225), .unset, .unset, .unset, .unset] [(.int p3)])) rfl (hb hby at_261)) ?_
  show own_End p e below s _ _ _ (T221.setTop (mkF m 263 #[.val (.int p1), .val (.int p2), .val (.int p3), .val (.ref b66), .val (.int ix225), .unset, .unset, .unset, .unset] [(.int (2147483647 : Int32)), (.int p3)]))
  refine own_go (fun t k => XS.iand X221.here hx rfl (hb hby at_263) rfl k) ?_
  show own_End p e below s _ _ _ (T221.setTop (mkF m 264 #[.val (.int p1), .val (.int p2), .val (.int p3), .val (.ref b66), .val (.int ix225), .unset, .unset, .unset, .unset] [(.int (p3 &&& (2147483647 : Int32)))]))
  refine own_go (fun t k => XS.iconst X221.here hx rfl (hb hby at_264) k) ?_
  show own_End p e below s _ _ _ (T221.setTop (mkF m 265 #[.val (.int p1), .val (.int p2), .val (.int p3), .val (.ref b66), .val (.int ix225), .unset, .unset, .unset, .unset] [(.int (3 : Int32)), (.int (p3 &&& (2147483647 : Int32)))]))
  refine own_go (fun t k => XS.irem X221.here hx rfl (hb hby at_265) rfl (by decide) k) ?_
  show own_End p e below s _ _ _ (T221.setTop (mkF m 266 #[.val (.int p1), .val (.int p2), .val (.int p3), .val (.ref b66), .val (.int ix225), .unset, .unset, .unset, .unset] [(.int ((p3 &&& (2147483647 : Int32)) - ((p3 &&& (2147483647 : Int32)) / (3 : Int32)) * (3 : Int32)))]))
  rw [irem_eq_mod (p3 &&& (2147483647 : Int32)) (3 : Int32)]
  show own_End p e below s _ _ _ (T221.setTop (mkF m 266 #[.val (.int p1), .val (.int p2), .val (.int p3), .val (.ref b66), .val (.int ix225), .unset, .unset, .unset, .unset] [(.int ((p3 &&& (2147483647 : Int32)) % (3 : Int32)))]))
  refine own_go (fun t k => XS.iconst X221.here hx rfl (hb hby at_266) k) ?_
  show own_End p e below s _ _ _ (T221.setTop (mkF m 267 #[.val (.int p1), .val (.int p2), .val (.int p3), .val (.ref b66), .val (.int ix225), .unset, .unset, .unset, .unset] [(.int (1 : Int32)), (.int ((p3 &&& (2147483647 : Int32)) % (3 : Int32)))]))
  refine own_go (fun t k => XS.isub X221.here hx rfl (hb hby at_267) rfl k) ?_
  show own_End p e below s _ _ _ (T221.setTop (mkF m 268 #[.val (.int p1), .val (.int p2), .val (.int p3), .val (.ref b66), .val (.int ix225), .unset, .unset, .unset, .unset] [(.int (((p3 &&& (2147483647 : Int32)) % (3 : Int32)) - (1 : Int32)))]))
  refine own_go (fun t k => XS.istore X221.here hx rfl (hb hby at_268) rfl (l' := #[.val (.int p1), .val (.int p2), .val (.int p3), .val (.ref b66), .val (.int ix225), .val (.int (((p3 &&& (2147483647 : Int32)) % (3 : Int32)) - (1 : Int32))), .unset, .unset, .unset]) rfl k) ?_
  show own_End p e below s _ _ _ (T221.setTop (mkF m 270 #[.val (.int p1), .val (.int p2), .val (.int p3), .val (.ref b66), .val (.int ix225), .val (.int (((p3 &&& (2147483647 : Int32)) % (3 : Int32)) - (1 : Int32))), .unset, .unset, .unset] []))
  refine own_go (fun t k => XS.aloadN X221.here hx rfl (hb hby at_270) rfl rfl k) ?_
  show own_End p e below s _ _ _ (T221.setTop (mkF m 271 #[.val (.int p1), .val (.int p2), .val (.int p3), .val (.ref b66), .val (.int ix225), .val (.int (((p3 &&& (2147483647 : Int32)) % (3 : Int32)) - (1 : Int32))), .unset, .unset, .unset] [(.ref b66)]))
  refine own_go (fun t k => XS.iload X221.here hx rfl (hb hby at_271) rfl k) ?_
  show own_End p e below s _ _ _ (T221.setTop (mkF m 273 #[.val (.int p1), .val (.int p2), .val (.int p3), .val (.ref b66), .val (.int ix225), .val (.int (((p3 &&& (2147483647 : Int32)) % (3 : Int32)) - (1 : Int32))), .unset, .unset, .unset] [(.int ix225), (.ref b66)]))
  obtain ⟨x226, st226⟩ := own_ldI X221 hx hZ e221 A221 (j := ix225) (by omega) (by omega) (pc := 273) (Ls := #[.val (.int p1), .val (.int p2), .val (.int p3), .val (.ref b66), .val (.int ix225), .val (.int (((p3 &&& (2147483647 : Int32)) % (3 : Int32)) - (1 : Int32))), .unset, .unset, .unset]) (rest := []) (hb hby at_273)
  refine own_go st226 ?_
  show own_End p e below s _ _ _ (T221.setTop (mkF m 274 #[.val (.int p1), .val (.int p2), .val (.int p3), .val (.ref b66), .val (.int ix225), .val (.int (((p3 &&& (2147483647 : Int32)) % (3 : Int32)) - (1 : Int32))), .unset, .unset, .unset] [(.int x226)]))
  refine own_go (fun t k => XS.iload X221.here hx rfl (hb hby at_274) rfl k) ?_
  show own_End p e below s _ _ _ (T221.setTop (mkF m 276 #[.val (.int p1), .val (.int p2), .val (.int p3), .val (.ref b66), .val (.int ix225), .val (.int (((p3 &&& (2147483647 : Int32)) % (3 : Int32)) - (1 : Int32))), .unset, .unset, .unset] [(.int (((p3 &&& (2147483647 : Int32)) % (3 : Int32)) - (1 : Int32))), (.int x226)]))
  refine own_go (fun t k => XS.iadd X221.here hx rfl (hb hby at_276) rfl k) ?_
  show own_End p e below s _ _ _ (T221.setTop (mkF m 277 #[.val (.int p1), .val (.int p2), .val (.int p3), .val (.ref b66), .val (.int ix225), .val (.int (((p3 &&& (2147483647 : Int32)) % (3 : Int32)) - (1 : Int32))), .unset, .unset, .unset] [(.int (x226 + (((p3 &&& (2147483647 : Int32)) % (3 : Int32)) - (1 : Int32))))]))
  obtain ⟨c227, qc227⟩ : ∃ z : Int32, z = (x226 + (((p3 &&& (2147483647 : Int32)) % (3 : Int32)) - (1 : Int32))) := ⟨_, rfl⟩
  rw [← qc227]
  show own_End p e below s _ _ _ (T221.setTop (mkF m 277 #[.val (.int p1), .val (.int p2), .val (.int p3), .val (.ref b66), .val (.int ix225), .val (.int (((p3 &&& (2147483647 : Int32)) % (3 : Int32)) - (1 : Int32))), .unset, .unset, .unset] [(.int c227)]))
  refine own_go (fun t k => XS.istore X221.here hx rfl (hb hby at_277) rfl (l' := #[.val (.int p1), .val (.int p2), .val (.int p3), .val (.ref b66), .val (.int ix225), .val (.int (((p3 &&& (2147483647 : Int32)) % (3 : Int32)) - (1 : Int32))), .val (.int c227), .unset, .unset]) rfl k) ?_
  show own_End p e below s _ _ _ (T221.setTop (mkF m 279 #[.val (.int p1), .val (.int p2), .val (.int p3), .val (.ref b66), .val (.int ix225), .val (.int (((p3 &&& (2147483647 : Int32)) % (3 : Int32)) - (1 : Int32))), .val (.int c227), .unset, .unset] []))
  refine own_go (fun t k => XS.iloadN X221.here hx rfl (hb hby at_279) rfl k) ?_
  show own_End p e below s _ _ _ (T221.setTop (mkF m 280 #[.val (.int p1), .val (.int p2), .val (.int p3), .val (.ref b66), .val (.int ix225), .val (.int (((p3 &&& (2147483647 : Int32)) % (3 : Int32)) - (1 : Int32))), .val (.int c227), .unset, .unset] [(.int p1)]))
  obtain ⟨v228, T228, L228, X228, hQ228, st228⟩ := own_callS X221 hx hZ (y := (⟨"com/example/penumbra/penumbra/store/Names", "isNameStart", "(I)Z"⟩ : MethodName)) 0 hown (hw _ (List.mem_of_getElem? (i := 11) rfl)) (hw _ (List.mem_of_getElem? (i := 12) rfl)) (hw _ (List.mem_of_getElem? (i := 13) rfl)) (hw _ (List.mem_of_getElem? (i := 14) rfl)) (by decide) (rm1 l Z a0 hw [] p1 h221 n0 Z221 sa ka f222 f223) e221 (pc := 280) (Ls := #[.val (.int p1), .val (.int p2), .val (.int p3), .val (.ref b66), .val (.int ix225), .val (.int (((p3 &&& (2147483647 : Int32)) % (3 : Int32)) - (1 : Int32))), .val (.int c227), .unset, .unset]) [(.int p1)] [] (by rw [hml]; rfl) rfl rfl (lenOf pd_I_Z rfl) (Nat.le_of_eq rfl) (hb hby at_280) (by decide) (by decide) (by decide) (by decide)
  obtain ⟨rfl, Nc229, e229⟩ := hQ228
  have N229 := Fr.app N221 Nc229
  refine own_go st228 ?_
  show own_End p e below s _ _ _ (T228.setTop (mkF m 283 #[.val (.int p1), .val (.int p2), .val (.int p3), .val (.ref b66), .val (.int ix225), .val (.int (((p3 &&& (2147483647 : Int32)) % (3 : Int32)) - (1 : Int32))), .val (.int c227), .unset, .unset] [(.int (if own_ns p1.toInt then 1 else 0))]))
  refine own_go (fun t k => XS.iloadN X228.here hx rfl (hb hby at_283) rfl k) ?_
  show own_End p e below s _ _ _ (T228.setTop (mkF m 284 #[.val (.int p1), .val (.int p2), .val (.int p3), .val (.ref b66), .val (.int ix225), .val (.int (((p3 &&& (2147483647 : Int32)) % (3 : Int32)) - (1 : Int32))), .val (.int c227), .unset, .unset] [(.int p1), (.int (if own_ns p1.toInt then 1 else 0))]))
  obtain ⟨v230, T230, L230, X230, hQ230, st230⟩ := own_callS X228 hx hZ (y := (⟨"com/example/penumbra/penumbra/store/NamesIsNameStartPinLaw", "ref", "(I)Z"⟩ : MethodName)) 1 hown (hw _ (List.mem_of_getElem? (i := 15) rfl)) (hw _ (List.mem_of_getElem? (i := 16) rfl)) (hw _ (List.mem_of_getElem? (i := 17) rfl)) (hw _ (List.mem_of_getElem? (i := 18) rfl)) (by decide) (rm2 l Z a0 hw [] p1 h221 n0 Z221) e229 (pc := 284) (Ls := #[.val (.int p1), .val (.int p2), .val (.int p3), .val (.ref b66), .val (.int ix225), .val (.int (((p3 &&& (2147483647 : Int32)) % (3 : Int32)) - (1 : Int32))), .val (.int c227), .unset, .unset]) [(.int p1)] [(.int (if own_ns p1.toInt then 1 else 0))] (by rw [hml]; rfl) rfl rfl (lenOf pd_I_Z rfl) (Nat.le_of_eq rfl) (hb hby at_284) (by decide) (by decide) (by decide) (by decide)
  obtain ⟨rfl, Nc231, e231⟩ := hQ230
  have N231 := Fr.app N229 Nc231
  refine own_go st230 ?_
  show own_End p e below s _ _ _ (T230.setTop (mkF m 287 #[.val (.int p1), .val (.int p2), .val (.int p3), .val (.ref b66), .val (.int ix225), .val (.int (((p3 &&& (2147483647 : Int32)) % (3 : Int32)) - (1 : Int32))), .val (.int c227), .unset, .unset] [(.int (if own_ns p1.toInt then 1 else 0)), (.int (if own_ns p1.toInt then 1 else 0))]))
  refine own_go (fun t k => XS.icmpNo X230.here hx rfl (hb hby at_287) rfl (teq rfl).2 k) ?_
  show own_End p e below s _ _ _ (T230.setTop (mkF m 290 #[.val (.int p1), .val (.int p2), .val (.int p3), .val (.ref b66), .val (.int ix225), .val (.int (((p3 &&& (2147483647 : Int32)) % (3 : Int32)) - (1 : Int32))), .val (.int c227), .unset, .unset] []))
  refine own_go (fun t k => XS.iconst X230.here hx rfl (hb hby at_290) k) ?_
  show own_End p e below s _ _ _ (T230.setTop (mkF m 291 #[.val (.int p1), .val (.int p2), .val (.int p3), .val (.ref b66), .val (.int ix225), .val (.int (((p3 &&& (2147483647 : Int32)) % (3 : Int32)) - (1 : Int32))), .val (.int c227), .unset, .unset] [(.int (1 : Int32))]))
  refine own_go (fun t k => XS.goto X230.here hx rfl (pc0 := 291) (pc' := 295) rfl (hb hby at_291) (by decide) (by decide) k) ?_
  show own_End p e below s _ _ _ (T230.setTop (mkF m 295 #[.val (.int p1), .val (.int p2), .val (.int p3), .val (.ref b66), .val (.int ix225), .val (.int (((p3 &&& (2147483647 : Int32)) % (3 : Int32)) - (1 : Int32))), .val (.int c227), .unset, .unset] [(.int (1 : Int32))]))
  refine own_go (fun t k => XS.istore X230.here hx rfl (hb hby at_295) rfl (l' := #[.val (.int p1), .val (.int p2), .val (.int p3), .val (.ref b66), .val (.int ix225), .val (.int (((p3 &&& (2147483647 : Int32)) % (3 : Int32)) - (1 : Int32))), .val (.int c227), .val (.int (1 : Int32)), .unset]) rfl k) ?_
  show own_End p e below s _ _ _ (T230.setTop (mkF m 297 #[.val (.int p1), .val (.int p2), .val (.int p3), .val (.ref b66), .val (.int ix225), .val (.int (((p3 &&& (2147483647 : Int32)) % (3 : Int32)) - (1 : Int32))), .val (.int c227), .val (.int (1 : Int32)), .unset] []))
  refine own_go (fun t k => XS.iload X230.here hx rfl (hb hby at_297) rfl k) ?_
  show own_End p e below s _ _ _ (T230.setTop (mkF m 299 #[.val (.int p1), .val (.int p2), .val (.int p3), .val (.ref b66), .val (.int ix225), .val (.int (((p3 &&& (2147483647 : Int32)) % (3 : Int32)) - (1 : Int32))), .val (.int c227), .val (.int (1 : Int32)), .unset] [(.int c227)]))
  obtain ⟨v232, T232, L232, X232, hQ232, st232⟩ := own_callS X230 hx hZ (y := (⟨"com/example/penumbra/penumbra/store/Names", "isNameStart", "(I)Z"⟩ : MethodName)) 0 hown (hw _ (List.mem_of_getElem? (i := 11) rfl)) (hw _ (List.mem_of_getElem? (i := 12) rfl)) (hw _ (List.mem_of_getElem? (i := 13) rfl)) (hw _ (List.mem_of_getElem? (i := 14) rfl)) (by decide) (rm1 l Z a0 hw [] c227 h221 n0 Z221 sa ka f222 f223) e231 (pc := 299) (Ls := #[.val (.int p1), .val (.int p2), .val (.int p3), .val (.ref b66), .val (.int ix225), .val (.int (((p3 &&& (2147483647 : Int32)) % (3 : Int32)) - (1 : Int32))), .val (.int c227), .val (.int (1 : Int32)), .unset]) [(.int c227)] [] (by rw [hml]; rfl) rfl rfl (lenOf pd_I_Z rfl) (Nat.le_of_eq rfl) (hb hby at_299) (by decide) (by decide) (by decide) (by decide)
  obtain ⟨rfl, Nc233, e233⟩ := hQ232
  have N233 := Fr.app N231 Nc233
  refine own_go st232 ?_
  show own_End p e below s _ _ _ (T232.setTop (mkF m 302 #[.val (.int p1), .val (.int p2), .val (.int p3), .val (.ref b66), .val (.int ix225), .val (.int (((p3 &&& (2147483647 : Int32)) % (3 : Int32)) - (1 : Int32))), .val (.int c227), .val (.int (1 : Int32)), .unset] [(.int (if own_ns c227.toInt then 1 else 0))]))
  refine own_go (fun t k => XS.iload X232.here hx rfl (hb hby at_302) rfl k) ?_
  show own_End p e below s _ _ _ (T232.setTop (mkF m 304 #[.val (.int p1), .val (.int p2), .val (.int p3), .val (.ref b66), .val (.int ix225), .val (.int (((p3 &&& (2147483647 : Int32)) % (3 : Int32)) - (1 : Int32))), .val (.int c227), .val (.int (1 : Int32)), .unset] [(.int c227), (.int (if own_ns c227.toInt then 1 else 0))]))
  obtain ⟨v234, T234, L234, X234, hQ234, st234⟩ := own_callS X232 hx hZ (y := (⟨"com/example/penumbra/penumbra/store/NamesIsNameStartPinLaw", "ref", "(I)Z"⟩ : MethodName)) 1 hown (hw _ (List.mem_of_getElem? (i := 15) rfl)) (hw _ (List.mem_of_getElem? (i := 16) rfl)) (hw _ (List.mem_of_getElem? (i := 17) rfl)) (hw _ (List.mem_of_getElem? (i := 18) rfl)) (by decide) (rm2 l Z a0 hw [] c227 h221 n0 Z221) e233 (pc := 304) (Ls := #[.val (.int p1), .val (.int p2), .val (.int p3), .val (.ref b66), .val (.int ix225), .val (.int (((p3 &&& (2147483647 : Int32)) % (3 : Int32)) - (1 : Int32))), .val (.int c227), .val (.int (1 : Int32)), .unset]) [(.int c227)] [(.int (if own_ns c227.toInt then 1 else 0))] (by rw [hml]; rfl) rfl rfl (lenOf pd_I_Z rfl) (Nat.le_of_eq rfl) (hb hby at_304) (by decide) (by decide) (by decide) (by decide)
  obtain ⟨rfl, Nc235, e235⟩ := hQ234
  have N235 := Fr.app N233 Nc235
  refine own_go st234 ?_
  show own_End p e below s _ _ _ (T234.setTop (mkF m 307 #[.val (.int p1), .val (.int p2), .val (.int p3), .val (.ref b66), .val (.int ix225), .val (.int (((p3 &&& (2147483647 : Int32)) % (3 : Int32)) - (1 : Int32))), .val (.int c227), .val (.int (1 : Int32)), .unset] [(.int (if own_ns c227.toInt then 1 else 0)), (.int (if own_ns c227.toInt then 1 else 0))]))
  refine own_go (fun t k => XS.icmpNo X234.here hx rfl (hb hby at_307) rfl (teq rfl).2 k) ?_
  show own_End p e below s _ _ _ (T234.setTop (mkF m 310 #[.val (.int p1), .val (.int p2), .val (.int p3), .val (.ref b66), .val (.int ix225), .val (.int (((p3 &&& (2147483647 : Int32)) % (3 : Int32)) - (1 : Int32))), .val (.int c227), .val (.int (1 : Int32)), .unset] []))
  refine own_go (fun t k => XS.iconst X234.here hx rfl (hb hby at_310) k) ?_
  show own_End p e below s _ _ _ (T234.setTop (mkF m 311 #[.val (.int p1), .val (.int p2), .val (.int p3), .val (.ref b66), .val (.int ix225), .val (.int (((p3 &&& (2147483647 : Int32)) % (3 : Int32)) - (1 : Int32))), .val (.int c227), .val (.int (1 : Int32)), .unset] [(.int (1 : Int32))]))
  refine own_go (fun t k => XS.goto X234.here hx rfl (pc0 := 311) (pc' := 315) rfl (hb hby at_311) (by decide) (by decide) k) ?_
  show own_End p e below s _ _ _ (T234.setTop (mkF m 315 #[.val (.int p1), .val (.int p2), .val (.int p3), .val (.ref b66), .val (.int ix225), .val (.int (((p3 &&& (2147483647 : Int32)) % (3 : Int32)) - (1 : Int32))), .val (.int c227), .val (.int (1 : Int32)), .unset] [(.int (1 : Int32))]))
  refine own_go (fun t k => XS.istore X234.here hx rfl (hb hby at_315) rfl (l' := #[.val (.int p1), .val (.int p2), .val (.int p3), .val (.ref b66), .val (.int ix225), .val (.int (((p3 &&& (2147483647 : Int32)) % (3 : Int32)) - (1 : Int32))), .val (.int c227), .val (.int (1 : Int32)), .val (.int (1 : Int32))]) rfl k) ?_
  show own_End p e below s _ _ _ (T234.setTop (mkF m 317 #[.val (.int p1), .val (.int p2), .val (.int p3), .val (.ref b66), .val (.int ix225), .val (.int (((p3 &&& (2147483647 : Int32)) % (3 : Int32)) - (1 : Int32))), .val (.int c227), .val (.int (1 : Int32)), .val (.int (1 : Int32))] []))
  refine own_go (fun t k => XS.iload X234.here hx rfl (hb hby at_317) rfl k) ?_
  show own_End p e below s _ _ _ (T234.setTop (mkF m 319 #[.val (.int p1), .val (.int p2), .val (.int p3), .val (.ref b66), .val (.int ix225), .val (.int (((p3 &&& (2147483647 : Int32)) % (3 : Int32)) - (1 : Int32))), .val (.int c227), .val (.int (1 : Int32)), .val (.int (1 : Int32))] [(.int (1 : Int32))]))
  refine own_go (fun t k => XS.ifNo X234.here hx rfl (hb hby at_319) rfl rfl k) ?_
  show own_End p e below s _ _ _ (T234.setTop (mkF m 322 #[.val (.int p1), .val (.int p2), .val (.int p3), .val (.ref b66), .val (.int ix225), .val (.int (((p3 &&& (2147483647 : Int32)) % (3 : Int32)) - (1 : Int32))), .val (.int c227), .val (.int (1 : Int32)), .val (.int (1 : Int32))] []))
  refine own_go (fun t k => XS.iload X234.here hx rfl (hb hby at_322) rfl k) ?_
  show own_End p e below s _ _ _ (T234.setTop (mkF m 324 #[.val (.int p1), .val (.int p2), .val (.int p3), .val (.ref b66), .val (.int ix225), .val (.int (((p3 &&& (2147483647 : Int32)) % (3 : Int32)) - (1 : Int32))), .val (.int c227), .val (.int (1 : Int32)), .val (.int (1 : Int32))] [(.int (1 : Int32))]))
  refine own_go (fun t k => XS.ifNo X234.here hx rfl (hb hby at_324) rfl rfl k) ?_
  show own_End p e below s _ _ _ (T234.setTop (mkF m 327 #[.val (.int p1), .val (.int p2), .val (.int p3), .val (.ref b66), .val (.int ix225), .val (.int (((p3 &&& (2147483647 : Int32)) % (3 : Int32)) - (1 : Int32))), .val (.int c227), .val (.int (1 : Int32)), .val (.int (1 : Int32))] []))
  refine own_go (fun t k => XS.iconst X234.here hx rfl (hb hby at_327) k) ?_
  show own_End p e below s _ _ _ (T234.setTop (mkF m 328 #[.val (.int p1), .val (.int p2), .val (.int p3), .val (.ref b66), .val (.int ix225), .val (.int (((p3 &&& (2147483647 : Int32)) % (3 : Int32)) - (1 : Int32))), .val (.int c227), .val (.int (1 : Int32)), .val (.int (1 : Int32))] [(.int (1 : Int32))]))
  refine own_go (fun t k => XS.goto X234.here hx rfl (pc0 := 328) (pc' := 332) rfl (hb hby at_328) (by decide) (by decide) k) ?_
  show own_End p e below s _ _ _ (T234.setTop (mkF m 332 #[.val (.int p1), .val (.int p2), .val (.int p3), .val (.ref b66), .val (.int ix225), .val (.int (((p3 &&& (2147483647 : Int32)) % (3 : Int32)) - (1 : Int32))), .val (.int c227), .val (.int (1 : Int32)), .val (.int (1 : Int32))] [(.int (1 : Int32))]))
  exact own_retN X234 hx (t := .boolean) hret hlk (by simp) (hb hby at_332) ⟨rfl, N235⟩ (by decide) (by decide)
theorem own_elem {args : Array Value} {s : State} {t : Jvm.Term} {a : Addr} {cl : Cell} {i : Int32} {v : Int32} {n : Nat} (ht : t.eval args s none [] s = some (.ref a)) (ha : s.arrayAt? a = some cl) (hi : i.toInt = n)
    (h : (Jvm.Cond.eq (Jvm.Term.elem t (Jvm.Term.int i)) (Jvm.Term.int v)).value args s none s [] = some true) : cl.slots[n]? = some (.int v) := by
  obtain ⟨e1, e2⟩ := own_nat hi
  have q : (Jvm.Term.elem t (Jvm.Term.int i)).eval args s none [] s = cl.slots[n]? := by rw [elem_f ht (Term.int_eval i) ha e2, e1]
  cases hc : cl.slots[n]? with
  | none => rw [hc] at q; simp [Cond.value, q] at h
  | some w =>
    rw [hc] at q
    have hv : (Jvm.Term.int v).eval args s none [] s = some (.int v) := Term.int_eval v
    cases w <;> simp [Cond.value, q, hv] at h
    rw [h]
theorem own_size {args : Array Value} {s : State} {t : Jvm.Term} {a : Addr} {cl : Cell} (ht : t.eval args s none [] s = some (.ref a)) (ha : s.arrayAt? a = some cl)
    (h : (Jvm.Cond.eq (Jvm.Term.length t) (Jvm.Term.int (24 : Int32))).value args s none s [] = some true) : cl.slots.size = 24 := by
  have hv : (Jvm.Term.int (24 : Int32)).eval args s none [] s = some (.int 24) := Term.int_eval 24
  by_cases hl : cl.slots.size < 2 ^ 31
  · have q := len_f (o := none) (idx := []) (first := s) ht ha hl
    have e1 : (cl.slots.size.toInt32).toInt = (24 : Int32).toInt := by
      simp [Cond.value, q, hv] at h
      rw [h]
    rw [len_toInt hl] at e1
    have e2 : (24 : Int32).toInt = 24 := by decide
    omega
  · exfalso
    simp [Cond.value, Term.eval, ht, ha, hl] at h
set_option maxRecDepth 65536 in
set_option maxHeartbeats 40000000 in
theorem comes_1 {Post : Tables → Env → Array Value → State → Outcome → State → Prop} (hpost : ∀ tb e args s v u, (limb_1_1.after args s (.returned v) u = true ∧ limb_1_2.after args s (.returned v) u = true ∧ True) → FrameEnd s (.returned v) u (Jvm.fieldLocs frame_1_writes args s ++ Jvm.arrayLocs frame_1_arrays args s ++ Jvm.staticLocs frame_1_statics s) 16 192 → Post tb e args s (.returned v) u) :
    ArmFor flags0 classFile x code maxLocals ret World_1 tables_1 room_1 Calls_1 rest_1 Pre_1 Post := by
  intro l hfl _ _ p e ha hc hk s m args below hf hA hF happ hP
  obtain ⟨hcalls, hrest, hpre⟩ := hP
  obtain ⟨-, -, -, hnamed, -, -, -, hat⟩ := (Spec.applies_iff hf).mp happ
  obtain ⟨hg, hn⟩ := and_e (Cond.before_iff.mp (show (Jvm.Cond.and given_1 narrow_1).before args s = true from hpre))
  obtain ⟨g0, r0⟩ := and_e hg
  obtain ⟨g1, r1⟩ := and_e r0
  obtain ⟨g2, r2⟩ := and_e r1
  obtain ⟨w0, w1, w2, rfl⟩ : ∃ w0 w1 w2 : Value, args = #[w0, w1, w2] := by
    have hs : args.size = 3 := by simpa [Cond.value, given_1] using g0
    obtain ⟨L⟩ := args
    match L, hs with
    | [w0, w1, w2], _ => exact ⟨w0, w1, w2, rfl⟩
  have hw := fun d (hd : d ∈ tables_1) => atoms_spec (ws := Jvm.Cond.code x code maxLocals ret :: tables_1) hat d (List.mem_cons_of_mem _ hd)
  have hfit : Fit s := fun {y c} hc i hi => by
    obtain ⟨ha, rfl⟩ := Array.getElem?_eq_some_iff.mp hc
    have q := List.all_eq_true.mp ((Array.all_eq_true_iff_forall_mem.mp hF) _ (Array.getElem_mem ha)) i (List.mem_range.mpr hi)
    simpa [Array.getElem?_eq_getElem hi] using q
  obtain ⟨i0, ei0⟩ := is_v g1
  obtain rfl : w0 = (.int i0) := Option.some.inj ei0
  obtain ⟨i1, ei1⟩ := is_v g2
  obtain rfl : w1 = (.int i1) := Option.some.inj ei1
  obtain ⟨i2, ei2⟩ := is_v r2
  obtain rfl : w2 = (.int i2) := Option.some.inj ei2
  obtain ⟨n0, m0⟩ := and_e hn
  obtain ⟨sa, esa⟩ := arr_v n0
  obtain ⟨cl, Ar⟩ := Arr.start esa n0
  obtain ⟨n1, m1⟩ := and_e m0
  obtain ⟨l0, m2⟩ := and_e m1
  obtain ⟨l1, m3⟩ := and_e m2
  obtain ⟨l2, m4⟩ := and_e m3
  obtain ⟨l3, m5⟩ := and_e m4
  obtain ⟨l4, m6⟩ := and_e m5
  obtain ⟨l5, m7⟩ := and_e m6
  obtain ⟨l6, m8⟩ := and_e m7
  obtain ⟨l7, m9⟩ := and_e m8
  obtain ⟨l8, m10⟩ := and_e m9
  obtain ⟨l9, m11⟩ := and_e m10
  obtain ⟨l10, m12⟩ := and_e m11
  obtain ⟨l11, m13⟩ := and_e m12
  obtain ⟨l12, m14⟩ := and_e m13
  obtain ⟨l13, m15⟩ := and_e m14
  obtain ⟨l14, m16⟩ := and_e m15
  obtain ⟨l15, m17⟩ := and_e m16
  obtain ⟨l16, m18⟩ := and_e m17
  obtain ⟨l17, m19⟩ := and_e m18
  obtain ⟨l18, m20⟩ := and_e m19
  obtain ⟨l19, m21⟩ := and_e m20
  obtain ⟨l20, m22⟩ := and_e m21
  obtain ⟨l21, m23⟩ := and_e m22
  obtain ⟨l22, m24⟩ := and_e m23
  have l23 := m24
  have har : s.arrayAt? sa = some cl := Arr.fin (Vm.Alike.refl _) Ar
  have hsz : cl.slots.size = 24 := own_size esa har n1
  have F0 : own_F s s.heap sa cl.cls .int 24 own_rg := by
    refine ⟨cl, Ar, rfl, hsz, fun i hi => ?_⟩
    match i, hi with
    | 0, _ => exact own_elem esa har (n := 0) (by decide) l0
    | 1, _ => exact own_elem esa har (n := 1) (by decide) l1
    | 2, _ => exact own_elem esa har (n := 2) (by decide) l2
    | 3, _ => exact own_elem esa har (n := 3) (by decide) l3
    | 4, _ => exact own_elem esa har (n := 4) (by decide) l4
    | 5, _ => exact own_elem esa har (n := 5) (by decide) l5
    | 6, _ => exact own_elem esa har (n := 6) (by decide) l6
    | 7, _ => exact own_elem esa har (n := 7) (by decide) l7
    | 8, _ => exact own_elem esa har (n := 8) (by decide) l8
    | 9, _ => exact own_elem esa har (n := 9) (by decide) l9
    | 10, _ => exact own_elem esa har (n := 10) (by decide) l10
    | 11, _ => exact own_elem esa har (n := 11) (by decide) l11
    | 12, _ => exact own_elem esa har (n := 12) (by decide) l12
    | 13, _ => exact own_elem esa har (n := 13) (by decide) l13
    | 14, _ => exact own_elem esa har (n := 14) (by decide) l14
    | 15, _ => exact own_elem esa har (n := 15) (by decide) l15
    | 16, _ => exact own_elem esa har (n := 16) (by decide) l16
    | 17, _ => exact own_elem esa har (n := 17) (by decide) l17
    | 18, _ => exact own_elem esa har (n := 18) (by decide) l18
    | 19, _ => exact own_elem esa har (n := 19) (by decide) l19
    | 20, _ => exact own_elem esa har (n := 20) (by decide) l20
    | 21, _ => exact own_elem esa har (n := 21) (by decide) l21
    | 22, _ => exact own_elem esa har (n := 22) (by decide) l22
    | 23, _ => exact own_elem esa har (n := 23) (by decide) l23
    | _ + 24, hq => exact absurd hq (by omega)
  have S0 : Sta s s.heap "com/example/penumbra/penumbra/store/Names" "NAME_START_RANGES" "[I" (.ref sa) := Sta.start esa (Or.inr ⟨(hw _ (List.mem_of_getElem? (i := 13) rfl)), (hw _ (List.mem_of_getElem? (i := 23) rfl))⟩)
  obtain ⟨n, o, h1, h2, h3, _, L, rfl, ⟨rfl, N⟩, hq⟩ := rm0 l s _ hw tables_1 i0 i1 i2 s.heap s.heap.size (Nat.le_refl _) sa cl.cls S0 F0 p e ha hc hk s m _ below hf ((Spec.applies_iff_loose hf).mp happ).1 ⟨rfl, State.Warmed39.refl s, rfl⟩ trivial
  refine ⟨n, _, h1, h2, h3, hpost _ _ _ _ _ _ ⟨Cond.after_iff.mpr rfl, Cond.after_iff.mpr (eq_i res_at (Term.int_eval (1)) rfl), trivial⟩ ⟨hq.1, hq.2.1, (hq.2.2.sift fun y hy => Or.inr (N y hy)).mono (by decide) (by decide)⟩⟩
theorem main_1_1 : Claimed_1_1 := comes_1 fun _ _ _ _ _ _ h hF => ⟨h.1, hF⟩
theorem main_1_2 : Claimed_1_2 := comes_1 fun _ _ _ _ _ _ h hF => ⟨h.2.1, hF⟩
end Jvm.Pilot.@@N@@
namespace Jvm.Pilot.@@N@@
open Jvm Jvm.ClassFile Sem Op Lib Jvm.Free Jvm.Stand Jvm.Pilot.@@N@@.Jvm.D
/-! MADE BY PROGRAM (witnessworld.py) out of the Statement's table words and the real class files: 9 classes; the members and pool entries that the words name. The judged class is class 1, her method 3. -/
namespace start1
open Jvm.ClassFile
def u (s : String) : CpInfo := .utf8 (stringToUtf16 s)
/-- a pool by its gaps: so many unusable entries, then the entry; so many at the end -/
def gap : Nat → List CpInfo → List CpInfo
  | 0, r => r
  | n + 1, r => .unusable :: gap n r
def poolList (es : List (Nat × CpInfo)) (last : Nat) : List CpInfo := es.foldr (fun e r => gap e.1 (e.2 :: r)) (gap last [])
def pool (es : List (Nat × CpInfo)) (last : Nat) : Array CpInfo := ⟨poolList es last⟩
def fileOf (pool : Array CpInfo) (this : Nat) (attrs : Array Attribute := #[]) (ms : Array MethodInfo := #[]) (fl : Nat := 33) (sup : Nat := 0) (ifs : Array Nat := #[]) (fds : Array FieldInfo := #[]) : ClassFile where
  minorVersion := 0
  majorVersion := 65
  constantPool := pool
  accessFlags := fl
  thisClass := this
  superClass := sup
  interfaces := ifs
  fields := fds
  methods := ms
  attributes := attrs
def plain (name : String) (sup : Option ClassId) : Class where
  name := name
  kind := .ordinary
  loader := none
  accessFlags := 33
  super := sup
  interfaces := #[]
  cf := none
  fields := #[]
  methods := #[]
  instanceTypes := #[]
  staticTypes := #[]
  resolved := #[]
  callSites := []
  init := .initialized
  statics := none
  mirror := none

def pool0 : Array CpInfo := pool [(5, u "<init>"), (0, u "()V"), (1, .class_ 10), (1, u "java/lang/Object")] 113

def k0m0 : Method := { name := "<init>", desc := "()V", sig := { parameters := [], returnType := none }, accessFlags := 1, code := none }
/-- java/lang/Object -/
def k0 : Class := { plain "java/lang/Object" none with
  accessFlags := 33
  interfaces := #[]
  cf := some (fileOf pool0 8 #[] #[{ accessFlags := 1, nameIndex := 5, descriptorIndex := 6, attributes := #[] }] 33 0 #[] #[])
  fields := #[]
  methods := #[k0m0]
  instanceTypes := #[]
  staticTypes := #[]
  resolved := Array.replicate 124 none
  statics := none }

def pool1 : Array CpInfo := pool [(2, .class_ 4), (1, u "java/lang/Object"), (0, u "<init>"), (0, u "()V"), (0, .methodref 8 9), (0, .class_ 10), (0, .nameAndType 11 12), (0, u "com/example/penumbra/penumbra/store/NamesIsNameStartPinLaw"), (0, u "in"), (0, u "(III)Z"), (0, .integer 55295), (0, .integer 63744), (0, .integer 64975), (0, .integer 65008), (0, .integer 65533), (0, .integer 65536), (0, .integer 983039), (0, .integer 1114111), (2, .integer 2147483648), (0, .integer 2147483647), (0, .methodref 26 27), (0, .class_ 28), (0, .nameAndType 29 30), (0, u "com/example/penumbra/penumbra/store/Names"), (0, u "isNameStart"), (0, u "(I)Z"), (0, .methodref 8 32), (0, .nameAndType 33 30), (0, u "ref"), (3, u "law")] 4

def k1m0 : Method := { name := "<init>", desc := "()V", sig := { parameters := [], returnType := none }, accessFlags := 2, code := none }
def k1c1 : Code := { maxStack := 2, maxLocals := 3, code := method_2_code, exceptionTable := #[], attributes := #[] }
def k1m1 : Method := { name := "in", desc := "(III)Z", sig := { parameters := [.int, .int, .int], returnType := some .boolean }, accessFlags := 10, code := some k1c1 }
def k1c2 : Code := { maxStack := 3, maxLocals := 1, code := method_3_code, exceptionTable := #[], attributes := #[] }
def k1m2 : Method := { name := "ref", desc := "(I)Z", sig := { parameters := [.int], returnType := some .boolean }, accessFlags := 10, code := some k1c2 }
def k1c3 : Code := { maxStack := 4, maxLocals := 9, code := code, exceptionTable := #[], attributes := #[] }
def k1m3 : Method := { name := "law", desc := "(III)Z", sig := { parameters := [.int, .int, .int], returnType := some .boolean }, accessFlags := 9, code := some k1c3 }
/-- com/example/penumbra/penumbra/store/NamesIsNameStartPinLaw -/
def k1 : Class := { plain "com/example/penumbra/penumbra/store/NamesIsNameStartPinLaw" (some 0) with
  accessFlags := 49
  interfaces := #[]
  cf := some (fileOf pool1 8 #[] #[{ accessFlags := 2, nameIndex := 5, descriptorIndex := 6, attributes := #[] }, { accessFlags := 10, nameIndex := 11, descriptorIndex := 12, attributes := #[] }, { accessFlags := 10, nameIndex := 33, descriptorIndex := 30, attributes := #[] }, { accessFlags := 9, nameIndex := 37, descriptorIndex := 12, attributes := #[] }] 49 2 #[] #[])
  fields := #[]
  methods := #[k1m0, k1m1, k1m2, k1m3]
  instanceTypes := #[]
  staticTypes := #[]
  resolved := Array.replicate 42 none
  statics := none }

def pool2 : Array CpInfo := pool [(2, .class_ 4), (1, u "java/lang/Object"), (0, u "<init>"), (0, u "()V"), (0, .fieldref 8 9), (0, .class_ 10), (0, .nameAndType 11 12), (0, u "com/example/penumbra/penumbra/store/Names"), (0, u "NAME_START_RANGES"), (0, u "[I"), (2, u "isNameStart"), (0, u "(I)Z"), (118, u "MAX_REFERENCE_LENGTH"), (0, u "I")] 20

def k2m0 : Method := { name := "<init>", desc := "()V", sig := { parameters := [], returnType := none }, accessFlags := 2, code := none }
def k2c1 : Code := { maxStack := 4, maxLocals := 2, code := prog_157_method_2_code, exceptionTable := #[], attributes := #[] }
def k2m1 : Method := { name := "isNameStart", desc := "(I)Z", sig := { parameters := [.int], returnType := some .boolean }, accessFlags := 9, code := some k2c1 }
/-- com/example/penumbra/penumbra/store/Names -/
def k2 : Class := { plain "com/example/penumbra/penumbra/store/Names" (some 0) with
  accessFlags := 49
  interfaces := #[]
  cf := some (fileOf pool2 8 #[] #[{ accessFlags := 2, nameIndex := 5, descriptorIndex := 6, attributes := #[] }, { accessFlags := 9, nameIndex := 15, descriptorIndex := 16, attributes := #[] }] 49 2 #[] #[{ accessFlags := 26, nameIndex := 11, descriptorIndex := 12, attributes := #[] }, { accessFlags := 26, nameIndex := 135, descriptorIndex := 136, attributes := #[] }])
  fields := #[{ name := "NAME_START_RANGES", type := (.array .int), accessFlags := 26, slot := 0, constantValue := 0 }, { name := "MAX_REFERENCE_LENGTH", type := .int, accessFlags := 26, slot := 1, constantValue := 0 }]
  methods := #[k2m0, k2m1]
  instanceTypes := #[]
  staticTypes := #[(.array .int), .int]
  resolved := Array.replicate 157 none
  statics := some 0 }

def pool3 : Array CpInfo := pool [(1, u "java/lang/Cloneable"), (0, .class_ 1), (0, u "java/lang/Object"), (0, .class_ 3)] 3

/-- java/lang/Cloneable -/
def k3 : Class := { plain "java/lang/Cloneable" (some 0) with
  accessFlags := 1537
  interfaces := #[]
  cf := some (fileOf pool3 2 #[] #[] 1537 4 #[] #[])
  fields := #[]
  methods := #[]
  instanceTypes := #[]
  staticTypes := #[]
  resolved := Array.replicate 8 none
  statics := none }

def pool4 : Array CpInfo := pool [(1, u "java/io/Serializable"), (0, .class_ 1), (0, u "java/lang/Object"), (0, .class_ 3)] 3

/-- java/io/Serializable -/
def k4 : Class := { plain "java/io/Serializable" (some 0) with
  accessFlags := 1537
  interfaces := #[]
  cf := some (fileOf pool4 2 #[] #[] 1537 4 #[] #[])
  fields := #[]
  methods := #[]
  instanceTypes := #[]
  staticTypes := #[]
  resolved := Array.replicate 8 none
  statics := none }

/-- the primitive byte -/
def k5 : Class := { plain "byte" none with kind := .primitive 'B', accessFlags := 0x411 }
/-- [B -/
def k6 : Class := { plain "[B" (some 0) with kind := .array 5 .byte, interfaces := #[3, 4], accessFlags := 1041 }

/-- the primitive int -/
def k7 : Class := { plain "int" none with kind := .primitive 'I', accessFlags := 0x411 }
/-- [I -/
def k8 : Class := { plain "[I" (some 0) with kind := .array 7 .int, interfaces := #[3, 4], accessFlags := 1041 }

def heap : Heap := #[{ cls := 2, slots := #[.ref 1, .int 0], vm := .statics 2 },
  { cls := 8, slots := #[.int 192, .int 214, .int 216, .int 246, .int 248, .int 767, .int 880, .int 893, .int 895, .int 8191, .int 8204, .int 8205, .int 8304, .int 8591, .int 11264, .int 12271, .int 12289, .int 55295, .int 63744, .int 64975, .int 65008, .int 65533, .int 65536, .int 983039], vm := .none }]
def classes : Array Class := #[k0, k1, k2, k3, k4, k5, k6, k7, k8]
def interned : List (Array UInt16 × Addr) := []
def slotsUsed : Nat := 26
def theMethod : MethodId := ⟨1, 3⟩
def args0 : Array Value := #[.int 5, .int 3, .int 7]
def aboutOver (below : List Frame) : State where
  vm := { classes := classes, interned := interned.toArray }
  heap := heap
  slotsUsed := slotsUsed
  threads := #[{ frames := .invoking theMethod args0 :: below }]
def below0 : List Frame := [.native { method := ⟨0, 0⟩, args := #[] }]
def about1 : State := aboutOver below0
def p0 : Program := .bare "" "" ""
def e0 : Env := launch0.env 0 0 0
theorem w_frames : about1.frames = Frame.invoking theMethod args0 :: below0 := rfl
set_option maxRecDepth 65536 in
theorem w_args : argsFit about1.vm theMethod args0 = true := by decide +kernel
set_option maxRecDepth 65536 in
theorem w_heap : heapFits about1 = true := by decide +kernel
set_option maxRecDepth 65536 in
theorem w_runnable : about1.curStatus? = some .runnable := by decide +kernel
set_option maxRecDepth 65536 in
theorem w_alone : about1.alone = true := by decide +kernel
set_option maxRecDepth 65536 in
theorem w_named : about1.methodNamed? x = some theMethod := by decide +kernel
set_option maxRecDepth 65536 in
theorem w_hears : about1.hears theMethod below0 = true := by decide +kernel
set_option maxRecDepth 65536 in
theorem w_ripe : about1.ripe theMethod args0 below0 = true := by decide +kernel
theorem w_running : about1.status = .running := rfl
set_option maxRecDepth 65536 in
theorem w_room : about1.hasRoom e0.platform room_1 = true :=
  launch0.hasRoom_least _ room_1 (by decide +kernel) (by decide +kernel) (by decide +kernel) (by decide +kernel) (by decide +kernel) (by decide +kernel)
theorem allAtoms_all (ts : List Jvm.Cond) (a : Array Jvm.Value) (st : Jvm.State) : (allAtoms ts).before a st = ts.all (fun c => c.before a st) := by
  induction ts with
  | nil => rfl
  | cons c t ih =>
    show (Jvm.Cond.and c (allAtoms t)).before a st = _
    rw [Jvm.Cond.before_and, ih, List.all_cons]
def words1 : List Jvm.Cond := Jvm.Cond.code x code maxLocals ret :: tables_1
/-- a 'code' word, met by the world's own term for the bytes: nothing is compared byte by byte -/
theorem code_word {y : MethodName} {bytes : ByteArray} {mx : Nat} {rt : Option FieldType} {a : Array Value} {s : State} {m : MethodId} {meth : Method} {c : Code} (h1 : s.methodNamed? y = some m) (h2 : s.vm.method? m = some meth) (h3 : meth.code = some c) (h4 : c.code = bytes)
    (h5 : (c.maxLocals == mx && c.exceptionTable.isEmpty && decide (c.maxStack ≤ mostOperands) && decide (meth.sig.returnType = rt) && !meth.locks && decide (parseMethodDescriptor y.desc = some meth.sig)) = true) : (Jvm.Cond.code y bytes mx rt).before a s = true := by
  simp only [Bool.and_eq_true, beq_iff_eq, Bool.not_eq_true', decide_eq_true_eq] at h5
  obtain ⟨⟨⟨⟨⟨g1, g2⟩, g3⟩, g4⟩, g5⟩, g6⟩ := h5
  simp [Cond.before, Cond.holds, Cond.value, h1, h2, h3, h4, g1, g2, g3, g4, g5, g6]
def isCode : Jvm.Cond → Bool
  | .code _ _ _ _ => true
  | _ => false
theorem all_split {L : List Jvm.Cond} {P : Jvm.Cond → Bool} (h1 : L.all (fun c => isCode c || P c) = true) (h2 : ∀ c ∈ L.filter isCode, P c = true) : L.all P = true := by
  refine List.all_eq_true.mpr fun c hc => ?_
  have h := List.all_eq_true.mp h1 c hc
  rcases Bool.eq_false_or_eq_true (isCode c) with hi | hi
  · exact h2 c (List.mem_filter.mpr ⟨hc, hi⟩)
  · simpa [hi] using h
set_option maxRecDepth 65536 in
theorem w_c0 : (Jvm.Cond.code x code maxLocals ret).before args0 about1 = true := code_word (m := ⟨1, 3⟩) (meth := k1m3) (c := k1c3) (by decide +kernel) rfl rfl rfl (by decide +kernel)
set_option maxRecDepth 65536 in
theorem w_c1 : (Jvm.Cond.code ({ cls := "com/example/penumbra/penumbra/store/Names", name := "isNameStart", desc := "(I)Z" } : Jvm.MethodName) prog_157_method_2_code (2 : Nat) (Option.some Jvm.ClassFile.FieldType.boolean)).before args0 about1 = true := code_word (m := ⟨2, 1⟩) (meth := k2m1) (c := k2c1) (by decide +kernel) rfl rfl rfl (by decide +kernel)
set_option maxRecDepth 65536 in
theorem w_c2 : (Jvm.Cond.code ({ cls := "com/example/penumbra/penumbra/store/NamesIsNameStartPinLaw", name := "ref", desc := "(I)Z" } : Jvm.MethodName) method_3_code (1 : Nat) (Option.some Jvm.ClassFile.FieldType.boolean)).before args0 about1 = true := code_word (m := ⟨1, 2⟩) (meth := k1m2) (c := k1c2) (by decide +kernel) rfl rfl rfl (by decide +kernel)
set_option maxRecDepth 65536 in
theorem w_c3 : (Jvm.Cond.code ({ cls := "com/example/penumbra/penumbra/store/NamesIsNameStartPinLaw", name := "in", desc := "(III)Z" } : Jvm.MethodName) method_2_code (3 : Nat) (Option.some Jvm.ClassFile.FieldType.boolean)).before args0 about1 = true := code_word (m := ⟨1, 1⟩) (meth := k1m1) (c := k1c1) (by decide +kernel) rfl rfl rfl (by decide +kernel)
def codes1 : List Jvm.Cond := [Jvm.Cond.code x code maxLocals ret, Jvm.Cond.code ({ cls := "com/example/penumbra/penumbra/store/Names", name := "isNameStart", desc := "(I)Z" } : Jvm.MethodName) prog_157_method_2_code (2 : Nat) (Option.some Jvm.ClassFile.FieldType.boolean), Jvm.Cond.code ({ cls := "com/example/penumbra/penumbra/store/NamesIsNameStartPinLaw", name := "ref", desc := "(I)Z" } : Jvm.MethodName) method_3_code (1 : Nat) (Option.some Jvm.ClassFile.FieldType.boolean), Jvm.Cond.code ({ cls := "com/example/penumbra/penumbra/store/NamesIsNameStartPinLaw", name := "in", desc := "(III)Z" } : Jvm.MethodName) method_2_code (3 : Nat) (Option.some Jvm.ClassFile.FieldType.boolean)]
set_option maxRecDepth 65536 in
theorem codes_eq : words1.filter isCode = codes1 := rfl
theorem w_codes : ∀ c ∈ words1.filter isCode, c.before args0 about1 = true := by
  rw [codes_eq]
  intro c hc
  simp only [codes1, List.mem_cons, List.not_mem_nil, or_false] at hc
  rcases hc with rfl | rfl | rfl | rfl
  · exact w_c0
  · exact w_c1
  · exact w_c2
  · exact w_c3
set_option maxRecDepth 65536 in
theorem w_t1 : (words1.take 24).all (fun c => isCode c || c.before args0 about1) = true := by decide +kernel
set_option maxRecDepth 65536 in
theorem w_t2 : (words1.drop 24).all (fun c => isCode c || c.before args0 about1) = true := by decide +kernel
theorem w_tables : (allAtoms (Jvm.Cond.code x code maxLocals ret :: tables_1)).before args0 about1 = true := by
  rw [allAtoms_all]
  show words1.all (fun c => c.before args0 about1) = true
  refine all_split ?_ w_codes
  rw [← List.take_append_drop 24 words1, List.all_append, w_t1, w_t2]
  rfl
set_option maxRecDepth 65536 in
theorem w_case : (Jvm.Cond.and given_1 narrow_1).before args0 about1 = true := by decide +kernel
theorem w_applies : (headSpec (Jvm.Cond.code x code maxLocals ret :: tables_1) room_1).applies x e0.platform about1 = true :=
  (Spec.applies_iff w_frames).mpr ⟨w_running, w_runnable, w_alone, w_named, w_hears, w_ripe, w_room, w_tables⟩
theorem atStart : AtStart classFile x code maxLocals ret World_1 tables_1 room_1 Calls_1 rest_1 Pre_1 launch0 p0 e0 about1 theMethod args0 below0 :=
  ⟨lists_1, trivial, launch0.admits_env _ _ _, launch0.least_env, fairChoices_fair.cas, fairChoices_fair.clock, w_frames, w_args, w_heap, w_applies, trivial, trivial, w_case⟩
end start1
theorem witness_1 : WitnessClaimed_1 := ⟨start1.p0, start1.e0, start1.about1, start1.theMethod, start1.args0, start1.below0, start1.atStart⟩
end Jvm.Pilot.@@N@@
