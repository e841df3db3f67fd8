import JvmDerived
import JvmDerived.Pilot.@@N@@Statement
import JvmDerived.Pilot.@@N@@Code
set_option linter.unusedVariables false
set_option linter.unusedSimpArgs false
namespace Jvm.Pilot.@@N@@
open Jvm Jvm.ClassFile Sem Op Lib Jvm.Free Jvm.Stand Jvm.LawKit Jvm.RoadKit Bundle Jvm.Pilot.@@N@@.Jvm.D
/-! own kit, part 1: what a walk still owes, as a predicate on the state it stands at -/
section Own
variable {p : Program} {l : Launch} {e : Env} {R : Room} {s : State} {m : MethodId} {args : Array Value} {below : List Frame} {meth : Method} {c : Code} {T : State} {locs : List Loc} {cells slots : Nat} {Z : State} {a0 : Array Value} {h : Heap} {Q : Option Value → Heap → List Loc → Prop} {kc ks : Nat}
def own_End (p : Program) (e : Env) (below : List Frame) (s : State) (Q : Option Value → Heap → List Loc → Prop) (kc ks : Nat) (A : State) : Prop :=
  ∃ s₂ o, Steps p.tables e below A s₂ ∧ s₂.status = .running ∧ Ended s₂ below o ∧ ∃ v L, o = .returned v ∧ Q v s₂.heap L ∧ FrameEnd s o s₂ L kc ks
theorem own_go {A B : State} (h : ∀ t, Steps p.tables e below B t → Steps p.tables e below A t) (k : own_End p e below s Q kc ks B) : own_End p e below s Q kc ks A := by
  obtain ⟨s₂, o, h1, r⟩ := k
  exact ⟨s₂, o, h _ h1, r⟩
/-- a word on 'what is owed' is shown first and used behind -/
theorem own_join {A : State} (F : (State → Prop) → Prop) (h1 : F (own_End p e below s Q kc ks)) (h2 : F (own_End p e below s Q kc ks) → own_End p e below s Q kc ks A) : own_End p e below s Q kc ks A := h2 h1
abbrev own_Met (l : Launch) (y : MethodName) (bytes : ByteArray) (maxL : Nat) (rt : Option FieldType) (ws : List Jvm.Cond) (rm : Room) (as' : Array Value) (Z : State) (h0 : Heap) (Q : Option Value → Heap → List Loc → Prop) : Prop :=
  MetFree l y (head1 (Jvm.Cond.code y bytes maxL rt :: ws) rm) (fun a U => a = as' ∧ Z.Warmed39 U.vm ∧ U.heap = h0) (fun _ _ _ _ _ => True) (fun _ U o U' => ∃ v L, o = .returned v ∧ Q v U'.heap L ∧ FrameEnd U o U' L rm.cells rm.slots)
theorem own_body {y : MethodName} {bytes : ByteArray} {maxL : Nat} {rt : Option FieldType} {ws : List Jvm.Cond} {rm : Room} {as' : Array Value} {h0 : Heap} (pn : plainFor y = true)
    (body : ∀ (p : Program) (e : Env) (s : State) (m : MethodId) (below : List Frame) (meth : Method) (c : Code) (s₁ : State), Stand p l e rm s m as' below meth c s₁ [] 0 0 → p.tables.exec = Jvm.exec → c.code = bytes → c.maxLocals = maxL → meth.sig.returnType = rt → meth.locks = false → s.vm.findClass y.cls = some m.cls → meth.name = y.name → Z.Warmed39 s.vm → s₁.heap = h0 → own_End p e below s Q rm.cells rm.slots (s₁.setTop (entryFrame m as' maxL))) :
    own_Met l y bytes maxL rt ws rm as' Z h0 Q := by
  refine MetFree.of_bodySF pn hisR ?_
  intro p e s m args below meth c s₁ Bd hml0 hP hK
  obtain ⟨rfl, hZ, hh⟩ := hP
  exact body p e s m below meth c s₁ (Stand.of_body Bd) Bd.exec Bd.bytes hml0 Bd.returns Bd.notSynchronized (findClass_of_methodNamed Bd.named) (name_of_methodNamed Bd.named Bd.method).1 hZ (by rw [← hh, Bd.state]; rfl)
theorem own_retN (X : Stand p l e R s m args below meth c T locs cells slots) (hx : p.tables.exec = Jvm.exec) {t : FieldType} (hret : meth.sig.returnType = some t) (hlk : meth.locks = false) (ht : t = .boolean ∨ t = .byte ∨ t = .char ∨ t = .short) {pc : Nat} {Ls : Array Slot} {z : Int32} {rest : List Value} (hd : decode c.code pc = .ok (.ireturn, 1)) (hq : Q (some (.int (nar t z))) T.heap locs) (h1 : cells ≤ kc) (h2 : slots ≤ ks) :
    own_End p e below s Q kc ks (T.setTop (mkF m pc Ls (.int z :: rest))) := by
  obtain ⟨fs, hr, hrun, hended, hW, hsame⟩ := X.leave (v := some (.int (nar t z))) (fun h => by rw [hret] at h; cases h) hlk
  exact ⟨_, _, retN X hx hret ht hd hr, hrun, hended, _, _, rfl, hq, ⟨_, rfl⟩, hW, hsame.mono h1 h2⟩
theorem own_retI (X : Stand p l e R s m args below meth c T locs cells slots) (hx : p.tables.exec = Jvm.exec) (hret : meth.sig.returnType = some .int) (hlk : meth.locks = false) {pc : Nat} {Ls : Array Slot} {z : Int32} {rest : List Value} (hd : decode c.code pc = .ok (.ireturn, 1)) (hq : Q (some (.int z)) T.heap locs) (h1 : cells ≤ kc) (h2 : slots ≤ ks) :
    own_End p e below s Q kc ks (T.setTop (mkF m pc Ls (.int z :: rest))) := by
  obtain ⟨fs, hr, hrun, hended, hW, hsame⟩ := X.leave (v := some (.int z)) (fun h => by rw [hret] at h; cases h) hlk
  exact ⟨_, _, retOut X hx hret rfl (Or.inl ⟨rfl, Or.inl rfl, z, rfl⟩) hd hr, hrun, hended, _, _, rfl, hq, ⟨_, rfl⟩, hW, hsame.mono h1 h2⟩
theorem own_retJ (X : Stand p l e R s m args below meth c T locs cells slots) (hx : p.tables.exec = Jvm.exec) (hret : meth.sig.returnType = some .long) (hlk : meth.locks = false) {pc : Nat} {Ls : Array Slot} {z : Int64} {rest : List Value} (hd : decode c.code pc = .ok (.lreturn, 1)) (hq : Q (some (.long z)) T.heap locs) (h1 : cells ≤ kc) (h2 : slots ≤ ks) :
    own_End p e below s Q kc ks (T.setTop (mkF m pc Ls (.long z :: rest))) := by
  obtain ⟨fs, hr, hrun, hended, hW, hsame⟩ := X.leave (v := some (.long z)) (fun h => by rw [hret] at h; cases h) hlk
  exact ⟨_, _, retOut X hx hret rfl (Or.inr (Or.inl ⟨rfl, rfl, z, rfl⟩)) hd hr, hrun, hended, _, _, rfl, hq, ⟨_, rfl⟩, hW, hsame.mono h1 h2⟩
theorem own_retA (X : Stand p l e R s m args below meth c T locs cells slots) (hx : p.tables.exec = Jvm.exec) {t : FieldType} (ht : t.isReference = true) (hret : meth.sig.returnType = some t) (hlk : meth.locks = false) {pc : Nat} {Ls : Array Slot} {b : Addr} (hd : decode c.code pc = .ok (.areturn, 1)) (hq : Q (some (.ref b)) T.heap locs) (h1 : cells ≤ kc) (h2 : slots ≤ ks) :
    own_End p e below s Q kc ks (T.setTop (mkF m pc Ls [.ref b])) := by
  obtain ⟨fs, hr, hrun, hended, hW, hsame⟩ := X.leave (v := some (.ref b)) (fun h => by rw [hret] at h; cases h) hlk
  exact ⟨_, _, X.areturnOut hx rfl hret ht hd hr, hrun, hended, _, _, rfl, hq, ⟨_, rfl⟩, hW, hsame.mono h1 h2⟩
theorem own_ret (X : Stand p l e R s m args below meth c T locs cells slots) (hx : p.tables.exec = Jvm.exec) (hret : meth.sig.returnType = none) (hlk : meth.locks = false) {pc : Nat} {Ls : Array Slot} (hd : decode c.code pc = .ok (.return_, 1)) (hq : Q none T.heap locs) (h1 : cells ≤ kc) (h2 : slots ≤ ks) :
    own_End p e below s Q kc ks (T.setTop (mkF m pc Ls [])) := by
  obtain ⟨fs, hr, hrun, hended, hW, hsame⟩ := X.leave (v := none) (fun _ => rfl) hlk
  exact ⟨_, _, X.returnOut hx hret hd hr, hrun, hended, _, _, rfl, hq, ⟨_, rfl⟩, hW, hsame.mono h1 h2⟩
/-! own kit, part 2: calls by a callee's contract -/
theorem own_callS (X : Stand p l e R s m args below meth c T locs cells slots) (hx : p.tables.exec = Jvm.exec) (hZ : Z.Warmed39 s.vm) {own : String} {index : Nat} {y : MethodName} {bytes : ByteArray} {maxL : Nat} {rt : Option FieldType} {rm : Room} {as' : Array Value} {Qc : Option Value → Heap → List Loc → Prop} (W : Nat)
    (hown : s.vm.findClass own = some m.cls) (w1 : (Cond.methodLink own index y).before a0 Z = true) (w2 : (Cond.static y).before a0 Z = true) (w3 : (Cond.initialized y.cls).before a0 Z = true) (w4 : (Cond.code y bytes maxL rt).before a0 Z = true)
    (hy : y.cls ≠ "java/lang/invoke/MethodHandle" ∧ y.cls ≠ "java/lang/invoke/VarHandle") (hM : own_Met l y bytes maxL rt [] rm as' Z h Qc) (eT : T.heap = h)
    {pc : Nat} {Ls : Array Slot} {st : List Value} (argsL rest : List Value) (hsize : Ls.size = c.maxLocals) (hst : st = argsL.reverse ++ rest) (has : argsL.toArray = as') (hlen : ∀ sig, parseMethodDescriptor y.desc = some sig → argsL.length = sig.parameters.length)
    (hW : (rest.map fun v => v.category).sum ≤ W) (hd : decode c.code pc = .ok (.invokestatic index, 3)) (hf : rm.frames + 1 ≤ R.frames) (hl : W + (maxL + 11) + rm.locals ≤ R.locals) (hc : cells + rm.cells ≤ R.cells) (hs : slots + rm.slots ≤ R.slots) :
    ∃ v T' L, Stand p l e R s m args below meth c T' (locs ++ L) (cells + rm.cells) (slots + rm.slots) ∧ Qc v T'.heap L ∧ ∀ t, Steps p.tables e below (T'.setTop (mkF m (pc + 3) Ls (v.toList ++ rest))) t → Steps p.tables e below (T.setTop (mkF m pc Ls st)) t := by
  obtain ⟨v, vm1, ⟨T', L', k', n'⟩, -, X', ⟨L, hQ, l1, y1, z1⟩, st'⟩ := Jvm.LawKit.callS X hx (y := y) hown (mvT hZ w1) (mvT hZ w2) (mvT hZ w3) (mvT hZ w4) hy (backOf (W := W) hM hZ w4 w3 hf hl) (g := mkF m pc Ls st) rfl hsize (argsL := argsL) (rest := rest) hlen hst (by show 2 * 0 + _ ≤ _; omega) hd (fun _ _ => ⟨has, eT, hc, hs⟩)
  dsimp only [Pt.U, Pt.locs, Pt.cells, Pt.slots] at X' l1 y1 z1 st' hQ
  subst l1 y1 z1
  exact ⟨v, T', L, X', hQ, st'⟩
theorem own_callV (X : Stand p l e R s m args below meth c T locs cells slots) (hx : p.tables.exec = Jvm.exec) (hZ : Z.Warmed39 s.vm) {own C : String} {index : Nat} {y : MethodName} {bytes : ByteArray} {maxL : Nat} {rt : Option FieldType} {rm : Room} {as' : Array Value} {Qc : Option Value → Heap → List Loc → Prop} (W : Nat)
    (hown : s.vm.findClass own = some m.cls) (w1 : (Cond.methodLink own index y).before a0 Z = true) (w2 : (Cond.declares y).before a0 Z = true) (w3 : (Cond.selects C y y).before a0 Z = true) (w4 : (Cond.instanceMethod y).before a0 Z = true) (w5 : (Cond.initialized y.cls).before a0 Z = true) (w6 : (Cond.code y bytes maxL rt).before a0 Z = true)
    (hy : y.cls ≠ "java/lang/invoke/MethodHandle" ∧ y.cls ≠ "java/lang/invoke/VarHandle") (hM : own_Met l y bytes maxL rt [] rm as' Z h Qc) (eT : T.heap = h) {b : Addr} (E : Exa Z h b C)
    {pc : Nat} {Ls : Array Slot} {st : List Value} (argsL rest : List Value) (hsize : Ls.size = c.maxLocals) (hst : st = argsL.reverse ++ .ref b :: rest) (has : (.ref b :: argsL).toArray = as') (hlen : ∀ sig, parseMethodDescriptor y.desc = some sig → argsL.length = sig.parameters.length)
    (hW : (rest.map fun v => v.category).sum ≤ W) (hd : decode c.code pc = .ok (.invokevirtual index, 3)) (hf : rm.frames + 1 ≤ R.frames) (hl : W + (maxL + 11) + rm.locals ≤ R.locals) (hc : cells + rm.cells ≤ R.cells) (hs : slots + rm.slots ≤ R.slots) :
    ∃ v T' L, Stand p l e R s m args below meth c T' (locs ++ L) (cells + rm.cells) (slots + rm.slots) ∧ Qc v T'.heap L ∧ ∀ t, Steps p.tables e below (T'.setTop (mkF m (pc + 3) Ls (v.toList ++ rest))) t → Steps p.tables e below (T.setTop (mkF m pc Ls st)) t := by
  obtain ⟨cq, kq, q1, q2, q3⟩ := isOf hZ eT E
  obtain ⟨v, vm1, ⟨T', L', k', n'⟩, -, X', ⟨L, hQ, l1, y1, z1⟩, st'⟩ := X.virtualBack hx (y := y) (z := y) hown (mvT hZ w1) (mvT hZ w2) (notFace_of_selects (args := #[]) (mvT hZ w3)) (mvT hZ w3) (mvT hZ w4) hy (backOf (W := W) hM hZ w6 w5 hf hl) q1 q3 (g := mkF m pc Ls st) rfl hsize (Steps.refl _) (argsL := argsL) (rest := rest) hlen hst (by show 2 * 0 + _ ≤ _; omega) hd (fun _ _ => ⟨has, eT, hc, hs⟩)
  dsimp only [Pt.U, Pt.locs, Pt.cells, Pt.slots] at X' l1 y1 z1 st' hQ
  subst l1 y1 z1
  exact ⟨v, T', L, X', hQ, fun t k => st'.trans k⟩
theorem own_callI (X : Stand p l e R s m args below meth c T locs cells slots) (hx : p.tables.exec = Jvm.exec) (hZ : Z.Warmed39 s.vm) {own : String} {index : Nat} {y : MethodName} {bytes : ByteArray} {maxL : Nat} {rm : Room} {as' : Array Value} {Qc : Option Value → Heap → List Loc → Prop} (W : Nat) (hi : y.name = "<init>")
    (hown : s.vm.findClass own = some m.cls) (w1 : (Cond.methodLink own index y).before a0 Z = true) (w4 : (Cond.instanceMethod y).before a0 Z = true) (w5 : (Cond.initialized y.cls).before a0 Z = true) (w6 : (Cond.code y bytes maxL none).before a0 Z = true)
    (hy : y.cls ≠ "java/lang/invoke/MethodHandle" ∧ y.cls ≠ "java/lang/invoke/VarHandle") (hM : own_Met l y bytes maxL none [] rm as' Z h Qc) (eT : T.heap = h) {b : Addr}
    {pc : Nat} {Ls : Array Slot} {st : List Value} (argsL rest : List Value) (hsize : Ls.size = c.maxLocals) (hst : st = argsL.reverse ++ .ref b :: rest) (has : (.ref b :: argsL).toArray = as') (hlen : ∀ sig, parseMethodDescriptor y.desc = some sig → argsL.length = sig.parameters.length)
    (hW : (rest.map fun v => v.category).sum ≤ W) (hd : decode c.code pc = .ok (.invokespecial index, 3)) (hf : rm.frames + 1 ≤ R.frames) (hl : W + (maxL + 11) + rm.locals ≤ R.locals) (hc : cells + rm.cells ≤ R.cells) (hs : slots + rm.slots ≤ R.slots) :
    ∃ v T' L, Stand p l e R s m args below meth c T' (locs ++ L) (cells + rm.cells) (slots + rm.slots) ∧ Qc v T'.heap L ∧ ∀ t, Steps p.tables e below (T'.setTop (mkF m (pc + 3) Ls (v.toList ++ rest))) t → Steps p.tables e below (T.setTop (mkF m pc Ls st)) t := by
  obtain ⟨v, vm1, ⟨T', L', k', n'⟩, -, X', ⟨L, hQ, l1, y1, z1⟩, st'⟩ := X.specialBack hx (y := y) hi hown (mvT hZ w1) (mvT hZ w4) (mvT hZ w6) hy (backOf (W := W) hM hZ w6 w5 hf hl) (g := mkF m pc Ls st) rfl hsize (Steps.refl _) (a := b) (argsL := argsL) (rest := rest) hlen hst (by show 2 * 0 + _ ≤ _; omega) hd (fun _ _ => ⟨has, eT, hc, hs⟩)
  dsimp only [Pt.U, Pt.locs, Pt.cells, Pt.slots] at X' l1 y1 z1 st' hQ
  subst l1 y1 z1
  exact ⟨v, T', L, X', hQ, fun t k => st'.trans k⟩
/-! own kit, part 3: comparisons, said of the numbers -/
theorem own_ltY {x y : Int32} {k : Int} (hy : y.toInt = k) (q : x.toInt < k) : if_icmp.holds .lt x y = true := (tlt (Int32.lt_iff_toInt_lt.mpr (by omega))).1
theorem own_ltN {x y : Int32} {k : Int} (hy : y.toInt = k) (q : ¬ x.toInt < k) : if_icmp.holds .lt x y = false := (flt (fun z => q (by have := Int32.lt_iff_toInt_lt.mp z; omega))).1
theorem own_geY {x y : Int32} {k : Int} (hy : y.toInt = k) (q : k ≤ x.toInt) : if_icmp.holds .ge x y = true := (flt (fun z => by have := Int32.lt_iff_toInt_lt.mp z; omega)).2.1
theorem own_geN {x y : Int32} {k : Int} (hy : y.toInt = k) (q : ¬ k ≤ x.toInt) : if_icmp.holds .ge x y = false := (tlt (Int32.lt_iff_toInt_lt.mpr (by omega))).2.1
theorem own_gtY {x y : Int32} {k : Int} (hy : y.toInt = k) (q : k < x.toInt) : if_icmp.holds .gt x y = true := (tlt (x := y) (y := x) (Int32.lt_iff_toInt_lt.mpr (by omega))).2.2.1
theorem own_gtN {x y : Int32} {k : Int} (hy : y.toInt = k) (q : ¬ k < x.toInt) : if_icmp.holds .gt x y = false := (flt (x := y) (y := x) (fun z => q (by have := Int32.lt_iff_toInt_lt.mp z; omega))).2.2.1
theorem own_leY {x y : Int32} {k : Int} (hy : y.toInt = k) (q : x.toInt ≤ k) : if_icmp.holds .le x y = true := (flt (x := y) (y := x) (fun z => by have := Int32.lt_iff_toInt_lt.mp z; omega)).2.2.2
theorem own_leN {x y : Int32} {k : Int} (hy : y.toInt = k) (q : ¬ x.toInt ≤ k) : if_icmp.holds .le x y = false := (tlt (x := y) (y := x) (Int32.lt_iff_toInt_lt.mpr (by omega))).2.2.2
theorem own_eqY {x y : Int32} {k : Int} (hy : y.toInt = k) (q : x.toInt = k) : if_icmp.holds .eq x y = true := (teq (Int32.toInt_inj.mp (by omega))).1
theorem own_eqN {x y : Int32} {k : Int} (hy : y.toInt = k) (q : ¬ x.toInt = k) : if_icmp.holds .eq x y = false := (feq (fun z => q (by rw [z]; exact hy))).1
theorem own_neY {x y : Int32} {k : Int} (hy : y.toInt = k) (q : ¬ x.toInt = k) : if_icmp.holds .ne x y = true := (feq (fun z => q (by rw [z]; exact hy))).2
theorem own_neN {x y : Int32} {k : Int} (hy : y.toInt = k) (q : ¬ ¬ x.toInt = k) : if_icmp.holds .ne x y = false := (teq (Int32.toInt_inj.mp (by omega))).2
theorem own_0 {cd : ClassFile.Cond} {x : Int32} {b : Bool} (q : if_icmp.holds cd x 0 = b) : ifCond.holds cd x = b := (if0 cd x).trans q
theorem own_cmp (x y : Int64) : (x.toInt < y.toInt ∧ XT.cmpL x y = -1) ∨ (x.toInt = y.toInt ∧ XT.cmpL x y = 0) ∨ (y.toInt < x.toInt ∧ XT.cmpL x y = 1) := by
  unfold XT.cmpL
  by_cases h1 : y < x
  · exact Or.inr (Or.inr ⟨Int64.lt_iff_toInt_lt.mp h1, if_pos h1⟩)
  · by_cases h2 : x = y
    · exact Or.inr (Or.inl ⟨by rw [h2], by rw [if_neg h1, if_pos h2]⟩)
    · refine Or.inl ⟨?_, by rw [if_neg h1, if_neg h2]⟩
      have q1 : ¬ y.toInt < x.toInt := fun z => h1 (Int64.lt_iff_toInt_lt.mpr z)
      have q2 : ¬ x.toInt = y.toInt := fun z => h2 (Int64.toInt_inj.mp z)
      omega
theorem own_lltY {x y : Int64} {k : Int} (hy : y.toInt = k) (q : x.toInt < k) : ifCond.holds .lt (XT.cmpL x y) = true := by rcases own_cmp x y with ⟨h, e⟩ | ⟨h, e⟩ | ⟨h, e⟩ <;> first | (exfalso; omega) | (rw [e]; decide)
theorem own_lltN {x y : Int64} {k : Int} (hy : y.toInt = k) (q : ¬ x.toInt < k) : ifCond.holds .lt (XT.cmpL x y) = false := by rcases own_cmp x y with ⟨h, e⟩ | ⟨h, e⟩ | ⟨h, e⟩ <;> first | (exfalso; omega) | (rw [e]; decide)
theorem own_lgeY {x y : Int64} {k : Int} (hy : y.toInt = k) (q : k ≤ x.toInt) : ifCond.holds .ge (XT.cmpL x y) = true := by rcases own_cmp x y with ⟨h, e⟩ | ⟨h, e⟩ | ⟨h, e⟩ <;> first | (exfalso; omega) | (rw [e]; decide)
theorem own_lgeN {x y : Int64} {k : Int} (hy : y.toInt = k) (q : ¬ k ≤ x.toInt) : ifCond.holds .ge (XT.cmpL x y) = false := by rcases own_cmp x y with ⟨h, e⟩ | ⟨h, e⟩ | ⟨h, e⟩ <;> first | (exfalso; omega) | (rw [e]; decide)
theorem own_lgtY {x y : Int64} {k : Int} (hy : y.toInt = k) (q : k < x.toInt) : ifCond.holds .gt (XT.cmpL x y) = true := by rcases own_cmp x y with ⟨h, e⟩ | ⟨h, e⟩ | ⟨h, e⟩ <;> first | (exfalso; omega) | (rw [e]; decide)
theorem own_lgtN {x y : Int64} {k : Int} (hy : y.toInt = k) (q : ¬ k < x.toInt) : ifCond.holds .gt (XT.cmpL x y) = false := by rcases own_cmp x y with ⟨h, e⟩ | ⟨h, e⟩ | ⟨h, e⟩ <;> first | (exfalso; omega) | (rw [e]; decide)
theorem own_lleY {x y : Int64} {k : Int} (hy : y.toInt = k) (q : x.toInt ≤ k) : ifCond.holds .le (XT.cmpL x y) = true := by rcases own_cmp x y with ⟨h, e⟩ | ⟨h, e⟩ | ⟨h, e⟩ <;> first | (exfalso; omega) | (rw [e]; decide)
theorem own_lleN {x y : Int64} {k : Int} (hy : y.toInt = k) (q : ¬ x.toInt ≤ k) : ifCond.holds .le (XT.cmpL x y) = false := by rcases own_cmp x y with ⟨h, e⟩ | ⟨h, e⟩ | ⟨h, e⟩ <;> first | (exfalso; omega) | (rw [e]; decide)
theorem own_leqY {x y : Int64} {k : Int} (hy : y.toInt = k) (q : x.toInt = k) : ifCond.holds .eq (XT.cmpL x y) = true := by rcases own_cmp x y with ⟨h, e⟩ | ⟨h, e⟩ | ⟨h, e⟩ <;> first | (exfalso; omega) | (rw [e]; decide)
theorem own_leqN {x y : Int64} {k : Int} (hy : y.toInt = k) (q : ¬ x.toInt = k) : ifCond.holds .eq (XT.cmpL x y) = false := by rcases own_cmp x y with ⟨h, e⟩ | ⟨h, e⟩ | ⟨h, e⟩ <;> first | (exfalso; omega) | (rw [e]; decide)
theorem own_lneY {x y : Int64} {k : Int} (hy : y.toInt = k) (q : ¬ x.toInt = k) : ifCond.holds .ne (XT.cmpL x y) = true := by rcases own_cmp x y with ⟨h, e⟩ | ⟨h, e⟩ | ⟨h, e⟩ <;> first | (exfalso; omega) | (rw [e]; decide)
theorem own_lneN {x y : Int64} {k : Int} (hy : y.toInt = k) (q : ¬ ¬ x.toInt = k) : ifCond.holds .ne (XT.cmpL x y) = false := by rcases own_cmp x y with ⟨h, e⟩ | ⟨h, e⟩ | ⟨h, e⟩ <;> first | (exfalso; omega) | (rw [e]; decide)
theorem own_yes {P : Prop} [Decidable P] (q : P) : (some (Value.int (nar .boolean 1)) : Option Value) = some (.int (if P then 1 else 0)) := by rw [if_pos q]; rfl
theorem own_no {P : Prop} [Decidable P] (q : ¬ P) : (some (Value.int (nar .boolean 0)) : Option Value) = some (.int (if P then 1 else 0)) := by rw [if_neg q]; rfl
theorem own_nyes {P : Prop} [Decidable P] (q : P) : (some (Value.int (nar .boolean 0)) : Option Value) = some (.int (if P then 0 else 1)) := by rw [if_pos q]; rfl
theorem own_nno {P : Prop} [Decidable P] (q : ¬ P) : (some (Value.int (nar .boolean 1)) : Option Value) = some (.int (if P then 0 else 1)) := by rw [if_neg q]; rfl
theorem own_bneY {P : Prop} [Decidable P] (q : P) : ifCond.holds .ne (if P then (1 : Int32) else 0) = true := by rw [if_pos q]; rfl
theorem own_bneN {P : Prop} [Decidable P] (q : ¬ P) : ifCond.holds .ne (if P then (1 : Int32) else 0) = false := by rw [if_neg q]; rfl
theorem own_beqY {P : Prop} [Decidable P] (q : ¬ P) : ifCond.holds .eq (if P then (1 : Int32) else 0) = true := by rw [if_neg q]; rfl
theorem own_beqN {P : Prop} [Decidable P] (q : ¬ ¬ P) : ifCond.holds .eq (if P then (1 : Int32) else 0) = false := by rw [if_pos (Decidable.not_not.mp q)]; rfl
/-! own kit, part 4: an array of which only the kind, the length and 'its places hold values of the kind' is kept -/
def own_A (Z : State) (h : Heap) (a : Addr) (ty : FieldType) (n : Nat) : Prop := ∃ c : Cell, Arr Z h a c ty ∧ c.slots.size = n ∧ ∀ i, i < n → ∃ v, c.slots[i]? = some v ∧ fits ty v = true
theorem own_A.lt {a : Addr} {ty : FieldType} {n : Nat} (A : own_A Z h a ty n) : a < h.size := by obtain ⟨c, A, -⟩ := A; exact A.lt
theorem own_A.of {h' : Heap} {a : Addr} {ty : FieldType} {n : Int32} {k : ClassId} {j : Nat} (A : Arr Z h a (newA k ty n) ty) (q : ¬ n < 0) (hn : n.toNatClampNeg = j) : own_A Z h a ty j := by
  obtain ⟨c, A, -, S, -, H, G⟩ := Arv.new A q
  exact ⟨c, A, S.trans hn, fun i hi => ⟨_, H i (by omega), G i (by omega)⟩⟩
theorem own_A.ext {h' : Heap} {a : Addr} {ty : FieldType} {n : Nat} (A : own_A Z h a ty n) (E : Ext h h') : own_A Z h' a ty n := by obtain ⟨c, A, r⟩ := A; exact ⟨c, A.ext E, r⟩
theorem own_A.other {h' : Heap} {a b : Addr} {ty : FieldType} {n sl : Nat} {v : Value} (A : own_A Z h a ty n) (W : Wr h h' b sl v) (q : a ≠ b) : own_A Z h' a ty n := by obtain ⟨c, A, r⟩ := A; exact ⟨c, A.other W q, r⟩
theorem own_A.set {h' : Heap} {a : Addr} {ty : FieldType} {n j : Nat} {v : Value} (A : own_A Z h a ty n) (W : Wr h h' a j v) (hv : fits ty v = true) : own_A Z h' a ty n := by
  obtain ⟨c, A, S, H⟩ := A
  refine ⟨_, A.same W, by rw [sz_set]; exact S, fun i hi => ?_⟩
  by_cases hij : i = j
  · subst hij
    exact ⟨v, by simp [Cell.setSlot, S, hi], hv⟩
  · obtain ⟨w, h1, h2⟩ := H i hi
    refine ⟨w, ?_, h2⟩
    simp only [Cell.setSlot]
    rw [Array.getElem?_setIfInBounds_ne (fun z => hij z.symm)]
    exact h1
theorem own_inb {c : Cell} {n : Nat} {j : Int32} (S : c.slots.size = n) (h1 : 0 ≤ j.toInt) (h2 : j.toInt < n) : ¬ (j < 0 ∨ c.slots.size ≤ j.toNatClampNeg) := by
  have h3 : ¬ j < 0 := fun z => by have := Int32.lt_iff_toInt_lt.mp z; have e : (0 : Int32).toInt = 0 := rfl; omega
  have := nat_of h3
  rintro (z | z)
  · exact h3 z
  · omega
theorem own_stI (X : Stand p l e R s m args below meth c T locs cells slots) (hx : p.tables.exec = Jvm.exec) (hZ : Z.Warmed39 s.vm) (eT : T.heap = h) {a : Addr} {n : Nat} (A : own_A Z h a .int n) {j x : Int32} (h1 : 0 ≤ j.toInt) (h2 : j.toInt < n) {pc : Nat} {Ls : Array Slot} {rest : List Value} (hd : decode c.code pc = .ok (.iastore, 1)) :
    ∃ T' h', Stand p l e R s m args below meth c T' (locs ++ [⟨a, j.toNatClampNeg⟩]) cells slots ∧ T'.heap = h' ∧ Wr h h' a j.toNatClampNeg (.int x) ∧ own_A Z h' a .int n ∧ ∀ t, Steps p.tables e below (T'.setTop (mkF m (pc + 1) Ls rest)) t → Steps p.tables e below (T.setTop (mkF m pc Ls (.int x :: .int j :: .ref a :: rest))) t := by
  have A0 := A
  obtain ⟨cl, A1, S, H⟩ := A
  obtain ⟨T', h', X', e', W, st⟩ := stI X hx hZ eT A1 (j := j) (x := x) (own_inb S h1 h2) (g := mkF m pc Ls (.int x :: .int j :: .ref a :: rest)) rfl rfl hd
  exact ⟨T', h', X', e', W, A0.set W rfl, st⟩
theorem own_stJ (X : Stand p l e R s m args below meth c T locs cells slots) (hx : p.tables.exec = Jvm.exec) (hZ : Z.Warmed39 s.vm) (eT : T.heap = h) {a : Addr} {n : Nat} (A : own_A Z h a .long n) {j : Int32} {x : Int64} (h1 : 0 ≤ j.toInt) (h2 : j.toInt < n) {pc : Nat} {Ls : Array Slot} {rest : List Value} (hd : decode c.code pc = .ok (.lastore, 1)) :
    ∃ T' h', Stand p l e R s m args below meth c T' (locs ++ [⟨a, j.toNatClampNeg⟩]) cells slots ∧ T'.heap = h' ∧ Wr h h' a j.toNatClampNeg (.long x) ∧ own_A Z h' a .long n ∧ ∀ t, Steps p.tables e below (T'.setTop (mkF m (pc + 1) Ls rest)) t → Steps p.tables e below (T.setTop (mkF m pc Ls (.long x :: .int j :: .ref a :: rest))) t := by
  have A0 := A
  obtain ⟨cl, A1, S, H⟩ := A
  obtain ⟨T', h', X', e', W, st⟩ := stJ X hx hZ eT A1 (j := j) (x := x) (own_inb S h1 h2) (g := mkF m pc Ls (.long x :: .int j :: .ref a :: rest)) rfl rfl hd
  exact ⟨T', h', X', e', W, A0.set W rfl, st⟩
theorem own_ldI (X : Stand p l e R s m args below meth c T locs cells slots) (hx : p.tables.exec = Jvm.exec) (hZ : Z.Warmed39 s.vm) (eT : T.heap = h) {a : Addr} {n : Nat} (A : own_A Z h a .int n) {j : Int32} (h1 : 0 ≤ j.toInt) (h2 : j.toInt < n) {pc : Nat} {Ls : Array Slot} {rest : List Value} (hd : decode c.code pc = .ok (.iaload, 1)) :
    ∃ x : Int32, ∀ t, Steps p.tables e below (T.setTop (mkF m (pc + 1) Ls (.int x :: rest))) t → Steps p.tables e below (T.setTop (mkF m pc Ls (.int j :: .ref a :: rest))) t := by
  obtain ⟨cl, A1, S, H⟩ := A
  have hin := own_inb S h1 h2
  obtain ⟨v, g1, g2⟩ := H j.toNatClampNeg (by rw [← S]; exact Nat.lt_of_not_le fun q => hin (Or.inr q))
  obtain ⟨x, rfl⟩ := fit_I g2 (Or.inl rfl)
  exact ⟨x, fun t k => X.iaload hx (by rw [eT]; exact A1.1) (State.isArrayOf_alike hZ.alike A1.2.1) A1.2.2 hin g1 (g := mkF m pc Ls (.int j :: .ref a :: rest)) rfl rfl hd t k⟩
theorem own_ldJ (X : Stand p l e R s m args below meth c T locs cells slots) (hx : p.tables.exec = Jvm.exec) (hZ : Z.Warmed39 s.vm) (eT : T.heap = h) {a : Addr} {n : Nat} (A : own_A Z h a .long n) {j : Int32} (h1 : 0 ≤ j.toInt) (h2 : j.toInt < n) {pc : Nat} {Ls : Array Slot} {rest : List Value} (hd : decode c.code pc = .ok (.laload, 1)) :
    ∃ x : Int64, ∀ t, Steps p.tables e below (T.setTop (mkF m (pc + 1) Ls (.long x :: rest))) t → Steps p.tables e below (T.setTop (mkF m pc Ls (.int j :: .ref a :: rest))) t := by
  obtain ⟨cl, A1, S, H⟩ := A
  have hin := own_inb S h1 h2
  obtain ⟨v, g1, g2⟩ := H j.toNatClampNeg (by rw [← S]; exact Nat.lt_of_not_le fun q => hin (Or.inr q))
  obtain ⟨x, rfl⟩ := fit_J g2
  exact ⟨x, fun t k => X.laload hx (by rw [eT]; exact A1.1) (State.isArrayOf_alike hZ.alike A1.2.1) A1.2.2 hin g1 (g := mkF m pc Ls (.int j :: .ref a :: rest)) rfl rfl hd t k⟩
theorem own_len (X : Stand p l e R s m args below meth c T locs cells slots) (hx : p.tables.exec = Jvm.exec) (hZ : Z.Warmed39 s.vm) (eT : T.heap = h) {a : Addr} {n : Nat} {ty : FieldType} (A : own_A Z h a ty n) {pc : Nat} {Ls : Array Slot} {rest : List Value} (hd : decode c.code pc = .ok (.arraylength, 1)) :
    ∀ t, Steps p.tables e below (T.setTop (mkF m (pc + 1) Ls (.int n.toInt32 :: rest))) t → Steps p.tables e below (T.setTop (mkF m pc Ls (.ref a :: rest))) t := by
  obtain ⟨cl, A1, S, H⟩ := A
  subst S
  exact fun t k => X.arraylength hx (by rw [eT]; exact A1.1) (State.isArrayOf_alike hZ.alike A1.2.1) (g := mkF m pc Ls (.ref a :: rest)) rfl rfl hd t k
/-! own kit, part 5: an array by the function that tells what its places hold -/
def own_F (Z : State) (h : Heap) (a : Addr) (k : ClassId) (ty : FieldType) (n : Nat) (f : Nat → Value) : Prop := ∃ c : Cell, Arr Z h a c ty ∧ c.cls = k ∧ c.slots.size = n ∧ ∀ i, i < n → c.slots[i]? = some (f i)
def own_up (f : Nat → Value) (j : Nat) (v : Value) : Nat → Value := fun i => if i = j then v else f i
section F
variable {h' : Heap} {a b : Addr} {k : ClassId} {ty : FieldType} {n : Nat} {f : Nat → Value} {j x : Int32} {y : Int64} {i : Nat} {v : Value} {pc : Nat} {Ls : Array Slot} {rest : List Value}
theorem own_F.cong {g : Nat → Value} (F : own_F Z h a k ty n f) (q : ∀ i, i < n → f i = g i) : own_F Z h a k ty n g := by obtain ⟨c, A, r1, r2, r3⟩ := F; exact ⟨c, A, r1, r2, fun i hi => by rw [← q i hi]; exact r3 i hi⟩
theorem own_F.lt (F : own_F Z h a k ty n f) : a < h.size := by obtain ⟨c, A, -⟩ := F; exact A.lt
theorem own_F.ext (F : own_F Z h a k ty n f) (E : Ext h h') : own_F Z h' a k ty n f := by obtain ⟨c, A, r⟩ := F; exact ⟨c, A.ext E, r⟩
theorem own_F.other {sl : Nat} (F : own_F Z h a k ty n f) (W : Wr h h' b sl v) (q : a ≠ b) : own_F Z h' a k ty n f := by obtain ⟨c, A, r⟩ := F; exact ⟨c, A.other W q, r⟩
theorem own_F.keep {ws : List Addr} (F : own_F Z h a k ty n f) (K : Keep h h' ws) (q : a ∉ ws) : own_F Z h' a k ty n f := by obtain ⟨c, A, r⟩ := F; exact ⟨c, ⟨K.2.1 a c A.1 q, A.2⟩, r⟩
theorem own_F.new {z : Int32} (A : Arr Z h a (newA k ty z) ty) (q : ¬ z < 0) (hn : z.toNatClampNeg = n) : own_F Z h a k ty n (fun _ => defaultValue ty) := by
  refine ⟨_, A, rfl, (sz_new _ _ _).trans hn, fun i hi => ?_⟩
  simp [newA, hn, hi]
theorem own_F.set (F : own_F Z h a k ty n f) (W : Wr h h' a i v) : own_F Z h' a k ty n (own_up f i v) := by
  obtain ⟨c, A, q, S, H⟩ := F
  refine ⟨_, A.same W, q, by rw [sz_set]; exact S, fun j hj => ?_⟩
  unfold own_up
  by_cases hij : j = i
  · subst hij
    rw [if_pos rfl]; simp [Cell.setSlot, S, hj]
  · rw [if_neg hij]
    simp only [Cell.setSlot]
    rw [Array.getElem?_setIfInBounds_ne (fun z => hij z.symm)]
    exact H j hj
theorem own_nat (hj : j.toInt = i) : j.toNatClampNeg = i ∧ ¬ j < 0 := by
  have h3 : ¬ j < 0 := fun z => by have := Int32.lt_iff_toInt_lt.mp z; have e : (0 : Int32).toInt = 0 := rfl; omega
  have := nat_of h3
  exact ⟨by omega, h3⟩
theorem own_in {c : Cell} (S : c.slots.size = n) (hj : j.toInt = i) (hi : i < n) : ¬ (j < 0 ∨ c.slots.size ≤ j.toNatClampNeg) := by
  obtain ⟨e1, e2⟩ := own_nat hj
  rintro (z | z)
  · exact e2 z
  · omega
theorem own_fstI (X : Stand p l e R s m args below meth c T locs cells slots) (hx : p.tables.exec = Jvm.exec) (hZ : Z.Warmed39 s.vm) (eT : T.heap = h) (F : own_F Z h a k .int n f) (i : Nat) (hj : j.toInt = i) (hi : i < n) (hd : decode c.code pc = .ok (.iastore, 1)) :
    ∃ T' h', Stand p l e R s m args below meth c T' (locs ++ [⟨a, i⟩]) cells slots ∧ T'.heap = h' ∧ Wr h h' a i (.int x) ∧ own_F Z h' a k .int n (own_up f i (.int x)) ∧ ∀ t, Steps p.tables e below (T'.setTop (mkF m (pc + 1) Ls rest)) t → Steps p.tables e below (T.setTop (mkF m pc Ls (.int x :: .int j :: .ref a :: rest))) t := by
  have F0 := F
  obtain ⟨cl, A, q, S, H⟩ := F
  obtain ⟨T', h', X', e', W, st⟩ := stI X hx hZ eT A (j := j) (x := x) (own_in S hj hi) (g := mkF m pc Ls (.int x :: .int j :: .ref a :: rest)) rfl rfl hd
  rw [(own_nat hj).1] at X' W
  exact ⟨T', h', X', e', W, F0.set W, st⟩
theorem own_fstJ (X : Stand p l e R s m args below meth c T locs cells slots) (hx : p.tables.exec = Jvm.exec) (hZ : Z.Warmed39 s.vm) (eT : T.heap = h) (F : own_F Z h a k .long n f) (i : Nat) (hj : j.toInt = i) (hi : i < n) (hd : decode c.code pc = .ok (.lastore, 1)) :
    ∃ T' h', Stand p l e R s m args below meth c T' (locs ++ [⟨a, i⟩]) cells slots ∧ T'.heap = h' ∧ Wr h h' a i (.long y) ∧ own_F Z h' a k .long n (own_up f i (.long y)) ∧ ∀ t, Steps p.tables e below (T'.setTop (mkF m (pc + 1) Ls rest)) t → Steps p.tables e below (T.setTop (mkF m pc Ls (.long y :: .int j :: .ref a :: rest))) t := by
  have F0 := F
  obtain ⟨cl, A, q, S, H⟩ := F
  obtain ⟨T', h', X', e', W, st⟩ := stJ X hx hZ eT A (j := j) (x := y) (own_in S hj hi) (g := mkF m pc Ls (.long y :: .int j :: .ref a :: rest)) rfl rfl hd
  rw [(own_nat hj).1] at X' W
  exact ⟨T', h', X', e', W, F0.set W, st⟩
theorem own_fstC (X : Stand p l e R s m args below meth c T locs cells slots) (hx : p.tables.exec = Jvm.exec) (hZ : Z.Warmed39 s.vm) (eT : T.heap = h) (F : own_F Z h a k .char n f) (i : Nat) (hj : j.toInt = i) (hi : i < n) (hd : decode c.code pc = .ok (.castore, 1)) :
    ∃ T' h', Stand p l e R s m args below meth c T' (locs ++ [⟨a, i⟩]) cells slots ∧ T'.heap = h' ∧ Wr h h' a i (.int (nar .char x)) ∧ own_F Z h' a k .char n (own_up f i (.int (nar .char x))) ∧ ∀ t, Steps p.tables e below (T'.setTop (mkF m (pc + 1) Ls rest)) t → Steps p.tables e below (T.setTop (mkF m pc Ls (.int x :: .int j :: .ref a :: rest))) t := by
  have F0 := F
  obtain ⟨cl, A, q, S, H⟩ := F
  obtain ⟨T', h', X', e', W, st⟩ := stC X hx hZ eT A (j := j) (x := x) (own_in S hj hi) (g := mkF m pc Ls (.int x :: .int j :: .ref a :: rest)) rfl rfl hd
  rw [(own_nat hj).1] at X' W
  exact ⟨T', h', X', e', W, F0.set W, st⟩
theorem own_fstZ (X : Stand p l e R s m args below meth c T locs cells slots) (hx : p.tables.exec = Jvm.exec) (hZ : Z.Warmed39 s.vm) (eT : T.heap = h) (F : own_F Z h a k .boolean n f) (i : Nat) (hj : j.toInt = i) (hi : i < n) (hd : decode c.code pc = .ok (.bastore, 1)) :
    ∃ T' h', Stand p l e R s m args below meth c T' (locs ++ [⟨a, i⟩]) cells slots ∧ T'.heap = h' ∧ Wr h h' a i (.int (nar .boolean x)) ∧ own_F Z h' a k .boolean n (own_up f i (.int (nar .boolean x))) ∧ ∀ t, Steps p.tables e below (T'.setTop (mkF m (pc + 1) Ls rest)) t → Steps p.tables e below (T.setTop (mkF m pc Ls (.int x :: .int j :: .ref a :: rest))) t := by
  have F0 := F
  obtain ⟨cl, A, q, S, H⟩ := F
  obtain ⟨T', h', X', e', W, st⟩ := stZ X hx hZ eT A (j := j) (x := x) (own_in S hj hi) (g := mkF m pc Ls (.int x :: .int j :: .ref a :: rest)) rfl rfl hd
  rw [(own_nat hj).1] at X' W
  exact ⟨T', h', X', e', W, F0.set W, st⟩
theorem own_fstA (X : Stand p l e R s m args below meth c T locs cells slots) (hx : p.tables.exec = Jvm.exec) (hZ : Z.Warmed39 s.vm) (eT : T.heap = h) (F : own_F Z h a k ty n f) (hty : ty.isReference = true) (O : Sto Z h a v) (i : Nat) (hj : j.toInt = i) (hi : i < n) (hd : decode c.code pc = .ok (.aastore, 1)) :
    ∃ T' h', Stand p l e R s m args below meth c T' (locs ++ [⟨a, i⟩]) cells slots ∧ T'.heap = h' ∧ Wr h h' a i v ∧ own_F Z h' a k ty n (own_up f i v) ∧ ∀ t, Steps p.tables e below (T'.setTop (mkF m (pc + 1) Ls rest)) t → Steps p.tables e below (T.setTop (mkF m pc Ls (v :: .int j :: .ref a :: rest))) t := by
  have F0 := F
  obtain ⟨cl, A, q, S, H⟩ := F
  obtain ⟨T', h', X', e', W, st⟩ := stR X hx hZ eT A (j := j) (v := v) (own_in S hj hi) hty O (g := mkF m pc Ls (v :: .int j :: .ref a :: rest)) rfl rfl hd
  rw [(own_nat hj).1] at X' W
  exact ⟨T', h', X', e', W, F0.set W, st⟩
theorem own_fldI (X : Stand p l e R s m args below meth c T locs cells slots) (hx : p.tables.exec = Jvm.exec) (hZ : Z.Warmed39 s.vm) (eT : T.heap = h) (F : own_F Z h a k .int n f) (i : Nat) (hj : j.toInt = i) (hi : i < n) (hv : f i = v) (hd : decode c.code pc = .ok (.iaload, 1)) :
    ∀ t, Steps p.tables e below (T.setTop (mkF m (pc + 1) Ls (v :: rest))) t → Steps p.tables e below (T.setTop (mkF m pc Ls (.int j :: .ref a :: rest))) t := by
  obtain ⟨cl, A, q, S, H⟩ := F
  exact fun t kk => X.iaload hx (by rw [eT]; exact A.1) (State.isArrayOf_alike hZ.alike A.2.1) A.2.2 (own_in S hj hi) (by rw [(own_nat hj).1, ← hv]; exact H i hi) (g := mkF m pc Ls (.int j :: .ref a :: rest)) rfl rfl hd t kk
theorem own_fldJ (X : Stand p l e R s m args below meth c T locs cells slots) (hx : p.tables.exec = Jvm.exec) (hZ : Z.Warmed39 s.vm) (eT : T.heap = h) (F : own_F Z h a k .long n f) (i : Nat) (hj : j.toInt = i) (hi : i < n) (hv : f i = v) (hd : decode c.code pc = .ok (.laload, 1)) :
    ∀ t, Steps p.tables e below (T.setTop (mkF m (pc + 1) Ls (v :: rest))) t → Steps p.tables e below (T.setTop (mkF m pc Ls (.int j :: .ref a :: rest))) t := by
  obtain ⟨cl, A, q, S, H⟩ := F
  exact fun t kk => X.laload hx (by rw [eT]; exact A.1) (State.isArrayOf_alike hZ.alike A.2.1) A.2.2 (own_in S hj hi) (by rw [(own_nat hj).1, ← hv]; exact H i hi) (g := mkF m pc Ls (.int j :: .ref a :: rest)) rfl rfl hd t kk
theorem own_fldC (X : Stand p l e R s m args below meth c T locs cells slots) (hx : p.tables.exec = Jvm.exec) (hZ : Z.Warmed39 s.vm) (eT : T.heap = h) (F : own_F Z h a k .char n f) (i : Nat) (hj : j.toInt = i) (hi : i < n) (hv : f i = v) (hd : decode c.code pc = .ok (.caload, 1)) :
    ∀ t, Steps p.tables e below (T.setTop (mkF m (pc + 1) Ls (v :: rest))) t → Steps p.tables e below (T.setTop (mkF m pc Ls (.int j :: .ref a :: rest))) t := by
  obtain ⟨cl, A, q, S, H⟩ := F
  exact fun t kk => X.caload hx (by rw [eT]; exact A.1) (State.isArrayOf_alike hZ.alike A.2.1) A.2.2 (own_in S hj hi) (by rw [(own_nat hj).1, ← hv]; exact H i hi) (g := mkF m pc Ls (.int j :: .ref a :: rest)) rfl rfl hd t kk
theorem own_fldZ (X : Stand p l e R s m args below meth c T locs cells slots) (hx : p.tables.exec = Jvm.exec) (hZ : Z.Warmed39 s.vm) (eT : T.heap = h) (F : own_F Z h a k .boolean n f) (i : Nat) (hj : j.toInt = i) (hi : i < n) (hv : f i = v) (hd : decode c.code pc = .ok (.baload, 1)) :
    ∀ t, Steps p.tables e below (T.setTop (mkF m (pc + 1) Ls (v :: rest))) t → Steps p.tables e below (T.setTop (mkF m pc Ls (.int j :: .ref a :: rest))) t := by
  obtain ⟨cl, A, q, S, H⟩ := F
  exact fun t kk => X.baloadBooleans hx (by rw [eT]; exact A.1) (State.isArrayOf_alike hZ.alike A.2.1) A.2.2 (own_in S hj hi) (by rw [(own_nat hj).1, ← hv]; exact H i hi) (g := mkF m pc Ls (.int j :: .ref a :: rest)) rfl rfl hd t kk
theorem own_fldA (X : Stand p l e R s m args below meth c T locs cells slots) (hx : p.tables.exec = Jvm.exec) (hZ : Z.Warmed39 s.vm) (eT : T.heap = h) (F : own_F Z h a k ty n f) (hty : ty.isReference = true) (i : Nat) (hj : j.toInt = i) (hi : i < n) (hv : f i = v) (hd : decode c.code pc = .ok (.aaload, 1)) :
    ∀ t, Steps p.tables e below (T.setTop (mkF m (pc + 1) Ls (v :: rest))) t → Steps p.tables e below (T.setTop (mkF m pc Ls (.int j :: .ref a :: rest))) t := by
  obtain ⟨cl, A, q, S, H⟩ := F
  exact fun t kk => X.aaload hx (by rw [eT]; exact A.1) (State.isArrayOf_alike hZ.alike A.2.1) hty A.2.2 (own_in S hj hi) (by rw [(own_nat hj).1, ← hv]; exact H i hi) (g := mkF m pc Ls (.int j :: .ref a :: rest)) rfl rfl hd t kk
theorem own_flen (X : Stand p l e R s m args below meth c T locs cells slots) (hx : p.tables.exec = Jvm.exec) (hZ : Z.Warmed39 s.vm) (eT : T.heap = h) (F : own_F Z h a k ty n f) (hd : decode c.code pc = .ok (.arraylength, 1)) :
    ∀ t, Steps p.tables e below (T.setTop (mkF m (pc + 1) Ls (.int n.toInt32 :: rest))) t → Steps p.tables e below (T.setTop (mkF m pc Ls (.ref a :: rest))) t := by
  obtain ⟨cl, A, q, S, H⟩ := F
  subst S
  exact fun t kk => X.arraylength hx (by rw [eT]; exact A.1) (State.isArrayOf_alike hZ.alike A.2.1) (g := mkF m pc Ls (.ref a :: rest)) rfl rfl hd t kk
theorem own_F.sto {ty : FieldType} {y : Addr} {C : String} (F : own_F Z h a k (.array ty) n f) (O : OvrA Z k ty C) (E : Exa Z h y C) : Sto Z h a (.ref y) := by
  obtain ⟨c, A, q, -⟩ := F
  exact Sto.ofVA A q O (Ins.self E)
theorem own_up_eq : own_up f i v i = v := if_pos rfl
theorem own_up_ne {j : Nat} (q : j ≠ i) : own_up f i v j = f j := if_neg q
end F
end Own
theorem d1_0 : decode prog_157_method_10_code 0 = .ok (.iload_n 0, 1) := by decide +kernel
theorem d1_1 : decode prog_157_method_10_code 1 = .ok (.bipush 9, 2) := by decide +kernel
theorem d1_3 : decode prog_157_method_10_code 3 = .ok (.if_icmp .eq 51, 3) := by decide +kernel
theorem d1_6 : decode prog_157_method_10_code 6 = .ok (.iload_n 0, 1) := by decide +kernel
theorem d1_7 : decode prog_157_method_10_code 7 = .ok (.bipush 10, 2) := by decide +kernel
theorem d1_9 : decode prog_157_method_10_code 9 = .ok (.if_icmp .eq 45, 3) := by decide +kernel
theorem d1_12 : decode prog_157_method_10_code 12 = .ok (.iload_n 0, 1) := by decide +kernel
theorem d1_13 : decode prog_157_method_10_code 13 = .ok (.bipush 13, 2) := by decide +kernel
theorem d1_15 : decode prog_157_method_10_code 15 = .ok (.if_icmp .eq 39, 3) := by decide +kernel
theorem d1_18 : decode prog_157_method_10_code 18 = .ok (.iload_n 0, 1) := by decide +kernel
theorem d1_19 : decode prog_157_method_10_code 19 = .ok (.bipush 32, 2) := by decide +kernel
theorem d1_21 : decode prog_157_method_10_code 21 = .ok (.if_icmp .lt 9, 3) := by decide +kernel
theorem d1_24 : decode prog_157_method_10_code 24 = .ok (.iload_n 0, 1) := by decide +kernel
theorem d1_25 : decode prog_157_method_10_code 25 = .ok (.ldc 62, 2) := by decide +kernel
theorem d1_27 : decode prog_157_method_10_code 27 = .ok (.if_icmp .le 27, 3) := by decide +kernel
theorem d1_30 : decode prog_157_method_10_code 30 = .ok (.iload_n 0, 1) := by decide +kernel
theorem d1_31 : decode prog_157_method_10_code 31 = .ok (.ldc 63, 2) := by decide +kernel
theorem d1_33 : decode prog_157_method_10_code 33 = .ok (.if_icmp .lt 9, 3) := by decide +kernel
theorem d1_36 : decode prog_157_method_10_code 36 = .ok (.iload_n 0, 1) := by decide +kernel
theorem d1_37 : decode prog_157_method_10_code 37 = .ok (.ldc 64, 2) := by decide +kernel
theorem d1_39 : decode prog_157_method_10_code 39 = .ok (.if_icmp .le 15, 3) := by decide +kernel
theorem d1_42 : decode prog_157_method_10_code 42 = .ok (.iload_n 0, 1) := by decide +kernel
theorem d1_43 : decode prog_157_method_10_code 43 = .ok (.ldc 65, 2) := by decide +kernel
theorem d1_45 : decode prog_157_method_10_code 45 = .ok (.if_icmp .lt 13, 3) := by decide +kernel
theorem d1_48 : decode prog_157_method_10_code 48 = .ok (.iload_n 0, 1) := by decide +kernel
theorem d1_49 : decode prog_157_method_10_code 49 = .ok (.ldc 66, 2) := by decide +kernel
theorem d1_51 : decode prog_157_method_10_code 51 = .ok (.if_icmp .gt 7, 3) := by decide +kernel
theorem d1_54 : decode prog_157_method_10_code 54 = .ok (.iconst 1, 1) := by decide +kernel
theorem d1_55 : decode prog_157_method_10_code 55 = .ok (.goto 4, 3) := by decide +kernel
theorem d1_58 : decode prog_157_method_10_code 58 = .ok (.iconst 0, 1) := by decide +kernel
theorem d1_59 : decode prog_157_method_10_code 59 = .ok (.ireturn, 1) := by decide +kernel
theorem d2_0 : decode method_2_code 0 = .ok (.iload_n 0, 1) := by decide +kernel
theorem d2_1 : decode method_2_code 1 = .ok (.ifCond .ge 5, 3) := by decide +kernel
theorem d2_4 : decode method_2_code 4 = .ok (.iconst 1, 1) := by decide +kernel
theorem d2_5 : decode method_2_code 5 = .ok (.ireturn, 1) := by decide +kernel
theorem d2_6 : decode method_2_code 6 = .ok (.iload_n 0, 1) := by decide +kernel
theorem d2_7 : decode method_2_code 7 = .ok (.bipush 8, 2) := by decide +kernel
theorem d2_9 : decode method_2_code 9 = .ok (.if_icmp .gt 5, 3) := by decide +kernel
theorem d2_12 : decode method_2_code 12 = .ok (.iconst 1, 1) := by decide +kernel
theorem d2_13 : decode method_2_code 13 = .ok (.ireturn, 1) := by decide +kernel
theorem d2_14 : decode method_2_code 14 = .ok (.iload_n 0, 1) := by decide +kernel
theorem d2_15 : decode method_2_code 15 = .ok (.bipush 11, 2) := by decide +kernel
theorem d2_17 : decode method_2_code 17 = .ok (.if_icmp .eq 9, 3) := by decide +kernel
theorem d2_20 : decode method_2_code 20 = .ok (.iload_n 0, 1) := by decide +kernel
theorem d2_21 : decode method_2_code 21 = .ok (.bipush 12, 2) := by decide +kernel
theorem d2_23 : decode method_2_code 23 = .ok (.if_icmp .ne 5, 3) := by decide +kernel
theorem d2_26 : decode method_2_code 26 = .ok (.iconst 1, 1) := by decide +kernel
theorem d2_27 : decode method_2_code 27 = .ok (.ireturn, 1) := by decide +kernel
theorem d2_28 : decode method_2_code 28 = .ok (.iload_n 0, 1) := by decide +kernel
theorem d2_29 : decode method_2_code 29 = .ok (.bipush 14, 2) := by decide +kernel
theorem d2_31 : decode method_2_code 31 = .ok (.if_icmp .lt 11, 3) := by decide +kernel
theorem d2_34 : decode method_2_code 34 = .ok (.iload_n 0, 1) := by decide +kernel
theorem d2_35 : decode method_2_code 35 = .ok (.bipush 31, 2) := by decide +kernel
theorem d2_37 : decode method_2_code 37 = .ok (.if_icmp .gt 5, 3) := by decide +kernel
theorem d2_40 : decode method_2_code 40 = .ok (.iconst 1, 1) := by decide +kernel
theorem d2_41 : decode method_2_code 41 = .ok (.ireturn, 1) := by decide +kernel
theorem d2_42 : decode method_2_code 42 = .ok (.iload_n 0, 1) := by decide +kernel
theorem d2_43 : decode method_2_code 43 = .ok (.ldc 7, 2) := by decide +kernel
theorem d2_45 : decode method_2_code 45 = .ok (.if_icmp .lt 11, 3) := by decide +kernel
theorem d2_48 : decode method_2_code 48 = .ok (.iload_n 0, 1) := by decide +kernel
theorem d2_49 : decode method_2_code 49 = .ok (.ldc 8, 2) := by decide +kernel
theorem d2_51 : decode method_2_code 51 = .ok (.if_icmp .gt 5, 3) := by decide +kernel
theorem d2_54 : decode method_2_code 54 = .ok (.iconst 1, 1) := by decide +kernel
theorem d2_55 : decode method_2_code 55 = .ok (.ireturn, 1) := by decide +kernel
theorem d2_56 : decode method_2_code 56 = .ok (.iload_n 0, 1) := by decide +kernel
theorem d2_57 : decode method_2_code 57 = .ok (.ldc 9, 2) := by decide +kernel
theorem d2_59 : decode method_2_code 59 = .ok (.if_icmp .eq 9, 3) := by decide +kernel
theorem d2_62 : decode method_2_code 62 = .ok (.iload_n 0, 1) := by decide +kernel
theorem d2_63 : decode method_2_code 63 = .ok (.ldc 10, 2) := by decide +kernel
theorem d2_65 : decode method_2_code 65 = .ok (.if_icmp .ne 5, 3) := by decide +kernel
theorem d2_68 : decode method_2_code 68 = .ok (.iconst 1, 1) := by decide +kernel
theorem d2_69 : decode method_2_code 69 = .ok (.ireturn, 1) := by decide +kernel
theorem d2_70 : decode method_2_code 70 = .ok (.iload_n 0, 1) := by decide +kernel
theorem d2_71 : decode method_2_code 71 = .ok (.ldc 11, 2) := by decide +kernel
theorem d2_73 : decode method_2_code 73 = .ok (.if_icmp .le 7, 3) := by decide +kernel
theorem d2_76 : decode method_2_code 76 = .ok (.iconst 1, 1) := by decide +kernel
theorem d2_77 : decode method_2_code 77 = .ok (.goto 4, 3) := by decide +kernel
theorem d2_80 : decode method_2_code 80 = .ok (.iconst 0, 1) := by decide +kernel
theorem d2_81 : decode method_2_code 81 = .ok (.ireturn, 1) := by decide +kernel
theorem pd_I_Z : parseMethodDescriptor "(I)Z" = some ⟨[.int], some .boolean⟩ := by decide +kernel
theorem pn_Names : plainName "com/example/penumbra/penumbra/store/Names" = true := by first | (simp [plainName, overriddenIn]; done) | decide +kernel
theorem pn_NamesIsXmlCharPinLaw : plainName "com/example/penumbra/penumbra/store/NamesIsXmlCharPinLaw" = true := by first | (simp [plainName, overriddenIn]; done) | decide +kernel
abbrev own_xc (c : Int) : Prop := c = 9 ∨ c = 10 ∨ c = 13 ∨ (32 ≤ c ∧ c ≤ 55295) ∨ (57344 ≤ c ∧ c ≤ 65533) ∨ (65536 ≤ c ∧ c ≤ 1114111)
set_option maxRecDepth 65536 in
set_option maxHeartbeats 40000000 in
theorem rm1 (l : Launch) (Z : State) (a0 : Array Value) (hw : ∀ d ∈ tables_1, d.before a0 Z = true) (ws : List Jvm.Cond) (p1 : Int32) (h0 : Heap) (n0 : Nat) (Z0 : n0 ≤ h0.size)  :
    own_Met l (⟨"com/example/penumbra/penumbra/store/Names", "isXmlChar", "(I)Z"⟩ : MethodName) prog_157_method_10_code 1 (some .boolean) ws ({ frames := 0, cells := 0, slots := 0, locals := 0 } : Room) #[(.int p1)] Z h0 (fun v h L => v = some (.int (if own_xc p1.toInt then 1 else 0)) ∧ Fr n0 L ∧ h = h0) := by
  refine own_body (plainFor_of_name pn_Names) ?_
  intro p e s m below meth c s0 X0 hx hby hml hret hlk hown hnm hZ e0
  replace hown : s.vm.findClass "com/example/penumbra/penumbra/store/Names" = some m.cls := hown
  have N0 := Fr.nil n0
  have ef : entryFrame m #[(.int p1)] 1 = (mkF m 0 #[.val (.int p1)] []) := by first | (simp [entryFrame, mkF, argsToLocals, Value.category, maxLocals]; done) | rfl
  rw [ef]
  show own_End p e below s _ _ _ (s0.setTop (mkF m 0 #[.val (.int p1)] []))
  refine own_join (fun G => ¬ (p1.toInt = 9 ∨ p1.toInt = 10 ∨ p1.toInt = 13 ∨ (32 ≤ p1.toInt ∧ p1.toInt ≤ 55295) ∨ (57344 ≤ p1.toInt ∧ p1.toInt ≤ 65533)) → G (s0.setTop (mkF m 42 #[.val (.int p1)] []))) ?_ ?_
  ·
    intro j_42
    show own_End p e below s _ _ _ (s0.setTop (mkF m 42 #[.val (.int p1)] []))
    refine own_go (fun t k => XS.iloadN X0.here hx rfl (hb hby d1_42) rfl k) ?_
    show own_End p e below s _ _ _ (s0.setTop (mkF m 43 #[.val (.int p1)] [(.int p1)]))
    refine own_go (X0.ldcInt (own := "com/example/penumbra/penumbra/store/Names") (index := 65) (v := 65536) hx hown (mvT hZ (hw _ (List.mem_of_getElem? (i := 13) rfl))) (g := (mkF m 43 #[.val (.int p1)] [(.int p1)])) rfl (hb hby d1_43)) ?_
    show own_End p e below s _ _ _ (s0.setTop (mkF m 45 #[.val (.int p1)] [(.int (65536 : Int32)), (.int p1)]))
    by_cases q_45 : p1.toInt < 65536
    ·
      refine own_go (fun t k => XS.icmpYes X0.here hx rfl (pc0 := 45) (pc' := 58) rfl (hb hby d1_45) rfl (own_ltY (k := 65536) (by decide) q_45) (by decide) (by decide) k) ?_
      show own_End p e below s _ _ _ (s0.setTop (mkF m 58 #[.val (.int p1)] []))
      refine own_go (fun t k => XS.iconst X0.here hx rfl (hb hby d1_58) k) ?_
      show own_End p e below s _ _ _ (s0.setTop (mkF m 59 #[.val (.int p1)] [(.int (0 : Int32))]))
      exact own_retN X0 hx (t := .boolean) hret hlk (by simp) (hb hby d1_59) ⟨own_no (by omega), N0, e0⟩ (by decide) (by decide)
    refine own_go (fun t k => XS.icmpNo X0.here hx rfl (hb hby d1_45) rfl (own_ltN (k := 65536) (by decide) q_45) k) ?_
    show own_End p e below s _ _ _ (s0.setTop (mkF m 48 #[.val (.int p1)] []))
    refine own_go (fun t k => XS.iloadN X0.here hx rfl (hb hby d1_48) rfl k) ?_
    show own_End p e below s _ _ _ (s0.setTop (mkF m 49 #[.val (.int p1)] [(.int p1)]))
    refine own_go (X0.ldcInt (own := "com/example/penumbra/penumbra/store/Names") (index := 66) (v := 1114111) hx hown (mvT hZ (hw _ (List.mem_of_getElem? (i := 23) rfl))) (g := (mkF m 49 #[.val (.int p1)] [(.int p1)])) rfl (hb hby d1_49)) ?_
    show own_End p e below s _ _ _ (s0.setTop (mkF m 51 #[.val (.int p1)] [(.int (1114111 : Int32)), (.int p1)]))
    by_cases q_51 : 1114111 < p1.toInt
    ·
      refine own_go (fun t k => XS.icmpYes X0.here hx rfl (pc0 := 51) (pc' := 58) rfl (hb hby d1_51) rfl (own_gtY (k := 1114111) (by decide) q_51) (by decide) (by decide) k) ?_
      show own_End p e below s _ _ _ (s0.setTop (mkF m 58 #[.val (.int p1)] []))
      refine own_go (fun t k => XS.iconst X0.here hx rfl (hb hby d1_58) k) ?_
      show own_End p e below s _ _ _ (s0.setTop (mkF m 59 #[.val (.int p1)] [(.int (0 : Int32))]))
      exact own_retN X0 hx (t := .boolean) hret hlk (by simp) (hb hby d1_59) ⟨own_no (by omega), N0, e0⟩ (by decide) (by decide)
    refine own_go (fun t k => XS.icmpNo X0.here hx rfl (hb hby d1_51) rfl (own_gtN (k := 1114111) (by decide) q_51) k) ?_
    show own_End p e below s _ _ _ (s0.setTop (mkF m 54 #[.val (.int p1)] []))
    refine own_go (fun t k => XS.iconst X0.here hx rfl (hb hby d1_54) k) ?_
    show own_End p e below s _ _ _ (s0.setTop (mkF m 55 #[.val (.int p1)] [(.int (1 : Int32))]))
    refine own_go (fun t k => XS.goto X0.here hx rfl (pc0 := 55) (pc' := 59) rfl (hb hby d1_55) (by decide) (by decide) k) ?_
    show own_End p e below s _ _ _ (s0.setTop (mkF m 59 #[.val (.int p1)] [(.int (1 : Int32))]))
    exact own_retN X0 hx (t := .boolean) hret hlk (by simp) (hb hby d1_59) ⟨own_yes (by omega), N0, e0⟩ (by decide) (by decide)
  intro J_42
  show own_End p e below s _ _ _ (s0.setTop (mkF m 0 #[.val (.int p1)] []))
  refine own_join (fun G => ¬ (p1.toInt = 9 ∨ p1.toInt = 10 ∨ p1.toInt = 13 ∨ (32 ≤ p1.toInt ∧ p1.toInt ≤ 55295)) → G (s0.setTop (mkF m 30 #[.val (.int p1)] []))) ?_ ?_
  ·
    intro j_30
    show own_End p e below s _ _ _ (s0.setTop (mkF m 30 #[.val (.int p1)] []))
    refine own_go (fun t k => XS.iloadN X0.here hx rfl (hb hby d1_30) rfl k) ?_
    show own_End p e below s _ _ _ (s0.setTop (mkF m 31 #[.val (.int p1)] [(.int p1)]))
    refine own_go (X0.ldcInt (own := "com/example/penumbra/penumbra/store/Names") (index := 63) (v := 57344) hx hown (mvT hZ (hw _ (List.mem_of_getElem? (i := 12) rfl))) (g := (mkF m 31 #[.val (.int p1)] [(.int p1)])) rfl (hb hby d1_31)) ?_
    show own_End p e below s _ _ _ (s0.setTop (mkF m 33 #[.val (.int p1)] [(.int (57344 : Int32)), (.int p1)]))
    by_cases q_33 : p1.toInt < 57344
    ·
      refine own_go (fun t k => XS.icmpYes X0.here hx rfl (pc0 := 33) (pc' := 42) rfl (hb hby d1_33) rfl (own_ltY (k := 57344) (by decide) q_33) (by decide) (by decide) k) ?_
      show own_End p e below s _ _ _ (s0.setTop (mkF m 42 #[.val (.int p1)] []))
      exact J_42 (by omega)
    refine own_go (fun t k => XS.icmpNo X0.here hx rfl (hb hby d1_33) rfl (own_ltN (k := 57344) (by decide) q_33) k) ?_
    show own_End p e below s _ _ _ (s0.setTop (mkF m 36 #[.val (.int p1)] []))
    refine own_go (fun t k => XS.iloadN X0.here hx rfl (hb hby d1_36) rfl k) ?_
    show own_End p e below s _ _ _ (s0.setTop (mkF m 37 #[.val (.int p1)] [(.int p1)]))
    refine own_go (X0.ldcInt (own := "com/example/penumbra/penumbra/store/Names") (index := 64) (v := 65533) hx hown (mvT hZ (hw _ (List.mem_of_getElem? (i := 22) rfl))) (g := (mkF m 37 #[.val (.int p1)] [(.int p1)])) rfl (hb hby d1_37)) ?_
    show own_End p e below s _ _ _ (s0.setTop (mkF m 39 #[.val (.int p1)] [(.int (65533 : Int32)), (.int p1)]))
    by_cases q_39 : p1.toInt ≤ 65533
    ·
      refine own_go (fun t k => XS.icmpYes X0.here hx rfl (pc0 := 39) (pc' := 54) rfl (hb hby d1_39) rfl (own_leY (k := 65533) (by decide) q_39) (by decide) (by decide) k) ?_
      show own_End p e below s _ _ _ (s0.setTop (mkF m 54 #[.val (.int p1)] []))
      refine own_go (fun t k => XS.iconst X0.here hx rfl (hb hby d1_54) k) ?_
      show own_End p e below s _ _ _ (s0.setTop (mkF m 55 #[.val (.int p1)] [(.int (1 : Int32))]))
      refine own_go (fun t k => XS.goto X0.here hx rfl (pc0 := 55) (pc' := 59) rfl (hb hby d1_55) (by decide) (by decide) k) ?_
      show own_End p e below s _ _ _ (s0.setTop (mkF m 59 #[.val (.int p1)] [(.int (1 : Int32))]))
      exact own_retN X0 hx (t := .boolean) hret hlk (by simp) (hb hby d1_59) ⟨own_yes (by omega), N0, e0⟩ (by decide) (by decide)
    refine own_go (fun t k => XS.icmpNo X0.here hx rfl (hb hby d1_39) rfl (own_leN (k := 65533) (by decide) q_39) k) ?_
    show own_End p e below s _ _ _ (s0.setTop (mkF m 42 #[.val (.int p1)] []))
    exact J_42 (by omega)
  intro J_30
  show own_End p e below s _ _ _ (s0.setTop (mkF m 0 #[.val (.int p1)] []))
  refine own_go (fun t k => XS.iloadN X0.here hx rfl (hb hby d1_0) rfl k) ?_
  show own_End p e below s _ _ _ (s0.setTop (mkF m 1 #[.val (.int p1)] [(.int p1)]))
  refine own_go (fun t k => XS.bipush X0.here hx rfl (hb hby d1_1) k) ?_
  show own_End p e below s _ _ _ (s0.setTop (mkF m 3 #[.val (.int p1)] [(.int (9 : Int32)), (.int p1)]))
  by_cases q_3 : p1.toInt = 9
  ·
    refine own_go (fun t k => XS.icmpYes X0.here hx rfl (pc0 := 3) (pc' := 54) rfl (hb hby d1_3) rfl (own_eqY (k := 9) (by decide) q_3) (by decide) (by decide) k) ?_
    show own_End p e below s _ _ _ (s0.setTop (mkF m 54 #[.val (.int p1)] []))
    refine own_go (fun t k => XS.iconst X0.here hx rfl (hb hby d1_54) k) ?_
    show own_End p e below s _ _ _ (s0.setTop (mkF m 55 #[.val (.int p1)] [(.int (1 : Int32))]))
    refine own_go (fun t k => XS.goto X0.here hx rfl (pc0 := 55) (pc' := 59) rfl (hb hby d1_55) (by decide) (by decide) k) ?_
    show own_End p e below s _ _ _ (s0.setTop (mkF m 59 #[.val (.int p1)] [(.int (1 : Int32))]))
    exact own_retN X0 hx (t := .boolean) hret hlk (by simp) (hb hby d1_59) ⟨own_yes (by omega), N0, e0⟩ (by decide) (by decide)
  refine own_go (fun t k => XS.icmpNo X0.here hx rfl (hb hby d1_3) rfl (own_eqN (k := 9) (by decide) q_3) k) ?_
  show own_End p e below s _ _ _ (s0.setTop (mkF m 6 #[.val (.int p1)] []))
  refine own_go (fun t k => XS.iloadN X0.here hx rfl (hb hby d1_6) rfl k) ?_
  show own_End p e below s _ _ _ (s0.setTop (mkF m 7 #[.val (.int p1)] [(.int p1)]))
  refine own_go (fun t k => XS.bipush X0.here hx rfl (hb hby d1_7) k) ?_
  show own_End p e below s _ _ _ (s0.setTop (mkF m 9 #[.val (.int p1)] [(.int (10 : Int32)), (.int p1)]))
  by_cases q_9 : p1.toInt = 10
  ·
    refine own_go (fun t k => XS.icmpYes X0.here hx rfl (pc0 := 9) (pc' := 54) rfl (hb hby d1_9) rfl (own_eqY (k := 10) (by decide) q_9) (by decide) (by decide) k) ?_
    show own_End p e below s _ _ _ (s0.setTop (mkF m 54 #[.val (.int p1)] []))
    refine own_go (fun t k => XS.iconst X0.here hx rfl (hb hby d1_54) k) ?_
    show own_End p e below s _ _ _ (s0.setTop (mkF m 55 #[.val (.int p1)] [(.int (1 : Int32))]))
    refine own_go (fun t k => XS.goto X0.here hx rfl (pc0 := 55) (pc' := 59) rfl (hb hby d1_55) (by decide) (by decide) k) ?_
    show own_End p e below s _ _ _ (s0.setTop (mkF m 59 #[.val (.int p1)] [(.int (1 : Int32))]))
    exact own_retN X0 hx (t := .boolean) hret hlk (by simp) (hb hby d1_59) ⟨own_yes (by omega), N0, e0⟩ (by decide) (by decide)
  refine own_go (fun t k => XS.icmpNo X0.here hx rfl (hb hby d1_9) rfl (own_eqN (k := 10) (by decide) q_9) k) ?_
  show own_End p e below s _ _ _ (s0.setTop (mkF m 12 #[.val (.int p1)] []))
  refine own_go (fun t k => XS.iloadN X0.here hx rfl (hb hby d1_12) rfl k) ?_
  show own_End p e below s _ _ _ (s0.setTop (mkF m 13 #[.val (.int p1)] [(.int p1)]))
  refine own_go (fun t k => XS.bipush X0.here hx rfl (hb hby d1_13) k) ?_
  show own_End p e below s _ _ _ (s0.setTop (mkF m 15 #[.val (.int p1)] [(.int (13 : Int32)), (.int p1)]))
  by_cases q_15 : p1.toInt = 13
  ·
    refine own_go (fun t k => XS.icmpYes X0.here hx rfl (pc0 := 15) (pc' := 54) rfl (hb hby d1_15) rfl (own_eqY (k := 13) (by decide) q_15) (by decide) (by decide) k) ?_
    show own_End p e below s _ _ _ (s0.setTop (mkF m 54 #[.val (.int p1)] []))
    refine own_go (fun t k => XS.iconst X0.here hx rfl (hb hby d1_54) k) ?_
    show own_End p e below s _ _ _ (s0.setTop (mkF m 55 #[.val (.int p1)] [(.int (1 : Int32))]))
    refine own_go (fun t k => XS.goto X0.here hx rfl (pc0 := 55) (pc' := 59) rfl (hb hby d1_55) (by decide) (by decide) k) ?_
    show own_End p e below s _ _ _ (s0.setTop (mkF m 59 #[.val (.int p1)] [(.int (1 : Int32))]))
    exact own_retN X0 hx (t := .boolean) hret hlk (by simp) (hb hby d1_59) ⟨own_yes (by omega), N0, e0⟩ (by decide) (by decide)
  refine own_go (fun t k => XS.icmpNo X0.here hx rfl (hb hby d1_15) rfl (own_eqN (k := 13) (by decide) q_15) k) ?_
  show own_End p e below s _ _ _ (s0.setTop (mkF m 18 #[.val (.int p1)] []))
  refine own_go (fun t k => XS.iloadN X0.here hx rfl (hb hby d1_18) rfl k) ?_
  show own_End p e below s _ _ _ (s0.setTop (mkF m 19 #[.val (.int p1)] [(.int p1)]))
  refine own_go (fun t k => XS.bipush X0.here hx rfl (hb hby d1_19) k) ?_
  show own_End p e below s _ _ _ (s0.setTop (mkF m 21 #[.val (.int p1)] [(.int (32 : Int32)), (.int p1)]))
  by_cases q_21 : p1.toInt < 32
  ·
    refine own_go (fun t k => XS.icmpYes X0.here hx rfl (pc0 := 21) (pc' := 30) rfl (hb hby d1_21) rfl (own_ltY (k := 32) (by decide) q_21) (by decide) (by decide) k) ?_
    show own_End p e below s _ _ _ (s0.setTop (mkF m 30 #[.val (.int p1)] []))
    exact J_30 (by omega)
  refine own_go (fun t k => XS.icmpNo X0.here hx rfl (hb hby d1_21) rfl (own_ltN (k := 32) (by decide) q_21) k) ?_
  show own_End p e below s _ _ _ (s0.setTop (mkF m 24 #[.val (.int p1)] []))
  refine own_go (fun t k => XS.iloadN X0.here hx rfl (hb hby d1_24) rfl k) ?_
  show own_End p e below s _ _ _ (s0.setTop (mkF m 25 #[.val (.int p1)] [(.int p1)]))
  refine own_go (X0.ldcInt (own := "com/example/penumbra/penumbra/store/Names") (index := 62) (v := 55295) hx hown (mvT hZ (hw _ (List.mem_of_getElem? (i := 21) rfl))) (g := (mkF m 25 #[.val (.int p1)] [(.int p1)])) rfl (hb hby d1_25)) ?_
  show own_End p e below s _ _ _ (s0.setTop (mkF m 27 #[.val (.int p1)] [(.int (55295 : Int32)), (.int p1)]))
  by_cases q_27 : p1.toInt ≤ 55295
  ·
    refine own_go (fun t k => XS.icmpYes X0.here hx rfl (pc0 := 27) (pc' := 54) rfl (hb hby d1_27) rfl (own_leY (k := 55295) (by decide) q_27) (by decide) (by decide) k) ?_
    show own_End p e below s _ _ _ (s0.setTop (mkF m 54 #[.val (.int p1)] []))
    refine own_go (fun t k => XS.iconst X0.here hx rfl (hb hby d1_54) k) ?_
    show own_End p e below s _ _ _ (s0.setTop (mkF m 55 #[.val (.int p1)] [(.int (1 : Int32))]))
    refine own_go (fun t k => XS.goto X0.here hx rfl (pc0 := 55) (pc' := 59) rfl (hb hby d1_55) (by decide) (by decide) k) ?_
    show own_End p e below s _ _ _ (s0.setTop (mkF m 59 #[.val (.int p1)] [(.int (1 : Int32))]))
    exact own_retN X0 hx (t := .boolean) hret hlk (by simp) (hb hby d1_59) ⟨own_yes (by omega), N0, e0⟩ (by decide) (by decide)
  refine own_go (fun t k => XS.icmpNo X0.here hx rfl (hb hby d1_27) rfl (own_leN (k := 55295) (by decide) q_27) k) ?_
  show own_End p e below s _ _ _ (s0.setTop (mkF m 30 #[.val (.int p1)] []))
  exact J_30 (by omega)
set_option maxRecDepth 65536 in
set_option maxHeartbeats 40000000 in
theorem rm2 (l : Launch) (Z : State) (a0 : Array Value) (hw : ∀ d ∈ tables_1, d.before a0 Z = true) (ws : List Jvm.Cond) (p1 : Int32) (h0 : Heap) (n0 : Nat) (Z0 : n0 ≤ h0.size)  :
    own_Met l (⟨"com/example/penumbra/penumbra/store/NamesIsXmlCharPinLaw", "forbidden", "(I)Z"⟩ : MethodName) method_2_code 1 (some .boolean) ws ({ frames := 0, cells := 0, slots := 0, locals := 0 } : Room) #[(.int p1)] Z h0 (fun v h L => v = some (.int (if own_xc p1.toInt then 0 else 1)) ∧ Fr n0 L ∧ h = h0) := by
  refine own_body (plainFor_of_name pn_NamesIsXmlCharPinLaw) ?_
  intro p e s m below meth c s0 X0 hx hby hml hret hlk hown hnm hZ e0
  replace hown : s.vm.findClass "com/example/penumbra/penumbra/store/NamesIsXmlCharPinLaw" = some m.cls := hown
  have N0 := Fr.nil n0
  have ef : entryFrame m #[(.int p1)] 1 = (mkF m 0 #[.val (.int p1)] []) := by first | (simp [entryFrame, mkF, argsToLocals, Value.category, maxLocals]; done) | rfl
  rw [ef]
  show own_End p e below s _ _ _ (s0.setTop (mkF m 0 #[.val (.int p1)] []))
  refine own_join (fun G => ¬ (p1.toInt ≤ 8 ∨ p1.toInt = 11 ∨ p1.toInt = 12 ∨ (14 ≤ p1.toInt ∧ p1.toInt ≤ 31) ∨ (55296 ≤ p1.toInt ∧ p1.toInt ≤ 57343)) → G (s0.setTop (mkF m 56 #[.val (.int p1)] []))) ?_ ?_
  ·
    intro j_56
    show own_End p e below s _ _ _ (s0.setTop (mkF m 56 #[.val (.int p1)] []))
    refine own_go (fun t k => XS.iloadN X0.here hx rfl (hb hby d2_56) rfl k) ?_
    show own_End p e below s _ _ _ (s0.setTop (mkF m 57 #[.val (.int p1)] [(.int p1)]))
    refine own_go (X0.ldcInt (own := "com/example/penumbra/penumbra/store/NamesIsXmlCharPinLaw") (index := 9) (v := 65534) hx hown (mvT hZ (hw _ (List.mem_of_getElem? (i := 19) rfl))) (g := (mkF m 57 #[.val (.int p1)] [(.int p1)])) rfl (hb hby d2_57)) ?_
    show own_End p e below s _ _ _ (s0.setTop (mkF m 59 #[.val (.int p1)] [(.int (65534 : Int32)), (.int p1)]))
    by_cases q_59 : p1.toInt = 65534
    ·
      refine own_go (fun t k => XS.icmpYes X0.here hx rfl (pc0 := 59) (pc' := 68) rfl (hb hby d2_59) rfl (own_eqY (k := 65534) (by decide) q_59) (by decide) (by decide) k) ?_
      show own_End p e below s _ _ _ (s0.setTop (mkF m 68 #[.val (.int p1)] []))
      refine own_go (fun t k => XS.iconst X0.here hx rfl (hb hby d2_68) k) ?_
      show own_End p e below s _ _ _ (s0.setTop (mkF m 69 #[.val (.int p1)] [(.int (1 : Int32))]))
      exact own_retN X0 hx (t := .boolean) hret hlk (by simp) (hb hby d2_69) ⟨own_nno (by omega), N0, e0⟩ (by decide) (by decide)
    refine own_go (fun t k => XS.icmpNo X0.here hx rfl (hb hby d2_59) rfl (own_eqN (k := 65534) (by decide) q_59) k) ?_
    show own_End p e below s _ _ _ (s0.setTop (mkF m 62 #[.val (.int p1)] []))
    refine own_go (fun t k => XS.iloadN X0.here hx rfl (hb hby d2_62) rfl k) ?_
    show own_End p e below s _ _ _ (s0.setTop (mkF m 63 #[.val (.int p1)] [(.int p1)]))
    refine own_go (X0.ldcInt (own := "com/example/penumbra/penumbra/store/NamesIsXmlCharPinLaw") (index := 10) (v := 65535) hx hown (mvT hZ (hw _ (List.mem_of_getElem? (i := 20) rfl))) (g := (mkF m 63 #[.val (.int p1)] [(.int p1)])) rfl (hb hby d2_63)) ?_
    show own_End p e below s _ _ _ (s0.setTop (mkF m 65 #[.val (.int p1)] [(.int (65535 : Int32)), (.int p1)]))
    by_cases q_65 : ¬ p1.toInt = 65535
    ·
      refine own_go (fun t k => XS.icmpYes X0.here hx rfl (pc0 := 65) (pc' := 70) rfl (hb hby d2_65) rfl (own_neY (k := 65535) (by decide) q_65) (by decide) (by decide) k) ?_
      show own_End p e below s _ _ _ (s0.setTop (mkF m 70 #[.val (.int p1)] []))
      refine own_go (fun t k => XS.iloadN X0.here hx rfl (hb hby d2_70) rfl k) ?_
      show own_End p e below s _ _ _ (s0.setTop (mkF m 71 #[.val (.int p1)] [(.int p1)]))
      refine own_go (X0.ldcInt (own := "com/example/penumbra/penumbra/store/NamesIsXmlCharPinLaw") (index := 11) (v := 1114111) hx hown (mvT hZ (hw _ (List.mem_of_getElem? (i := 5) rfl))) (g := (mkF m 71 #[.val (.int p1)] [(.int p1)])) rfl (hb hby d2_71)) ?_
      show own_End p e below s _ _ _ (s0.setTop (mkF m 73 #[.val (.int p1)] [(.int (1114111 : Int32)), (.int p1)]))
      by_cases q_73 : p1.toInt ≤ 1114111
      ·
        refine own_go (fun t k => XS.icmpYes X0.here hx rfl (pc0 := 73) (pc' := 80) rfl (hb hby d2_73) rfl (own_leY (k := 1114111) (by decide) q_73) (by decide) (by decide) k) ?_
        show own_End p e below s _ _ _ (s0.setTop (mkF m 80 #[.val (.int p1)] []))
        refine own_go (fun t k => XS.iconst X0.here hx rfl (hb hby d2_80) k) ?_
        show own_End p e below s _ _ _ (s0.setTop (mkF m 81 #[.val (.int p1)] [(.int (0 : Int32))]))
        exact own_retN X0 hx (t := .boolean) hret hlk (by simp) (hb hby d2_81) ⟨own_nyes (by omega), N0, e0⟩ (by decide) (by decide)
      refine own_go (fun t k => XS.icmpNo X0.here hx rfl (hb hby d2_73) rfl (own_leN (k := 1114111) (by decide) q_73) k) ?_
      show own_End p e below s _ _ _ (s0.setTop (mkF m 76 #[.val (.int p1)] []))
      refine own_go (fun t k => XS.iconst X0.here hx rfl (hb hby d2_76) k) ?_
      show own_End p e below s _ _ _ (s0.setTop (mkF m 77 #[.val (.int p1)] [(.int (1 : Int32))]))
      refine own_go (fun t k => XS.goto X0.here hx rfl (pc0 := 77) (pc' := 81) rfl (hb hby d2_77) (by decide) (by decide) k) ?_
      show own_End p e below s _ _ _ (s0.setTop (mkF m 81 #[.val (.int p1)] [(.int (1 : Int32))]))
      exact own_retN X0 hx (t := .boolean) hret hlk (by simp) (hb hby d2_81) ⟨own_nno (by omega), N0, e0⟩ (by decide) (by decide)
    refine own_go (fun t k => XS.icmpNo X0.here hx rfl (hb hby d2_65) rfl (own_neN (k := 65535) (by decide) q_65) k) ?_
    show own_End p e below s _ _ _ (s0.setTop (mkF m 68 #[.val (.int p1)] []))
    refine own_go (fun t k => XS.iconst X0.here hx rfl (hb hby d2_68) k) ?_
    show own_End p e below s _ _ _ (s0.setTop (mkF m 69 #[.val (.int p1)] [(.int (1 : Int32))]))
    exact own_retN X0 hx (t := .boolean) hret hlk (by simp) (hb hby d2_69) ⟨own_nno (by omega), N0, e0⟩ (by decide) (by decide)
  intro J_56
  show own_End p e below s _ _ _ (s0.setTop (mkF m 0 #[.val (.int p1)] []))
  refine own_join (fun G => ¬ (p1.toInt ≤ 8 ∨ p1.toInt = 11 ∨ p1.toInt = 12 ∨ (14 ≤ p1.toInt ∧ p1.toInt ≤ 31)) → G (s0.setTop (mkF m 42 #[.val (.int p1)] []))) ?_ ?_
  ·
    intro j_42
    show own_End p e below s _ _ _ (s0.setTop (mkF m 42 #[.val (.int p1)] []))
    refine own_go (fun t k => XS.iloadN X0.here hx rfl (hb hby d2_42) rfl k) ?_
    show own_End p e below s _ _ _ (s0.setTop (mkF m 43 #[.val (.int p1)] [(.int p1)]))
    refine own_go (X0.ldcInt (own := "com/example/penumbra/penumbra/store/NamesIsXmlCharPinLaw") (index := 7) (v := 55296) hx hown (mvT hZ (hw _ (List.mem_of_getElem? (i := 18) rfl))) (g := (mkF m 43 #[.val (.int p1)] [(.int p1)])) rfl (hb hby d2_43)) ?_
    show own_End p e below s _ _ _ (s0.setTop (mkF m 45 #[.val (.int p1)] [(.int (55296 : Int32)), (.int p1)]))
    by_cases q_45 : p1.toInt < 55296
    ·
      refine own_go (fun t k => XS.icmpYes X0.here hx rfl (pc0 := 45) (pc' := 56) rfl (hb hby d2_45) rfl (own_ltY (k := 55296) (by decide) q_45) (by decide) (by decide) k) ?_
      show own_End p e below s _ _ _ (s0.setTop (mkF m 56 #[.val (.int p1)] []))
      exact J_56 (by omega)
    refine own_go (fun t k => XS.icmpNo X0.here hx rfl (hb hby d2_45) rfl (own_ltN (k := 55296) (by decide) q_45) k) ?_
    show own_End p e below s _ _ _ (s0.setTop (mkF m 48 #[.val (.int p1)] []))
    refine own_go (fun t k => XS.iloadN X0.here hx rfl (hb hby d2_48) rfl k) ?_
    show own_End p e below s _ _ _ (s0.setTop (mkF m 49 #[.val (.int p1)] [(.int p1)]))
    refine own_go (X0.ldcInt (own := "com/example/penumbra/penumbra/store/NamesIsXmlCharPinLaw") (index := 8) (v := 57343) hx hown (mvT hZ (hw _ (List.mem_of_getElem? (i := 24) rfl))) (g := (mkF m 49 #[.val (.int p1)] [(.int p1)])) rfl (hb hby d2_49)) ?_
    show own_End p e below s _ _ _ (s0.setTop (mkF m 51 #[.val (.int p1)] [(.int (57343 : Int32)), (.int p1)]))
    by_cases q_51 : 57343 < p1.toInt
    ·
      refine own_go (fun t k => XS.icmpYes X0.here hx rfl (pc0 := 51) (pc' := 56) rfl (hb hby d2_51) rfl (own_gtY (k := 57343) (by decide) q_51) (by decide) (by decide) k) ?_
      show own_End p e below s _ _ _ (s0.setTop (mkF m 56 #[.val (.int p1)] []))
      exact J_56 (by omega)
    refine own_go (fun t k => XS.icmpNo X0.here hx rfl (hb hby d2_51) rfl (own_gtN (k := 57343) (by decide) q_51) k) ?_
    show own_End p e below s _ _ _ (s0.setTop (mkF m 54 #[.val (.int p1)] []))
    refine own_go (fun t k => XS.iconst X0.here hx rfl (hb hby d2_54) k) ?_
    show own_End p e below s _ _ _ (s0.setTop (mkF m 55 #[.val (.int p1)] [(.int (1 : Int32))]))
    exact own_retN X0 hx (t := .boolean) hret hlk (by simp) (hb hby d2_55) ⟨own_nno (by omega), N0, e0⟩ (by decide) (by decide)
  intro J_42
  show own_End p e below s _ _ _ (s0.setTop (mkF m 0 #[.val (.int p1)] []))
  refine own_go (fun t k => XS.iloadN X0.here hx rfl (hb hby d2_0) rfl k) ?_
  show own_End p e below s _ _ _ (s0.setTop (mkF m 1 #[.val (.int p1)] [(.int p1)]))
  by_cases q_1 : 0 ≤ p1.toInt
  ·
    refine own_go (fun t k => XS.ifYes X0.here hx rfl (pc0 := 1) (pc' := 6) rfl (hb hby d2_1) rfl (own_0 (own_geY (k := 0) rfl q_1)) (by decide) (by decide) k) ?_
    show own_End p e below s _ _ _ (s0.setTop (mkF m 6 #[.val (.int p1)] []))
    refine own_go (fun t k => XS.iloadN X0.here hx rfl (hb hby d2_6) rfl k) ?_
    show own_End p e below s _ _ _ (s0.setTop (mkF m 7 #[.val (.int p1)] [(.int p1)]))
    refine own_go (fun t k => XS.bipush X0.here hx rfl (hb hby d2_7) k) ?_
    show own_End p e below s _ _ _ (s0.setTop (mkF m 9 #[.val (.int p1)] [(.int (8 : Int32)), (.int p1)]))
    by_cases q_9 : 8 < p1.toInt
    ·
      refine own_go (fun t k => XS.icmpYes X0.here hx rfl (pc0 := 9) (pc' := 14) rfl (hb hby d2_9) rfl (own_gtY (k := 8) (by decide) q_9) (by decide) (by decide) k) ?_
      show own_End p e below s _ _ _ (s0.setTop (mkF m 14 #[.val (.int p1)] []))
      refine own_go (fun t k => XS.iloadN X0.here hx rfl (hb hby d2_14) rfl k) ?_
      show own_End p e below s _ _ _ (s0.setTop (mkF m 15 #[.val (.int p1)] [(.int p1)]))
      refine own_go (fun t k => XS.bipush X0.here hx rfl (hb hby d2_15) k) ?_
      show own_End p e below s _ _ _ (s0.setTop (mkF m 17 #[.val (.int p1)] [(.int (11 : Int32)), (.int p1)]))
      by_cases q_17 : p1.toInt = 11
      ·
        refine own_go (fun t k => XS.icmpYes X0.here hx rfl (pc0 := 17) (pc' := 26) rfl (hb hby d2_17) rfl (own_eqY (k := 11) (by decide) q_17) (by decide) (by decide) k) ?_
        show own_End p e below s _ _ _ (s0.setTop (mkF m 26 #[.val (.int p1)] []))
        refine own_go (fun t k => XS.iconst X0.here hx rfl (hb hby d2_26) k) ?_
        show own_End p e below s _ _ _ (s0.setTop (mkF m 27 #[.val (.int p1)] [(.int (1 : Int32))]))
        exact own_retN X0 hx (t := .boolean) hret hlk (by simp) (hb hby d2_27) ⟨own_nno (by omega), N0, e0⟩ (by decide) (by decide)
      refine own_go (fun t k => XS.icmpNo X0.here hx rfl (hb hby d2_17) rfl (own_eqN (k := 11) (by decide) q_17) k) ?_
      show own_End p e below s _ _ _ (s0.setTop (mkF m 20 #[.val (.int p1)] []))
      refine own_go (fun t k => XS.iloadN X0.here hx rfl (hb hby d2_20) rfl k) ?_
      show own_End p e below s _ _ _ (s0.setTop (mkF m 21 #[.val (.int p1)] [(.int p1)]))
      refine own_go (fun t k => XS.bipush X0.here hx rfl (hb hby d2_21) k) ?_
      show own_End p e below s _ _ _ (s0.setTop (mkF m 23 #[.val (.int p1)] [(.int (12 : Int32)), (.int p1)]))
      by_cases q_23 : ¬ p1.toInt = 12
      ·
        refine own_go (fun t k => XS.icmpYes X0.here hx rfl (pc0 := 23) (pc' := 28) rfl (hb hby d2_23) rfl (own_neY (k := 12) (by decide) q_23) (by decide) (by decide) k) ?_
        show own_End p e below s _ _ _ (s0.setTop (mkF m 28 #[.val (.int p1)] []))
        refine own_go (fun t k => XS.iloadN X0.here hx rfl (hb hby d2_28) rfl k) ?_
        show own_End p e below s _ _ _ (s0.setTop (mkF m 29 #[.val (.int p1)] [(.int p1)]))
        refine own_go (fun t k => XS.bipush X0.here hx rfl (hb hby d2_29) k) ?_
        show own_End p e below s _ _ _ (s0.setTop (mkF m 31 #[.val (.int p1)] [(.int (14 : Int32)), (.int p1)]))
        by_cases q_31 : p1.toInt < 14
        ·
          refine own_go (fun t k => XS.icmpYes X0.here hx rfl (pc0 := 31) (pc' := 42) rfl (hb hby d2_31) rfl (own_ltY (k := 14) (by decide) q_31) (by decide) (by decide) k) ?_
          show own_End p e below s _ _ _ (s0.setTop (mkF m 42 #[.val (.int p1)] []))
          exact J_42 (by omega)
        refine own_go (fun t k => XS.icmpNo X0.here hx rfl (hb hby d2_31) rfl (own_ltN (k := 14) (by decide) q_31) k) ?_
        show own_End p e below s _ _ _ (s0.setTop (mkF m 34 #[.val (.int p1)] []))
        refine own_go (fun t k => XS.iloadN X0.here hx rfl (hb hby d2_34) rfl k) ?_
        show own_End p e below s _ _ _ (s0.setTop (mkF m 35 #[.val (.int p1)] [(.int p1)]))
        refine own_go (fun t k => XS.bipush X0.here hx rfl (hb hby d2_35) k) ?_
        show own_End p e below s _ _ _ (s0.setTop (mkF m 37 #[.val (.int p1)] [(.int (31 : Int32)), (.int p1)]))
        by_cases q_37 : 31 < p1.toInt
        ·
          refine own_go (fun t k => XS.icmpYes X0.here hx rfl (pc0 := 37) (pc' := 42) rfl (hb hby d2_37) rfl (own_gtY (k := 31) (by decide) q_37) (by decide) (by decide) k) ?_
          show own_End p e below s _ _ _ (s0.setTop (mkF m 42 #[.val (.int p1)] []))
          exact J_42 (by omega)
        refine own_go (fun t k => XS.icmpNo X0.here hx rfl (hb hby d2_37) rfl (own_gtN (k := 31) (by decide) q_37) k) ?_
        show own_End p e below s _ _ _ (s0.setTop (mkF m 40 #[.val (.int p1)] []))
        refine own_go (fun t k => XS.iconst X0.here hx rfl (hb hby d2_40) k) ?_
        show own_End p e below s _ _ _ (s0.setTop (mkF m 41 #[.val (.int p1)] [(.int (1 : Int32))]))
        exact own_retN X0 hx (t := .boolean) hret hlk (by simp) (hb hby d2_41) ⟨own_nno (by omega), N0, e0⟩ (by decide) (by decide)
      refine own_go (fun t k => XS.icmpNo X0.here hx rfl (hb hby d2_23) rfl (own_neN (k := 12) (by decide) q_23) k) ?_
      show own_End p e below s _ _ _ (s0.setTop (mkF m 26 #[.val (.int p1)] []))
      refine own_go (fun t k => XS.iconst X0.here hx rfl (hb hby d2_26) k) ?_
      show own_End p e below s _ _ _ (s0.setTop (mkF m 27 #[.val (.int p1)] [(.int (1 : Int32))]))
      exact own_retN X0 hx (t := .boolean) hret hlk (by simp) (hb hby d2_27) ⟨own_nno (by omega), N0, e0⟩ (by decide) (by decide)
    refine own_go (fun t k => XS.icmpNo X0.here hx rfl (hb hby d2_9) rfl (own_gtN (k := 8) (by decide) q_9) k) ?_
    show own_End p e below s _ _ _ (s0.setTop (mkF m 12 #[.val (.int p1)] []))
    refine own_go (fun t k => XS.iconst X0.here hx rfl (hb hby d2_12) k) ?_
    show own_End p e below s _ _ _ (s0.setTop (mkF m 13 #[.val (.int p1)] [(.int (1 : Int32))]))
    exact own_retN X0 hx (t := .boolean) hret hlk (by simp) (hb hby d2_13) ⟨own_nno (by omega), N0, e0⟩ (by decide) (by decide)
  refine own_go (fun t k => XS.ifNo X0.here hx rfl (hb hby d2_1) rfl (own_0 (own_geN (k := 0) rfl q_1)) k) ?_
  show own_End p e below s _ _ _ (s0.setTop (mkF m 4 #[.val (.int p1)] []))
  refine own_go (fun t k => XS.iconst X0.here hx rfl (hb hby d2_4) k) ?_
  show own_End p e below s _ _ _ (s0.setTop (mkF m 5 #[.val (.int p1)] [(.int (1 : Int32))]))
  exact own_retN X0 hx (t := .boolean) hret hlk (by simp) (hb hby d2_5) ⟨own_nno (by omega), N0, e0⟩ (by decide) (by decide)
theorem own_ix (x n : Int32) (hn : 0 < n.toInt) : 0 ≤ ((x &&& 2147483647) % n).toInt ∧ ((x &&& 2147483647) % n).toInt < n.toInt := by
  have h1 := (c_and x 2147483647 (by decide)).1
  have h2 := (c_iremV (x &&& 2147483647) n).1 h1 hn
  exact ⟨h2.1, h2.2.1⟩
set_option maxRecDepth 65536 in
set_option maxHeartbeats 40000000 in
theorem rm0 (l : Launch) (Z : State) (a0 : Array Value) (hw : ∀ d ∈ tables_1, d.before a0 Z = true) (ws : List Jvm.Cond) (p1 : Int32) (p2 : Int32) (p3 : Int32) (h0 : Heap) (n0 : Nat) (Z0 : n0 ≤ h0.size)  :
    own_Met l x code maxLocals ret ws room_1 #[(.int p1), (.int p2), (.int p3)] Z h0 (fun v h L => v = some (.int 1) ∧ Fr n0 L) := by
  refine own_body (plainFor_of_name pn_NamesIsXmlCharPinLaw) ?_
  intro p e s m below meth c s0 X0 hx hby hml hret hlk hown hnm hZ e0
  replace hown : s.vm.findClass "com/example/penumbra/penumbra/store/NamesIsXmlCharPinLaw" = some m.cls := hown
  have N0 := Fr.nil n0
  have ef : entryFrame m #[(.int p1), (.int p2), (.int p3)] maxLocals = (mkF m 0 #[.val (.int p1), .val (.int p2), .val (.int p3), .unset, .unset, .unset, .unset, .unset, .unset] []) := by first | (simp [entryFrame, mkF, argsToLocals, Value.category, maxLocals]; done) | rfl
  rw [ef]
  show own_End p e below s _ _ _ (s0.setTop (mkF m 0 #[.val (.int p1), .val (.int p2), .val (.int p3), .unset, .unset, .unset, .unset, .unset, .unset] []))
  refine own_go (fun t k => XS.bipush X0.here hx rfl (hb hby at_0) k) ?_
  show own_End p e below s _ _ _ (s0.setTop (mkF m 2 #[.val (.int p1), .val (.int p2), .val (.int p3), .unset, .unset, .unset, .unset, .unset, .unset] [(.int (12 : Int32))]))
  obtain ⟨T1, h1, k1, X1, e1, E1, A1, st1⟩ := newP X0 hx hZ (hw _ (List.mem_of_getElem? (i := 0) rfl)) e0 (g := (mkF m 2 #[.val (.int p1), .val (.int p2), .val (.int p3), .unset, .unset, .unset, .unset, .unset, .unset] [(.int (12 : Int32))])) rfl (hb hby at_2) rfl (by decide) (cap := 12) (by decide) (by decide) (by decide) (by decide)
  obtain ⟨b1, gb1⟩ : ∃ z, z = h0.size := ⟨_, rfl⟩
  rw [← gb1] at A1 st1
  have A1a := own_A.of (h' := h1) A1 (j := 12) (by decide) (by decide)
  have nb1 : n0 ≤ b1 := by rw [gb1]; exact Z0
  have Z1 : n0 ≤ h1.size := Nat.le_trans Z0 E1.1
  refine own_go st1 ?_
  show own_End p e below s _ _ _ (T1.setTop (mkF m 4 #[.val (.int p1), .val (.int p2), .val (.int p3), .unset, .unset, .unset, .unset, .unset, .unset] [(.ref b1)]))
  refine own_go (fun t k => XS.dup X1.here hx rfl (hb hby at_4) rfl rfl k) ?_
  show own_End p e below s _ _ _ (T1.setTop (mkF m 5 #[.val (.int p1), .val (.int p2), .val (.int p3), .unset, .unset, .unset, .unset, .unset, .unset] [(.ref b1), (.ref b1)]))
  refine own_go (fun t k => XS.iconst X1.here hx rfl (hb hby at_5) k) ?_
  show own_End p e below s _ _ _ (T1.setTop (mkF m 6 #[.val (.int p1), .val (.int p2), .val (.int p3), .unset, .unset, .unset, .unset, .unset, .unset] [(.int (0 : Int32)), (.ref b1), (.ref b1)]))
  refine own_go (fun t k => XS.iconst X1.here hx rfl (hb hby at_6) k) ?_
  show own_End p e below s _ _ _ (T1.setTop (mkF m 7 #[.val (.int p1), .val (.int p2), .val (.int p3), .unset, .unset, .unset, .unset, .unset, .unset] [(.int (0 : Int32)), (.int (0 : Int32)), (.ref b1), (.ref b1)]))
  obtain ⟨T2, h2, X2, e2, W2, A2, st2⟩ := own_stI X1 hx hZ e1 A1a (j := (0 : Int32)) (x := (0 : Int32)) (by decide) (by decide) (pc := 7) (Ls := #[.val (.int p1), .val (.int p2), .val (.int p3), .unset, .unset, .unset, .unset, .unset, .unset]) (rest := [(.ref b1)]) (hb hby at_7)
  have N2 := Fr.snoc X2 N0 nb1
  have Z2 : n0 ≤ h2.size := by rw [W2.size]; exact Z1
  refine own_go st2 ?_
  show own_End p e below s _ _ _ (T2.setTop (mkF m 8 #[.val (.int p1), .val (.int p2), .val (.int p3), .unset, .unset, .unset, .unset, .unset, .unset] [(.ref b1)]))
  refine own_go (fun t k => XS.dup X2.here hx rfl (hb hby at_8) rfl rfl k) ?_
  show own_End p e below s _ _ _ (T2.setTop (mkF m 9 #[.val (.int p1), .val (.int p2), .val (.int p3), .unset, .unset, .unset, .unset, .unset, .unset] [(.ref b1), (.ref b1)]))
  refine own_go (fun t k => XS.iconst X2.here hx rfl (hb hby at_9) k) ?_
  show own_End p e below s _ _ _ (T2.setTop (mkF m 10 #[.val (.int p1), .val (.int p2), .val (.int p3), .unset, .unset, .unset, .unset, .unset, .unset] [(.int (1 : Int32)), (.ref b1), (.ref b1)]))
  refine own_go (fun t k => XS.bipush X2.here hx rfl (hb hby at_10) k) ?_
  show own_End p e below s _ _ _ (T2.setTop (mkF m 12 #[.val (.int p1), .val (.int p2), .val (.int p3), .unset, .unset, .unset, .unset, .unset, .unset] [(.int (9 : Int32)), (.int (1 : Int32)), (.ref b1), (.ref b1)]))
  obtain ⟨T4, h4, X4, e4, W4, A4, st4⟩ := own_stI X2 hx hZ e2 A2 (j := (1 : Int32)) (x := (9 : Int32)) (by decide) (by decide) (pc := 12) (Ls := #[.val (.int p1), .val (.int p2), .val (.int p3), .unset, .unset, .unset, .unset, .unset, .unset]) (rest := [(.ref b1)]) (hb hby at_12)
  have N4 := Fr.snoc X4 N2 nb1
  have Z4 : n0 ≤ h4.size := by rw [W4.size]; exact Z2
  refine own_go st4 ?_
  show own_End p e below s _ _ _ (T4.setTop (mkF m 13 #[.val (.int p1), .val (.int p2), .val (.int p3), .unset, .unset, .unset, .unset, .unset, .unset] [(.ref b1)]))
  refine own_go (fun t k => XS.dup X4.here hx rfl (hb hby at_13) rfl rfl k) ?_
  show own_End p e below s _ _ _ (T4.setTop (mkF m 14 #[.val (.int p1), .val (.int p2), .val (.int p3), .unset, .unset, .unset, .unset, .unset, .unset] [(.ref b1), (.ref b1)]))
  refine own_go (fun t k => XS.iconst X4.here hx rfl (hb hby at_14) k) ?_
  show own_End p e below s _ _ _ (T4.setTop (mkF m 15 #[.val (.int p1), .val (.int p2), .val (.int p3), .unset, .unset, .unset, .unset, .unset, .unset] [(.int (2 : Int32)), (.ref b1), (.ref b1)]))
  refine own_go (fun t k => XS.bipush X4.here hx rfl (hb hby at_15) k) ?_
  show own_End p e below s _ _ _ (T4.setTop (mkF m 17 #[.val (.int p1), .val (.int p2), .val (.int p3), .unset, .unset, .unset, .unset, .unset, .unset] [(.int (10 : Int32)), (.int (2 : Int32)), (.ref b1), (.ref b1)]))
  obtain ⟨T6, h6, X6, e6, W6, A6, st6⟩ := own_stI X4 hx hZ e4 A4 (j := (2 : Int32)) (x := (10 : Int32)) (by decide) (by decide) (pc := 17) (Ls := #[.val (.int p1), .val (.int p2), .val (.int p3), .unset, .unset, .unset, .unset, .unset, .unset]) (rest := [(.ref b1)]) (hb hby at_17)
  have N6 := Fr.snoc X6 N4 nb1
  have Z6 : n0 ≤ h6.size := by rw [W6.size]; exact Z4
  refine own_go st6 ?_
  show own_End p e below s _ _ _ (T6.setTop (mkF m 18 #[.val (.int p1), .val (.int p2), .val (.int p3), .unset, .unset, .unset, .unset, .unset, .unset] [(.ref b1)]))
  refine own_go (fun t k => XS.dup X6.here hx rfl (hb hby at_18) rfl rfl k) ?_
  show own_End p e below s _ _ _ (T6.setTop (mkF m 19 #[.val (.int p1), .val (.int p2), .val (.int p3), .unset, .unset, .unset, .unset, .unset, .unset] [(.ref b1), (.ref b1)]))
  refine own_go (fun t k => XS.iconst X6.here hx rfl (hb hby at_19) k) ?_
  show own_End p e below s _ _ _ (T6.setTop (mkF m 20 #[.val (.int p1), .val (.int p2), .val (.int p3), .unset, .unset, .unset, .unset, .unset, .unset] [(.int (3 : Int32)), (.ref b1), (.ref b1)]))
  refine own_go (fun t k => XS.bipush X6.here hx rfl (hb hby at_20) k) ?_
  show own_End p e below s _ _ _ (T6.setTop (mkF m 22 #[.val (.int p1), .val (.int p2), .val (.int p3), .unset, .unset, .unset, .unset, .unset, .unset] [(.int (13 : Int32)), (.int (3 : Int32)), (.ref b1), (.ref b1)]))
  obtain ⟨T8, h8, X8, e8, W8, A8, st8⟩ := own_stI X6 hx hZ e6 A6 (j := (3 : Int32)) (x := (13 : Int32)) (by decide) (by decide) (pc := 22) (Ls := #[.val (.int p1), .val (.int p2), .val (.int p3), .unset, .unset, .unset, .unset, .unset, .unset]) (rest := [(.ref b1)]) (hb hby at_22)
  have N8 := Fr.snoc X8 N6 nb1
  have Z8 : n0 ≤ h8.size := by rw [W8.size]; exact Z6
  refine own_go st8 ?_
  show own_End p e below s _ _ _ (T8.setTop (mkF m 23 #[.val (.int p1), .val (.int p2), .val (.int p3), .unset, .unset, .unset, .unset, .unset, .unset] [(.ref b1)]))
  refine own_go (fun t k => XS.dup X8.here hx rfl (hb hby at_23) rfl rfl k) ?_
  show own_End p e below s _ _ _ (T8.setTop (mkF m 24 #[.val (.int p1), .val (.int p2), .val (.int p3), .unset, .unset, .unset, .unset, .unset, .unset] [(.ref b1), (.ref b1)]))
  refine own_go (fun t k => XS.iconst X8.here hx rfl (hb hby at_24) k) ?_
  show own_End p e below s _ _ _ (T8.setTop (mkF m 25 #[.val (.int p1), .val (.int p2), .val (.int p3), .unset, .unset, .unset, .unset, .unset, .unset] [(.int (4 : Int32)), (.ref b1), (.ref b1)]))
  refine own_go (fun t k => XS.bipush X8.here hx rfl (hb hby at_25) k) ?_
  show own_End p e below s _ _ _ (T8.setTop (mkF m 27 #[.val (.int p1), .val (.int p2), .val (.int p3), .unset, .unset, .unset, .unset, .unset, .unset] [(.int (32 : Int32)), (.int (4 : Int32)), (.ref b1), (.ref b1)]))
  obtain ⟨T10, h10, X10, e10, W10, A10, st10⟩ := own_stI X8 hx hZ e8 A8 (j := (4 : Int32)) (x := (32 : Int32)) (by decide) (by decide) (pc := 27) (Ls := #[.val (.int p1), .val (.int p2), .val (.int p3), .unset, .unset, .unset, .unset, .unset, .unset]) (rest := [(.ref b1)]) (hb hby at_27)
  have N10 := Fr.snoc X10 N8 nb1
  have Z10 : n0 ≤ h10.size := by rw [W10.size]; exact Z8
  refine own_go st10 ?_
  show own_End p e below s _ _ _ (T10.setTop (mkF m 28 #[.val (.int p1), .val (.int p2), .val (.int p3), .unset, .unset, .unset, .unset, .unset, .unset] [(.ref b1)]))
  refine own_go (fun t k => XS.dup X10.here hx rfl (hb hby at_28) rfl rfl k) ?_
  show own_End p e below s _ _ _ (T10.setTop (mkF m 29 #[.val (.int p1), .val (.int p2), .val (.int p3), .unset, .unset, .unset, .unset, .unset, .unset] [(.ref b1), (.ref b1)]))
  refine own_go (fun t k => XS.iconst X10.here hx rfl (hb hby at_29) k) ?_
  show own_End p e below s _ _ _ (T10.setTop (mkF m 30 #[.val (.int p1), .val (.int p2), .val (.int p3), .unset, .unset, .unset, .unset, .unset, .unset] [(.int (5 : Int32)), (.ref b1), (.ref b1)]))
  refine own_go (X10.ldcInt (own := "com/example/penumbra/penumbra/store/NamesIsXmlCharPinLaw") (index := 12) (v := 55295) hx hown (mvT hZ (hw _ (List.mem_of_getElem? (i := 1) rfl))) (g := (mkF m 30 #[.val (.int p1), .val (.int p2), .val (.int p3), .unset, .unset, .unset, .unset, .unset, .unset] [(.int (5 : Int32)), (.ref b1), (.ref b1)])) rfl (hb hby at_30)) ?_
  show own_End p e below s _ _ _ (T10.setTop (mkF m 32 #[.val (.int p1), .val (.int p2), .val (.int p3), .unset, .unset, .unset, .unset, .unset, .unset] [(.int (55295 : Int32)), (.int (5 : Int32)), (.ref b1), (.ref b1)]))
  obtain ⟨T12, h12, X12, e12, W12, A12, st12⟩ := own_stI X10 hx hZ e10 A10 (j := (5 : Int32)) (x := (55295 : Int32)) (by decide) (by decide) (pc := 32) (Ls := #[.val (.int p1), .val (.int p2), .val (.int p3), .unset, .unset, .unset, .unset, .unset, .unset]) (rest := [(.ref b1)]) (hb hby at_32)
  have N12 := Fr.snoc X12 N10 nb1
  have Z12 : n0 ≤ h12.size := by rw [W12.size]; exact Z10
  refine own_go st12 ?_
  show own_End p e below s _ _ _ (T12.setTop (mkF m 33 #[.val (.int p1), .val (.int p2), .val (.int p3), .unset, .unset, .unset, .unset, .unset, .unset] [(.ref b1)]))
  refine own_go (fun t k => XS.dup X12.here hx rfl (hb hby at_33) rfl rfl k) ?_
  show own_End p e below s _ _ _ (T12.setTop (mkF m 34 #[.val (.int p1), .val (.int p2), .val (.int p3), .unset, .unset, .unset, .unset, .unset, .unset] [(.ref b1), (.ref b1)]))
  refine own_go (fun t k => XS.bipush X12.here hx rfl (hb hby at_34) k) ?_
  show own_End p e below s _ _ _ (T12.setTop (mkF m 36 #[.val (.int p1), .val (.int p2), .val (.int p3), .unset, .unset, .unset, .unset, .unset, .unset] [(.int (6 : Int32)), (.ref b1), (.ref b1)]))
  refine own_go (X12.ldcInt (own := "com/example/penumbra/penumbra/store/NamesIsXmlCharPinLaw") (index := 13) (v := 57344) hx hown (mvT hZ (hw _ (List.mem_of_getElem? (i := 2) rfl))) (g := (mkF m 36 #[.val (.int p1), .val (.int p2), .val (.int p3), .unset, .unset, .unset, .unset, .unset, .unset] [(.int (6 : Int32)), (.ref b1), (.ref b1)])) rfl (hb hby at_36)) ?_
  show own_End p e below s _ _ _ (T12.setTop (mkF m 38 #[.val (.int p1), .val (.int p2), .val (.int p3), .unset, .unset, .unset, .unset, .unset, .unset] [(.int (57344 : Int32)), (.int (6 : Int32)), (.ref b1), (.ref b1)]))
  obtain ⟨T14, h14, X14, e14, W14, A14, st14⟩ := own_stI X12 hx hZ e12 A12 (j := (6 : Int32)) (x := (57344 : Int32)) (by decide) (by decide) (pc := 38) (Ls := #[.val (.int p1), .val (.int p2), .val (.int p3), .unset, .unset, .unset, .unset, .unset, .unset]) (rest := [(.ref b1)]) (hb hby at_38)
  have N14 := Fr.snoc X14 N12 nb1
  have Z14 : n0 ≤ h14.size := by rw [W14.size]; exact Z12
  refine own_go st14 ?_
  show own_End p e below s _ _ _ (T14.setTop (mkF m 39 #[.val (.int p1), .val (.int p2), .val (.int p3), .unset, .unset, .unset, .unset, .unset, .unset] [(.ref b1)]))
  refine own_go (fun t k => XS.dup X14.here hx rfl (hb hby at_39) rfl rfl k) ?_
  show own_End p e below s _ _ _ (T14.setTop (mkF m 40 #[.val (.int p1), .val (.int p2), .val (.int p3), .unset, .unset, .unset, .unset, .unset, .unset] [(.ref b1), (.ref b1)]))
  refine own_go (fun t k => XS.bipush X14.here hx rfl (hb hby at_40) k) ?_
  show own_End p e below s _ _ _ (T14.setTop (mkF m 42 #[.val (.int p1), .val (.int p2), .val (.int p3), .unset, .unset, .unset, .unset, .unset, .unset] [(.int (7 : Int32)), (.ref b1), (.ref b1)]))
  refine own_go (X14.ldcInt (own := "com/example/penumbra/penumbra/store/NamesIsXmlCharPinLaw") (index := 14) (v := 65533) hx hown (mvT hZ (hw _ (List.mem_of_getElem? (i := 3) rfl))) (g := (mkF m 42 #[.val (.int p1), .val (.int p2), .val (.int p3), .unset, .unset, .unset, .unset, .unset, .unset] [(.int (7 : Int32)), (.ref b1), (.ref b1)])) rfl (hb hby at_42)) ?_
  show own_End p e below s _ _ _ (T14.setTop (mkF m 44 #[.val (.int p1), .val (.int p2), .val (.int p3), .unset, .unset, .unset, .unset, .unset, .unset] [(.int (65533 : Int32)), (.int (7 : Int32)), (.ref b1), (.ref b1)]))
  obtain ⟨T16, h16, X16, e16, W16, A16, st16⟩ := own_stI X14 hx hZ e14 A14 (j := (7 : Int32)) (x := (65533 : Int32)) (by decide) (by decide) (pc := 44) (Ls := #[.val (.int p1), .val (.int p2), .val (.int p3), .unset, .unset, .unset, .unset, .unset, .unset]) (rest := [(.ref b1)]) (hb hby at_44)
  have N16 := Fr.snoc X16 N14 nb1
  have Z16 : n0 ≤ h16.size := by rw [W16.size]; exact Z14
  refine own_go st16 ?_
  show own_End p e below s _ _ _ (T16.setTop (mkF m 45 #[.val (.int p1), .val (.int p2), .val (.int p3), .unset, .unset, .unset, .unset, .unset, .unset] [(.ref b1)]))
  refine own_go (fun t k => XS.dup X16.here hx rfl (hb hby at_45) rfl rfl k) ?_
  show own_End p e below s _ _ _ (T16.setTop (mkF m 46 #[.val (.int p1), .val (.int p2), .val (.int p3), .unset, .unset, .unset, .unset, .unset, .unset] [(.ref b1), (.ref b1)]))
  refine own_go (fun t k => XS.bipush X16.here hx rfl (hb hby at_46) k) ?_
  show own_End p e below s _ _ _ (T16.setTop (mkF m 48 #[.val (.int p1), .val (.int p2), .val (.int p3), .unset, .unset, .unset, .unset, .unset, .unset] [(.int (8 : Int32)), (.ref b1), (.ref b1)]))
  refine own_go (X16.ldcInt (own := "com/example/penumbra/penumbra/store/NamesIsXmlCharPinLaw") (index := 15) (v := 65536) hx hown (mvT hZ (hw _ (List.mem_of_getElem? (i := 4) rfl))) (g := (mkF m 48 #[.val (.int p1), .val (.int p2), .val (.int p3), .unset, .unset, .unset, .unset, .unset, .unset] [(.int (8 : Int32)), (.ref b1), (.ref b1)])) rfl (hb hby at_48)) ?_
  show own_End p e below s _ _ _ (T16.setTop (mkF m 50 #[.val (.int p1), .val (.int p2), .val (.int p3), .unset, .unset, .unset, .unset, .unset, .unset] [(.int (65536 : Int32)), (.int (8 : Int32)), (.ref b1), (.ref b1)]))
  obtain ⟨T18, h18, X18, e18, W18, A18, st18⟩ := own_stI X16 hx hZ e16 A16 (j := (8 : Int32)) (x := (65536 : Int32)) (by decide) (by decide) (pc := 50) (Ls := #[.val (.int p1), .val (.int p2), .val (.int p3), .unset, .unset, .unset, .unset, .unset, .unset]) (rest := [(.ref b1)]) (hb hby at_50)
  have N18 := Fr.snoc X18 N16 nb1
  have Z18 : n0 ≤ h18.size := by rw [W18.size]; exact Z16
  refine own_go st18 ?_
  show own_End p e below s _ _ _ (T18.setTop (mkF m 51 #[.val (.int p1), .val (.int p2), .val (.int p3), .unset, .unset, .unset, .unset, .unset, .unset] [(.ref b1)]))
  refine own_go (fun t k => XS.dup X18.here hx rfl (hb hby at_51) rfl rfl k) ?_
  show own_End p e below s _ _ _ (T18.setTop (mkF m 52 #[.val (.int p1), .val (.int p2), .val (.int p3), .unset, .unset, .unset, .unset, .unset, .unset] [(.ref b1), (.ref b1)]))
  refine own_go (fun t k => XS.bipush X18.here hx rfl (hb hby at_52) k) ?_
  show own_End p e below s _ _ _ (T18.setTop (mkF m 54 #[.val (.int p1), .val (.int p2), .val (.int p3), .unset, .unset, .unset, .unset, .unset, .unset] [(.int (9 : Int32)), (.ref b1), (.ref b1)]))
  refine own_go (X18.ldcInt (own := "com/example/penumbra/penumbra/store/NamesIsXmlCharPinLaw") (index := 11) (v := 1114111) hx hown (mvT hZ (hw _ (List.mem_of_getElem? (i := 5) rfl))) (g := (mkF m 54 #[.val (.int p1), .val (.int p2), .val (.int p3), .unset, .unset, .unset, .unset, .unset, .unset] [(.int (9 : Int32)), (.ref b1), (.ref b1)])) rfl (hb hby at_54)) ?_
  show own_End p e below s _ _ _ (T18.setTop (mkF m 56 #[.val (.int p1), .val (.int p2), .val (.int p3), .unset, .unset, .unset, .unset, .unset, .unset] [(.int (1114111 : Int32)), (.int (9 : Int32)), (.ref b1), (.ref b1)]))
  obtain ⟨T20, h20, X20, e20, W20, A20, st20⟩ := own_stI X18 hx hZ e18 A18 (j := (9 : Int32)) (x := (1114111 : Int32)) (by decide) (by decide) (pc := 56) (Ls := #[.val (.int p1), .val (.int p2), .val (.int p3), .unset, .unset, .unset, .unset, .unset, .unset]) (rest := [(.ref b1)]) (hb hby at_56)
  have N20 := Fr.snoc X20 N18 nb1
  have Z20 : n0 ≤ h20.size := by rw [W20.size]; exact Z18
  refine own_go st20 ?_
  show own_End p e below s _ _ _ (T20.setTop (mkF m 57 #[.val (.int p1), .val (.int p2), .val (.int p3), .unset, .unset, .unset, .unset, .unset, .unset] [(.ref b1)]))
  refine own_go (fun t k => XS.dup X20.here hx rfl (hb hby at_57) rfl rfl k) ?_
  show own_End p e below s _ _ _ (T20.setTop (mkF m 58 #[.val (.int p1), .val (.int p2), .val (.int p3), .unset, .unset, .unset, .unset, .unset, .unset] [(.ref b1), (.ref b1)]))
  refine own_go (fun t k => XS.bipush X20.here hx rfl (hb hby at_58) k) ?_
  show own_End p e below s _ _ _ (T20.setTop (mkF m 60 #[.val (.int p1), .val (.int p2), .val (.int p3), .unset, .unset, .unset, .unset, .unset, .unset] [(.int (10 : Int32)), (.ref b1), (.ref b1)]))
  refine own_go (X20.ldcInt (own := "com/example/penumbra/penumbra/store/NamesIsXmlCharPinLaw") (index := 18) (v := (-2147483648)) hx hown (mvT hZ (hw _ (List.mem_of_getElem? (i := 6) rfl))) (g := (mkF m 60 #[.val (.int p1), .val (.int p2), .val (.int p3), .unset, .unset, .unset, .unset, .unset, .unset] [(.int (10 : Int32)), (.ref b1), (.ref b1)])) rfl (hb hby at_60)) ?_
  show own_End p e below s _ _ _ (T20.setTop (mkF m 62 #[.val (.int p1), .val (.int p2), .val (.int p3), .unset, .unset, .unset, .unset, .unset, .unset] [(.int (-2147483648 : Int32)), (.int (10 : Int32)), (.ref b1), (.ref b1)]))
  obtain ⟨T22, h22, X22, e22, W22, A22, st22⟩ := own_stI X20 hx hZ e20 A20 (j := (10 : Int32)) (x := (-2147483648 : Int32)) (by decide) (by decide) (pc := 62) (Ls := #[.val (.int p1), .val (.int p2), .val (.int p3), .unset, .unset, .unset, .unset, .unset, .unset]) (rest := [(.ref b1)]) (hb hby at_62)
  have N22 := Fr.snoc X22 N20 nb1
  have Z22 : n0 ≤ h22.size := by rw [W22.size]; exact Z20
  refine own_go st22 ?_
  show own_End p e below s _ _ _ (T22.setTop (mkF m 63 #[.val (.int p1), .val (.int p2), .val (.int p3), .unset, .unset, .unset, .unset, .unset, .unset] [(.ref b1)]))
  refine own_go (fun t k => XS.dup X22.here hx rfl (hb hby at_63) rfl rfl k) ?_
  show own_End p e below s _ _ _ (T22.setTop (mkF m 64 #[.val (.int p1), .val (.int p2), .val (.int p3), .unset, .unset, .unset, .unset, .unset, .unset] [(.ref b1), (.ref b1)]))
  refine own_go (fun t k => XS.bipush X22.here hx rfl (hb hby at_64) k) ?_
  show own_End p e below s _ _ _ (T22.setTop (mkF m 66 #[.val (.int p1), .val (.int p2), .val (.int p3), .unset, .unset, .unset, .unset, .unset, .unset] [(.int (11 : Int32)), (.ref b1), (.ref b1)]))
  refine own_go (X22.ldcInt (own := "com/example/penumbra/penumbra/store/NamesIsXmlCharPinLaw") (index := 19) (v := 2147483647) hx hown (mvT hZ (hw _ (List.mem_of_getElem? (i := 7) rfl))) (g := (mkF m 66 #[.val (.int p1), .val (.int p2), .val (.int p3), .unset, .unset, .unset, .unset, .unset, .unset] [(.int (11 : Int32)), (.ref b1), (.ref b1)])) rfl (hb hby at_66)) ?_
  show own_End p e below s _ _ _ (T22.setTop (mkF m 68 #[.val (.int p1), .val (.int p2), .val (.int p3), .unset, .unset, .unset, .unset, .unset, .unset] [(.int (2147483647 : Int32)), (.int (11 : Int32)), (.ref b1), (.ref b1)]))
  obtain ⟨T24, h24, X24, e24, W24, A24, st24⟩ := own_stI X22 hx hZ e22 A22 (j := (11 : Int32)) (x := (2147483647 : Int32)) (by decide) (by decide) (pc := 68) (Ls := #[.val (.int p1), .val (.int p2), .val (.int p3), .unset, .unset, .unset, .unset, .unset, .unset]) (rest := [(.ref b1)]) (hb hby at_68)
  have N24 := Fr.snoc X24 N22 nb1
  have Z24 : n0 ≤ h24.size := by rw [W24.size]; exact Z22
  refine own_go st24 ?_
  show own_End p e below s _ _ _ (T24.setTop (mkF m 69 #[.val (.int p1), .val (.int p2), .val (.int p3), .unset, .unset, .unset, .unset, .unset, .unset] [(.ref b1)]))
  refine own_go (fun t k => XS.astoreN X24.here hx rfl (hb hby at_69) rfl rfl (l' := #[.val (.int p1), .val (.int p2), .val (.int p3), .val (.ref b1), .unset, .unset, .unset, .unset, .unset]) rfl k) ?_
  show own_End p e below s _ _ _ (T24.setTop (mkF m 70 #[.val (.int p1), .val (.int p2), .val (.int p3), .val (.ref b1), .unset, .unset, .unset, .unset, .unset] []))
  refine own_go (fun t k => XS.iloadN X24.here hx rfl (hb hby at_70) rfl k) ?_
  show own_End p e below s _ _ _ (T24.setTop (mkF m 71 #[.val (.int p1), .val (.int p2), .val (.int p3), .val (.ref b1), .unset, .unset, .unset, .unset, .unset] [(.int p2)]))
  refine own_go (X24.ldcInt (own := "com/example/penumbra/penumbra/store/NamesIsXmlCharPinLaw") (index := 19) (v := 2147483647) hx hown (mvT hZ (hw _ (List.mem_of_getElem? (i := 7) rfl))) (g := (mkF m 71 #[.val (.int p1), .val (.int p2), .val (.int p3), .val (.ref b1), .unset, .unset, .unset, .unset, .unset] [(.int p2)])) rfl (hb hby at_71)) ?_
  show own_End p e below s _ _ _ (T24.setTop (mkF m 73 #[.val (.int p1), .val (.int p2), .val (.int p3), .val (.ref b1), .unset, .unset, .unset, .unset, .unset] [(.int (2147483647 : Int32)), (.int p2)]))
  refine own_go (fun t k => XS.iand X24.here hx rfl (hb hby at_73) rfl k) ?_
  show own_End p e below s _ _ _ (T24.setTop (mkF m 74 #[.val (.int p1), .val (.int p2), .val (.int p3), .val (.ref b1), .unset, .unset, .unset, .unset, .unset] [(.int (p2 &&& (2147483647 : Int32)))]))
  refine own_go (fun t k => XS.aloadN X24.here hx rfl (hb hby at_74) rfl rfl k) ?_
  show own_End p e below s _ _ _ (T24.setTop (mkF m 75 #[.val (.int p1), .val (.int p2), .val (.int p3), .val (.ref b1), .unset, .unset, .unset, .unset, .unset] [(.ref b1), (.int (p2 &&& (2147483647 : Int32)))]))
  refine own_go (own_len X24 hx hZ e24 A24 (pc := 75) (Ls := #[.val (.int p1), .val (.int p2), .val (.int p3), .val (.ref b1), .unset, .unset, .unset, .unset, .unset]) (rest := [(.int (p2 &&& (2147483647 : Int32)))]) (hb hby at_75)) ?_
  show own_End p e below s _ _ _ (T24.setTop (mkF m 76 #[.val (.int p1), .val (.int p2), .val (.int p3), .val (.ref b1), .unset, .unset, .unset, .unset, .unset] [(.int (12 : Int32)), (.int (p2 &&& (2147483647 : Int32)))]))
  refine own_go (fun t k => XS.irem X24.here hx rfl (hb hby at_76) rfl (by decide) k) ?_
  show own_End p e below s _ _ _ (T24.setTop (mkF m 77 #[.val (.int p1), .val (.int p2), .val (.int p3), .val (.ref b1), .unset, .unset, .unset, .unset, .unset] [(.int ((p2 &&& (2147483647 : Int32)) - ((p2 &&& (2147483647 : Int32)) / (12 : Int32)) * (12 : Int32)))]))
  rw [irem_eq_mod (p2 &&& (2147483647 : Int32)) (12 : Int32)]
  show own_End p e below s _ _ _ (T24.setTop (mkF m 77 #[.val (.int p1), .val (.int p2), .val (.int p3), .val (.ref b1), .unset, .unset, .unset, .unset, .unset] [(.int ((p2 &&& (2147483647 : Int32)) % (12 : Int32)))]))
  obtain ⟨ix26, qix26⟩ : ∃ z : Int32, z = ((p2 &&& (2147483647 : Int32)) % (12 : Int32)) := ⟨_, rfl⟩
  rw [← qix26]
  show own_End p e below s _ _ _ (T24.setTop (mkF m 77 #[.val (.int p1), .val (.int p2), .val (.int p3), .val (.ref b1), .unset, .unset, .unset, .unset, .unset] [(.int ix26)]))
  have rix : 0 ≤ ix26.toInt ∧ ix26.toInt < 12 := by rw [qix26]; exact own_ix p2 12 (by decide)
  refine own_go (fun t k => XS.istore X24.here hx rfl (hb hby at_77) rfl (l' := #[.val (.int p1), .val (.int p2), .val (.int p3), .val (.ref b1), .val (.int ix26), .unset, .unset, .unset, .unset]) rfl k) ?_
  show own_End p e below s _ _ _ (T24.setTop (mkF m 79 #[.val (.int p1), .val (.int p2), .val (.int p3), .val (.ref b1), .val (.int ix26), .unset, .unset, .unset, .unset] []))
  refine own_go (fun t k => XS.iloadN X24.here hx rfl (hb hby at_79) rfl k) ?_
  show own_End p e below s _ _ _ (T24.setTop (mkF m 80 #[.val (.int p1), .val (.int p2), .val (.int p3), .val (.ref b1), .val (.int ix26), .unset, .unset, .unset, .unset] [(.int p3)]))
  refine own_go (X24.ldcInt (own := "com/example/penumbra/penumbra/store/NamesIsXmlCharPinLaw") (index := 19) (v := 2147483647) hx hown (mvT hZ (hw _ (List.mem_of_getElem? (i := 7) rfl))) (g := (mkF m 80 #[.val (.int p1), .val (.int p2), .val (.int p3), .val (.ref b1), .val (.int ix26), .unset, .unset, .unset, .unset] [(.int p3)])) rfl (hb hby at_80)) ?_
  show own_End p e below s _ _ _ (T24.setTop (mkF m 82 #[.val (.int p1), .val (.int p2), .val (.int p3), .val (.ref b1), .val (.int ix26), .unset, .unset, .unset, .unset] [(.int (2147483647 : Int32)), (.int p3)]))
  refine own_go (fun t k => XS.iand X24.here hx rfl (hb hby at_82) rfl k) ?_
  show own_End p e below s _ _ _ (T24.setTop (mkF m 83 #[.val (.int p1), .val (.int p2), .val (.int p3), .val (.ref b1), .val (.int ix26), .unset, .unset, .unset, .unset] [(.int (p3 &&& (2147483647 : Int32)))]))
  refine own_go (fun t k => XS.iconst X24.here hx rfl (hb hby at_83) k) ?_
  show own_End p e below s _ _ _ (T24.setTop (mkF m 84 #[.val (.int p1), .val (.int p2), .val (.int p3), .val (.ref b1), .val (.int ix26), .unset, .unset, .unset, .unset] [(.int (5 : Int32)), (.int (p3 &&& (2147483647 : Int32)))]))
  refine own_go (fun t k => XS.irem X24.here hx rfl (hb hby at_84) rfl (by decide) k) ?_
  show own_End p e below s _ _ _ (T24.setTop (mkF m 85 #[.val (.int p1), .val (.int p2), .val (.int p3), .val (.ref b1), .val (.int ix26), .unset, .unset, .unset, .unset] [(.int ((p3 &&& (2147483647 : Int32)) - ((p3 &&& (2147483647 : Int32)) / (5 : Int32)) * (5 : Int32)))]))
  rw [irem_eq_mod (p3 &&& (2147483647 : Int32)) (5 : Int32)]
  show own_End p e below s _ _ _ (T24.setTop (mkF m 85 #[.val (.int p1), .val (.int p2), .val (.int p3), .val (.ref b1), .val (.int ix26), .unset, .unset, .unset, .unset] [(.int ((p3 &&& (2147483647 : Int32)) % (5 : Int32)))]))
  refine own_go (fun t k => XS.iconst X24.here hx rfl (hb hby at_85) k) ?_
  show own_End p e below s _ _ _ (T24.setTop (mkF m 86 #[.val (.int p1), .val (.int p2), .val (.int p3), .val (.ref b1), .val (.int ix26), .unset, .unset, .unset, .unset] [(.int (2 : Int32)), (.int ((p3 &&& (2147483647 : Int32)) % (5 : Int32)))]))
  refine own_go (fun t k => XS.isub X24.here hx rfl (hb hby at_86) rfl k) ?_
  show own_End p e below s _ _ _ (T24.setTop (mkF m 87 #[.val (.int p1), .val (.int p2), .val (.int p3), .val (.ref b1), .val (.int ix26), .unset, .unset, .unset, .unset] [(.int (((p3 &&& (2147483647 : Int32)) % (5 : Int32)) - (2 : Int32)))]))
  refine own_go (fun t k => XS.istore X24.here hx rfl (hb hby at_87) rfl (l' := #[.val (.int p1), .val (.int p2), .val (.int p3), .val (.ref b1), .val (.int ix26), .val (.int (((p3 &&& (2147483647 : Int32)) % (5 : Int32)) - (2 : Int32))), .unset, .unset, .unset]) rfl k) ?_
  show own_End p e below s _ _ _ (T24.setTop (mkF m 89 #[.val (.int p1), .val (.int p2), .val (.int p3), .val (.ref b1), .val (.int ix26), .val (.int (((p3 &&& (2147483647 : Int32)) % (5 : Int32)) - (2 : Int32))), .unset, .unset, .unset] []))
  refine own_go (fun t k => XS.aloadN X24.here hx rfl (hb hby at_89) rfl rfl k) ?_
  show own_End p e below s _ _ _ (T24.setTop (mkF m 90 #[.val (.int p1), .val (.int p2), .val (.int p3), .val (.ref b1), .val (.int ix26), .val (.int (((p3 &&& (2147483647 : Int32)) % (5 : Int32)) - (2 : Int32))), .unset, .unset, .unset] [(.ref b1)]))
  refine own_go (fun t k => XS.iload X24.here hx rfl (hb hby at_90) rfl k) ?_
  show own_End p e below s _ _ _ (T24.setTop (mkF m 92 #[.val (.int p1), .val (.int p2), .val (.int p3), .val (.ref b1), .val (.int ix26), .val (.int (((p3 &&& (2147483647 : Int32)) % (5 : Int32)) - (2 : Int32))), .unset, .unset, .unset] [(.int ix26), (.ref b1)]))
  obtain ⟨x27, st27⟩ := own_ldI X24 hx hZ e24 A24 (j := ix26) (by omega) (by omega) (pc := 92) (Ls := #[.val (.int p1), .val (.int p2), .val (.int p3), .val (.ref b1), .val (.int ix26), .val (.int (((p3 &&& (2147483647 : Int32)) % (5 : Int32)) - (2 : Int32))), .unset, .unset, .unset]) (rest := []) (hb hby at_92)
  refine own_go st27 ?_
  show own_End p e below s _ _ _ (T24.setTop (mkF m 93 #[.val (.int p1), .val (.int p2), .val (.int p3), .val (.ref b1), .val (.int ix26), .val (.int (((p3 &&& (2147483647 : Int32)) % (5 : Int32)) - (2 : Int32))), .unset, .unset, .unset] [(.int x27)]))
  refine own_go (fun t k => XS.iload X24.here hx rfl (hb hby at_93) rfl k) ?_
  show own_End p e below s _ _ _ (T24.setTop (mkF m 95 #[.val (.int p1), .val (.int p2), .val (.int p3), .val (.ref b1), .val (.int ix26), .val (.int (((p3 &&& (2147483647 : Int32)) % (5 : Int32)) - (2 : Int32))), .unset, .unset, .unset] [(.int (((p3 &&& (2147483647 : Int32)) % (5 : Int32)) - (2 : Int32))), (.int x27)]))
  refine own_go (fun t k => XS.iadd X24.here hx rfl (hb hby at_95) rfl k) ?_
  show own_End p e below s _ _ _ (T24.setTop (mkF m 96 #[.val (.int p1), .val (.int p2), .val (.int p3), .val (.ref b1), .val (.int ix26), .val (.int (((p3 &&& (2147483647 : Int32)) % (5 : Int32)) - (2 : Int32))), .unset, .unset, .unset] [(.int (x27 + (((p3 &&& (2147483647 : Int32)) % (5 : Int32)) - (2 : Int32))))]))
  obtain ⟨c28, qc28⟩ : ∃ z : Int32, z = (x27 + (((p3 &&& (2147483647 : Int32)) % (5 : Int32)) - (2 : Int32))) := ⟨_, rfl⟩
  rw [← qc28]
  show own_End p e below s _ _ _ (T24.setTop (mkF m 96 #[.val (.int p1), .val (.int p2), .val (.int p3), .val (.ref b1), .val (.int ix26), .val (.int (((p3 &&& (2147483647 : Int32)) % (5 : Int32)) - (2 : Int32))), .unset, .unset, .unset] [(.int c28)]))
  refine own_go (fun t k => XS.istore X24.here hx rfl (hb hby at_96) rfl (l' := #[.val (.int p1), .val (.int p2), .val (.int p3), .val (.ref b1), .val (.int ix26), .val (.int (((p3 &&& (2147483647 : Int32)) % (5 : Int32)) - (2 : Int32))), .val (.int c28), .unset, .unset]) rfl k) ?_
  show own_End p e below s _ _ _ (T24.setTop (mkF m 98 #[.val (.int p1), .val (.int p2), .val (.int p3), .val (.ref b1), .val (.int ix26), .val (.int (((p3 &&& (2147483647 : Int32)) % (5 : Int32)) - (2 : Int32))), .val (.int c28), .unset, .unset] []))
  refine own_go (fun t k => XS.iloadN X24.here hx rfl (hb hby at_98) rfl k) ?_
  show own_End p e below s _ _ _ (T24.setTop (mkF m 99 #[.val (.int p1), .val (.int p2), .val (.int p3), .val (.ref b1), .val (.int ix26), .val (.int (((p3 &&& (2147483647 : Int32)) % (5 : Int32)) - (2 : Int32))), .val (.int c28), .unset, .unset] [(.int p1)]))
  obtain ⟨v29, T29, L29, X29, hQ29, st29⟩ := own_callS X24 hx hZ (y := (⟨"com/example/penumbra/penumbra/store/Names", "isXmlChar", "(I)Z"⟩ : MethodName)) 0 hown (hw _ (List.mem_of_getElem? (i := 8) rfl)) (hw _ (List.mem_of_getElem? (i := 9) rfl)) (hw _ (List.mem_of_getElem? (i := 10) rfl)) (hw _ (List.mem_of_getElem? (i := 11) rfl)) (by decide) (rm1 l Z a0 hw [] p1 h24 n0 Z24) e24 (pc := 99) (Ls := #[.val (.int p1), .val (.int p2), .val (.int p3), .val (.ref b1), .val (.int ix26), .val (.int (((p3 &&& (2147483647 : Int32)) % (5 : Int32)) - (2 : Int32))), .val (.int c28), .unset, .unset]) [(.int p1)] [] (by rw [hml]; rfl) rfl rfl (lenOf pd_I_Z rfl) (Nat.le_of_eq rfl) (hb hby at_99) (by decide) (by decide) (by decide) (by decide)
  obtain ⟨rfl, Nc30, e30⟩ := hQ29
  have N30 := Fr.app N24 Nc30
  refine own_go st29 ?_
  show own_End p e below s _ _ _ (T29.setTop (mkF m 102 #[.val (.int p1), .val (.int p2), .val (.int p3), .val (.ref b1), .val (.int ix26), .val (.int (((p3 &&& (2147483647 : Int32)) % (5 : Int32)) - (2 : Int32))), .val (.int c28), .unset, .unset] [(.int (if own_xc p1.toInt then 1 else 0))]))
  refine own_go (fun t k => XS.iloadN X29.here hx rfl (hb hby at_102) rfl k) ?_
  show own_End p e below s _ _ _ (T29.setTop (mkF m 103 #[.val (.int p1), .val (.int p2), .val (.int p3), .val (.ref b1), .val (.int ix26), .val (.int (((p3 &&& (2147483647 : Int32)) % (5 : Int32)) - (2 : Int32))), .val (.int c28), .unset, .unset] [(.int p1), (.int (if own_xc p1.toInt then 1 else 0))]))
  obtain ⟨v31, T31, L31, X31, hQ31, st31⟩ := own_callS X29 hx hZ (y := (⟨"com/example/penumbra/penumbra/store/NamesIsXmlCharPinLaw", "forbidden", "(I)Z"⟩ : MethodName)) 1 hown (hw _ (List.mem_of_getElem? (i := 14) rfl)) (hw _ (List.mem_of_getElem? (i := 15) rfl)) (hw _ (List.mem_of_getElem? (i := 16) rfl)) (hw _ (List.mem_of_getElem? (i := 17) rfl)) (by decide) (rm2 l Z a0 hw [] p1 h24 n0 Z24) e30 (pc := 103) (Ls := #[.val (.int p1), .val (.int p2), .val (.int p3), .val (.ref b1), .val (.int ix26), .val (.int (((p3 &&& (2147483647 : Int32)) % (5 : Int32)) - (2 : Int32))), .val (.int c28), .unset, .unset]) [(.int p1)] [(.int (if own_xc p1.toInt then 1 else 0))] (by rw [hml]; rfl) rfl rfl (lenOf pd_I_Z rfl) (Nat.le_of_eq rfl) (hb hby at_103) (by decide) (by decide) (by decide) (by decide)
  obtain ⟨rfl, Nc32, e32⟩ := hQ31
  have N32 := Fr.app N30 Nc32
  refine own_go st31 ?_
  show own_End p e below s _ _ _ (T31.setTop (mkF m 106 #[.val (.int p1), .val (.int p2), .val (.int p3), .val (.ref b1), .val (.int ix26), .val (.int (((p3 &&& (2147483647 : Int32)) % (5 : Int32)) - (2 : Int32))), .val (.int c28), .unset, .unset] [(.int (if own_xc p1.toInt then 0 else 1)), (.int (if own_xc p1.toInt then 1 else 0))]))
  by_cases qx106 : own_xc p1.toInt
  ·
    rw [if_pos qx106, if_pos qx106]
    show own_End p e below s _ _ _ (T31.setTop (mkF m 106 #[.val (.int p1), .val (.int p2), .val (.int p3), .val (.ref b1), .val (.int ix26), .val (.int (((p3 &&& (2147483647 : Int32)) % (5 : Int32)) - (2 : Int32))), .val (.int c28), .unset, .unset] [(.int (0 : Int32)), (.int (1 : Int32))]))
    refine own_go (fun t k => XS.ifNo X31.here hx rfl (hb hby at_106) rfl rfl k) ?_
    show own_End p e below s _ _ _ (T31.setTop (mkF m 109 #[.val (.int p1), .val (.int p2), .val (.int p3), .val (.ref b1), .val (.int ix26), .val (.int (((p3 &&& (2147483647 : Int32)) % (5 : Int32)) - (2 : Int32))), .val (.int c28), .unset, .unset] [(.int (1 : Int32))]))
    refine own_go (fun t k => XS.iconst X31.here hx rfl (hb hby at_109) k) ?_
    show own_End p e below s _ _ _ (T31.setTop (mkF m 110 #[.val (.int p1), .val (.int p2), .val (.int p3), .val (.ref b1), .val (.int ix26), .val (.int (((p3 &&& (2147483647 : Int32)) % (5 : Int32)) - (2 : Int32))), .val (.int c28), .unset, .unset] [(.int (1 : Int32)), (.int (1 : Int32))]))
    refine own_go (fun t k => XS.goto X31.here hx rfl (pc0 := 110) (pc' := 114) rfl (hb hby at_110) (by decide) (by decide) k) ?_
    show own_End p e below s _ _ _ (T31.setTop (mkF m 114 #[.val (.int p1), .val (.int p2), .val (.int p3), .val (.ref b1), .val (.int ix26), .val (.int (((p3 &&& (2147483647 : Int32)) % (5 : Int32)) - (2 : Int32))), .val (.int c28), .unset, .unset] [(.int (1 : Int32)), (.int (1 : Int32))]))
    refine own_go (fun t k => XS.icmpNo X31.here hx rfl (hb hby at_114) rfl rfl k) ?_
    show own_End p e below s _ _ _ (T31.setTop (mkF m 117 #[.val (.int p1), .val (.int p2), .val (.int p3), .val (.ref b1), .val (.int ix26), .val (.int (((p3 &&& (2147483647 : Int32)) % (5 : Int32)) - (2 : Int32))), .val (.int c28), .unset, .unset] []))
    refine own_go (fun t k => XS.iconst X31.here hx rfl (hb hby at_117) k) ?_
    show own_End p e below s _ _ _ (T31.setTop (mkF m 118 #[.val (.int p1), .val (.int p2), .val (.int p3), .val (.ref b1), .val (.int ix26), .val (.int (((p3 &&& (2147483647 : Int32)) % (5 : Int32)) - (2 : Int32))), .val (.int c28), .unset, .unset] [(.int (1 : Int32))]))
    refine own_go (fun t k => XS.goto X31.here hx rfl (pc0 := 118) (pc' := 122) rfl (hb hby at_118) (by decide) (by decide) k) ?_
    show own_End p e below s _ _ _ (T31.setTop (mkF m 122 #[.val (.int p1), .val (.int p2), .val (.int p3), .val (.ref b1), .val (.int ix26), .val (.int (((p3 &&& (2147483647 : Int32)) % (5 : Int32)) - (2 : Int32))), .val (.int c28), .unset, .unset] [(.int (1 : Int32))]))
    refine own_go (fun t k => XS.istore X31.here hx rfl (hb hby at_122) rfl (l' := #[.val (.int p1), .val (.int p2), .val (.int p3), .val (.ref b1), .val (.int ix26), .val (.int (((p3 &&& (2147483647 : Int32)) % (5 : Int32)) - (2 : Int32))), .val (.int c28), .val (.int (1 : Int32)), .unset]) rfl k) ?_
    show own_End p e below s _ _ _ (T31.setTop (mkF m 124 #[.val (.int p1), .val (.int p2), .val (.int p3), .val (.ref b1), .val (.int ix26), .val (.int (((p3 &&& (2147483647 : Int32)) % (5 : Int32)) - (2 : Int32))), .val (.int c28), .val (.int (1 : Int32)), .unset] []))
    refine own_go (fun t k => XS.iload X31.here hx rfl (hb hby at_124) rfl k) ?_
    show own_End p e below s _ _ _ (T31.setTop (mkF m 126 #[.val (.int p1), .val (.int p2), .val (.int p3), .val (.ref b1), .val (.int ix26), .val (.int (((p3 &&& (2147483647 : Int32)) % (5 : Int32)) - (2 : Int32))), .val (.int c28), .val (.int (1 : Int32)), .unset] [(.int c28)]))
    obtain ⟨v33, T33, L33, X33, hQ33, st33⟩ := own_callS X31 hx hZ (y := (⟨"com/example/penumbra/penumbra/store/Names", "isXmlChar", "(I)Z"⟩ : MethodName)) 0 hown (hw _ (List.mem_of_getElem? (i := 8) rfl)) (hw _ (List.mem_of_getElem? (i := 9) rfl)) (hw _ (List.mem_of_getElem? (i := 10) rfl)) (hw _ (List.mem_of_getElem? (i := 11) rfl)) (by decide) (rm1 l Z a0 hw [] c28 h24 n0 Z24) e32 (pc := 126) (Ls := #[.val (.int p1), .val (.int p2), .val (.int p3), .val (.ref b1), .val (.int ix26), .val (.int (((p3 &&& (2147483647 : Int32)) % (5 : Int32)) - (2 : Int32))), .val (.int c28), .val (.int (1 : Int32)), .unset]) [(.int c28)] [] (by rw [hml]; rfl) rfl rfl (lenOf pd_I_Z rfl) (Nat.le_of_eq rfl) (hb hby at_126) (by decide) (by decide) (by decide) (by decide)
    obtain ⟨rfl, Nc34, e34⟩ := hQ33
    have N34 := Fr.app N32 Nc34
    refine own_go st33 ?_
    show own_End p e below s _ _ _ (T33.setTop (mkF m 129 #[.val (.int p1), .val (.int p2), .val (.int p3), .val (.ref b1), .val (.int ix26), .val (.int (((p3 &&& (2147483647 : Int32)) % (5 : Int32)) - (2 : Int32))), .val (.int c28), .val (.int (1 : Int32)), .unset] [(.int (if own_xc c28.toInt then 1 else 0))]))
    refine own_go (fun t k => XS.iload X33.here hx rfl (hb hby at_129) rfl k) ?_
    show own_End p e below s _ _ _ (T33.setTop (mkF m 131 #[.val (.int p1), .val (.int p2), .val (.int p3), .val (.ref b1), .val (.int ix26), .val (.int (((p3 &&& (2147483647 : Int32)) % (5 : Int32)) - (2 : Int32))), .val (.int c28), .val (.int (1 : Int32)), .unset] [(.int c28), (.int (if own_xc c28.toInt then 1 else 0))]))
    obtain ⟨v35, T35, L35, X35, hQ35, st35⟩ := own_callS X33 hx hZ (y := (⟨"com/example/penumbra/penumbra/store/NamesIsXmlCharPinLaw", "forbidden", "(I)Z"⟩ : MethodName)) 1 hown (hw _ (List.mem_of_getElem? (i := 14) rfl)) (hw _ (List.mem_of_getElem? (i := 15) rfl)) (hw _ (List.mem_of_getElem? (i := 16) rfl)) (hw _ (List.mem_of_getElem? (i := 17) rfl)) (by decide) (rm2 l Z a0 hw [] c28 h24 n0 Z24) e34 (pc := 131) (Ls := #[.val (.int p1), .val (.int p2), .val (.int p3), .val (.ref b1), .val (.int ix26), .val (.int (((p3 &&& (2147483647 : Int32)) % (5 : Int32)) - (2 : Int32))), .val (.int c28), .val (.int (1 : Int32)), .unset]) [(.int c28)] [(.int (if own_xc c28.toInt then 1 else 0))] (by rw [hml]; rfl) rfl rfl (lenOf pd_I_Z rfl) (Nat.le_of_eq rfl) (hb hby at_131) (by decide) (by decide) (by decide) (by decide)
    obtain ⟨rfl, Nc36, e36⟩ := hQ35
    have N36 := Fr.app N34 Nc36
    refine own_go st35 ?_
    show own_End p e below s _ _ _ (T35.setTop (mkF m 134 #[.val (.int p1), .val (.int p2), .val (.int p3), .val (.ref b1), .val (.int ix26), .val (.int (((p3 &&& (2147483647 : Int32)) % (5 : Int32)) - (2 : Int32))), .val (.int c28), .val (.int (1 : Int32)), .unset] [(.int (if own_xc c28.toInt then 0 else 1)), (.int (if own_xc c28.toInt then 1 else 0))]))
    by_cases qx134 : own_xc c28.toInt
    ·
      rw [if_pos qx134, if_pos qx134]
      show own_End p e below s _ _ _ (T35.setTop (mkF m 134 #[.val (.int p1), .val (.int p2), .val (.int p3), .val (.ref b1), .val (.int ix26), .val (.int (((p3 &&& (2147483647 : Int32)) % (5 : Int32)) - (2 : Int32))), .val (.int c28), .val (.int (1 : Int32)), .unset] [(.int (0 : Int32)), (.int (1 : Int32))]))
      refine own_go (fun t k => XS.ifNo X35.here hx rfl (hb hby at_134) rfl rfl k) ?_
      show own_End p e below s _ _ _ (T35.setTop (mkF m 137 #[.val (.int p1), .val (.int p2), .val (.int p3), .val (.ref b1), .val (.int ix26), .val (.int (((p3 &&& (2147483647 : Int32)) % (5 : Int32)) - (2 : Int32))), .val (.int c28), .val (.int (1 : Int32)), .unset] [(.int (1 : Int32))]))
      refine own_go (fun t k => XS.iconst X35.here hx rfl (hb hby at_137) k) ?_
      show own_End p e below s _ _ _ (T35.setTop (mkF m 138 #[.val (.int p1), .val (.int p2), .val (.int p3), .val (.ref b1), .val (.int ix26), .val (.int (((p3 &&& (2147483647 : Int32)) % (5 : Int32)) - (2 : Int32))), .val (.int c28), .val (.int (1 : Int32)), .unset] [(.int (1 : Int32)), (.int (1 : Int32))]))
      refine own_go (fun t k => XS.goto X35.here hx rfl (pc0 := 138) (pc' := 142) rfl (hb hby at_138) (by decide) (by decide) k) ?_
      show own_End p e below s _ _ _ (T35.setTop (mkF m 142 #[.val (.int p1), .val (.int p2), .val (.int p3), .val (.ref b1), .val (.int ix26), .val (.int (((p3 &&& (2147483647 : Int32)) % (5 : Int32)) - (2 : Int32))), .val (.int c28), .val (.int (1 : Int32)), .unset] [(.int (1 : Int32)), (.int (1 : Int32))]))
      refine own_go (fun t k => XS.icmpNo X35.here hx rfl (hb hby at_142) rfl rfl k) ?_
      show own_End p e below s _ _ _ (T35.setTop (mkF m 145 #[.val (.int p1), .val (.int p2), .val (.int p3), .val (.ref b1), .val (.int ix26), .val (.int (((p3 &&& (2147483647 : Int32)) % (5 : Int32)) - (2 : Int32))), .val (.int c28), .val (.int (1 : Int32)), .unset] []))
      refine own_go (fun t k => XS.iconst X35.here hx rfl (hb hby at_145) k) ?_
      show own_End p e below s _ _ _ (T35.setTop (mkF m 146 #[.val (.int p1), .val (.int p2), .val (.int p3), .val (.ref b1), .val (.int ix26), .val (.int (((p3 &&& (2147483647 : Int32)) % (5 : Int32)) - (2 : Int32))), .val (.int c28), .val (.int (1 : Int32)), .unset] [(.int (1 : Int32))]))
      refine own_go (fun t k => XS.goto X35.here hx rfl (pc0 := 146) (pc' := 150) rfl (hb hby at_146) (by decide) (by decide) k) ?_
      show own_End p e below s _ _ _ (T35.setTop (mkF m 150 #[.val (.int p1), .val (.int p2), .val (.int p3), .val (.ref b1), .val (.int ix26), .val (.int (((p3 &&& (2147483647 : Int32)) % (5 : Int32)) - (2 : Int32))), .val (.int c28), .val (.int (1 : Int32)), .unset] [(.int (1 : Int32))]))
      refine own_go (fun t k => XS.istore X35.here hx rfl (hb hby at_150) rfl (l' := #[.val (.int p1), .val (.int p2), .val (.int p3), .val (.ref b1), .val (.int ix26), .val (.int (((p3 &&& (2147483647 : Int32)) % (5 : Int32)) - (2 : Int32))), .val (.int c28), .val (.int (1 : Int32)), .val (.int (1 : Int32))]) rfl k) ?_
      show own_End p e below s _ _ _ (T35.setTop (mkF m 152 #[.val (.int p1), .val (.int p2), .val (.int p3), .val (.ref b1), .val (.int ix26), .val (.int (((p3 &&& (2147483647 : Int32)) % (5 : Int32)) - (2 : Int32))), .val (.int c28), .val (.int (1 : Int32)), .val (.int (1 : Int32))] []))
      refine own_go (fun t k => XS.iload X35.here hx rfl (hb hby at_152) rfl k) ?_
      show own_End p e below s _ _ _ (T35.setTop (mkF m 154 #[.val (.int p1), .val (.int p2), .val (.int p3), .val (.ref b1), .val (.int ix26), .val (.int (((p3 &&& (2147483647 : Int32)) % (5 : Int32)) - (2 : Int32))), .val (.int c28), .val (.int (1 : Int32)), .val (.int (1 : Int32))] [(.int (1 : Int32))]))
      refine own_go (fun t k => XS.ifNo X35.here hx rfl (hb hby at_154) rfl rfl k) ?_
      show own_End p e below s _ _ _ (T35.setTop (mkF m 157 #[.val (.int p1), .val (.int p2), .val (.int p3), .val (.ref b1), .val (.int ix26), .val (.int (((p3 &&& (2147483647 : Int32)) % (5 : Int32)) - (2 : Int32))), .val (.int c28), .val (.int (1 : Int32)), .val (.int (1 : Int32))] []))
      refine own_go (fun t k => XS.iload X35.here hx rfl (hb hby at_157) rfl k) ?_
      show own_End p e below s _ _ _ (T35.setTop (mkF m 159 #[.val (.int p1), .val (.int p2), .val (.int p3), .val (.ref b1), .val (.int ix26), .val (.int (((p3 &&& (2147483647 : Int32)) % (5 : Int32)) - (2 : Int32))), .val (.int c28), .val (.int (1 : Int32)), .val (.int (1 : Int32))] [(.int (1 : Int32))]))
      refine own_go (fun t k => XS.ifNo X35.here hx rfl (hb hby at_159) rfl rfl k) ?_
      show own_End p e below s _ _ _ (T35.setTop (mkF m 162 #[.val (.int p1), .val (.int p2), .val (.int p3), .val (.ref b1), .val (.int ix26), .val (.int (((p3 &&& (2147483647 : Int32)) % (5 : Int32)) - (2 : Int32))), .val (.int c28), .val (.int (1 : Int32)), .val (.int (1 : Int32))] []))
      refine own_go (fun t k => XS.iconst X35.here hx rfl (hb hby at_162) k) ?_
      show own_End p e below s _ _ _ (T35.setTop (mkF m 163 #[.val (.int p1), .val (.int p2), .val (.int p3), .val (.ref b1), .val (.int ix26), .val (.int (((p3 &&& (2147483647 : Int32)) % (5 : Int32)) - (2 : Int32))), .val (.int c28), .val (.int (1 : Int32)), .val (.int (1 : Int32))] [(.int (1 : Int32))]))
      refine own_go (fun t k => XS.goto X35.here hx rfl (pc0 := 163) (pc' := 167) rfl (hb hby at_163) (by decide) (by decide) k) ?_
      show own_End p e below s _ _ _ (T35.setTop (mkF m 167 #[.val (.int p1), .val (.int p2), .val (.int p3), .val (.ref b1), .val (.int ix26), .val (.int (((p3 &&& (2147483647 : Int32)) % (5 : Int32)) - (2 : Int32))), .val (.int c28), .val (.int (1 : Int32)), .val (.int (1 : Int32))] [(.int (1 : Int32))]))
      exact own_retN X35 hx (t := .boolean) hret hlk (by simp) (hb hby at_167) ⟨rfl, N36⟩ (by decide) (by decide)
    rw [if_neg qx134, if_neg qx134]
    show own_End p e below s _ _ _ (T35.setTop (mkF m 134 #[.val (.int p1), .val (.int p2), .val (.int p3), .val (.ref b1), .val (.int ix26), .val (.int (((p3 &&& (2147483647 : Int32)) % (5 : Int32)) - (2 : Int32))), .val (.int c28), .val (.int (1 : Int32)), .unset] [(.int (1 : Int32)), (.int (0 : Int32))]))
    refine own_go (fun t k => XS.ifYes X35.here hx rfl (pc0 := 134) (pc' := 141) rfl (hb hby at_134) rfl rfl (by decide) (by decide) k) ?_
    show own_End p e below s _ _ _ (T35.setTop (mkF m 141 #[.val (.int p1), .val (.int p2), .val (.int p3), .val (.ref b1), .val (.int ix26), .val (.int (((p3 &&& (2147483647 : Int32)) % (5 : Int32)) - (2 : Int32))), .val (.int c28), .val (.int (1 : Int32)), .unset] [(.int (0 : Int32))]))
    refine own_go (fun t k => XS.iconst X35.here hx rfl (hb hby at_141) k) ?_
    show own_End p e below s _ _ _ (T35.setTop (mkF m 142 #[.val (.int p1), .val (.int p2), .val (.int p3), .val (.ref b1), .val (.int ix26), .val (.int (((p3 &&& (2147483647 : Int32)) % (5 : Int32)) - (2 : Int32))), .val (.int c28), .val (.int (1 : Int32)), .unset] [(.int (0 : Int32)), (.int (0 : Int32))]))
    refine own_go (fun t k => XS.icmpNo X35.here hx rfl (hb hby at_142) rfl rfl k) ?_
    show own_End p e below s _ _ _ (T35.setTop (mkF m 145 #[.val (.int p1), .val (.int p2), .val (.int p3), .val (.ref b1), .val (.int ix26), .val (.int (((p3 &&& (2147483647 : Int32)) % (5 : Int32)) - (2 : Int32))), .val (.int c28), .val (.int (1 : Int32)), .unset] []))
    refine own_go (fun t k => XS.iconst X35.here hx rfl (hb hby at_145) k) ?_
    show own_End p e below s _ _ _ (T35.setTop (mkF m 146 #[.val (.int p1), .val (.int p2), .val (.int p3), .val (.ref b1), .val (.int ix26), .val (.int (((p3 &&& (2147483647 : Int32)) % (5 : Int32)) - (2 : Int32))), .val (.int c28), .val (.int (1 : Int32)), .unset] [(.int (1 : Int32))]))
    refine own_go (fun t k => XS.goto X35.here hx rfl (pc0 := 146) (pc' := 150) rfl (hb hby at_146) (by decide) (by decide) k) ?_
    show own_End p e below s _ _ _ (T35.setTop (mkF m 150 #[.val (.int p1), .val (.int p2), .val (.int p3), .val (.ref b1), .val (.int ix26), .val (.int (((p3 &&& (2147483647 : Int32)) % (5 : Int32)) - (2 : Int32))), .val (.int c28), .val (.int (1 : Int32)), .unset] [(.int (1 : Int32))]))
    refine own_go (fun t k => XS.istore X35.here hx rfl (hb hby at_150) rfl (l' := #[.val (.int p1), .val (.int p2), .val (.int p3), .val (.ref b1), .val (.int ix26), .val (.int (((p3 &&& (2147483647 : Int32)) % (5 : Int32)) - (2 : Int32))), .val (.int c28), .val (.int (1 : Int32)), .val (.int (1 : Int32))]) rfl k) ?_
    show own_End p e below s _ _ _ (T35.setTop (mkF m 152 #[.val (.int p1), .val (.int p2), .val (.int p3), .val (.ref b1), .val (.int ix26), .val (.int (((p3 &&& (2147483647 : Int32)) % (5 : Int32)) - (2 : Int32))), .val (.int c28), .val (.int (1 : Int32)), .val (.int (1 : Int32))] []))
    refine own_go (fun t k => XS.iload X35.here hx rfl (hb hby at_152) rfl k) ?_
    show own_End p e below s _ _ _ (T35.setTop (mkF m 154 #[.val (.int p1), .val (.int p2), .val (.int p3), .val (.ref b1), .val (.int ix26), .val (.int (((p3 &&& (2147483647 : Int32)) % (5 : Int32)) - (2 : Int32))), .val (.int c28), .val (.int (1 : Int32)), .val (.int (1 : Int32))] [(.int (1 : Int32))]))
    refine own_go (fun t k => XS.ifNo X35.here hx rfl (hb hby at_154) rfl rfl k) ?_
    show own_End p e below s _ _ _ (T35.setTop (mkF m 157 #[.val (.int p1), .val (.int p2), .val (.int p3), .val (.ref b1), .val (.int ix26), .val (.int (((p3 &&& (2147483647 : Int32)) % (5 : Int32)) - (2 : Int32))), .val (.int c28), .val (.int (1 : Int32)), .val (.int (1 : Int32))] []))
    refine own_go (fun t k => XS.iload X35.here hx rfl (hb hby at_157) rfl k) ?_
    show own_End p e below s _ _ _ (T35.setTop (mkF m 159 #[.val (.int p1), .val (.int p2), .val (.int p3), .val (.ref b1), .val (.int ix26), .val (.int (((p3 &&& (2147483647 : Int32)) % (5 : Int32)) - (2 : Int32))), .val (.int c28), .val (.int (1 : Int32)), .val (.int (1 : Int32))] [(.int (1 : Int32))]))
    refine own_go (fun t k => XS.ifNo X35.here hx rfl (hb hby at_159) rfl rfl k) ?_
    show own_End p e below s _ _ _ (T35.setTop (mkF m 162 #[.val (.int p1), .val (.int p2), .val (.int p3), .val (.ref b1), .val (.int ix26), .val (.int (((p3 &&& (2147483647 : Int32)) % (5 : Int32)) - (2 : Int32))), .val (.int c28), .val (.int (1 : Int32)), .val (.int (1 : Int32))] []))
    refine own_go (fun t k => XS.iconst X35.here hx rfl (hb hby at_162) k) ?_
    show own_End p e below s _ _ _ (T35.setTop (mkF m 163 #[.val (.int p1), .val (.int p2), .val (.int p3), .val (.ref b1), .val (.int ix26), .val (.int (((p3 &&& (2147483647 : Int32)) % (5 : Int32)) - (2 : Int32))), .val (.int c28), .val (.int (1 : Int32)), .val (.int (1 : Int32))] [(.int (1 : Int32))]))
    refine own_go (fun t k => XS.goto X35.here hx rfl (pc0 := 163) (pc' := 167) rfl (hb hby at_163) (by decide) (by decide) k) ?_
    show own_End p e below s _ _ _ (T35.setTop (mkF m 167 #[.val (.int p1), .val (.int p2), .val (.int p3), .val (.ref b1), .val (.int ix26), .val (.int (((p3 &&& (2147483647 : Int32)) % (5 : Int32)) - (2 : Int32))), .val (.int c28), .val (.int (1 : Int32)), .val (.int (1 : Int32))] [(.int (1 : Int32))]))
    exact own_retN X35 hx (t := .boolean) hret hlk (by simp) (hb hby at_167) ⟨rfl, N36⟩ (by decide) (by decide)
  rw [if_neg qx106, if_neg qx106]
  show own_End p e below s _ _ _ (T31.setTop (mkF m 106 #[.val (.int p1), .val (.int p2), .val (.int p3), .val (.ref b1), .val (.int ix26), .val (.int (((p3 &&& (2147483647 : Int32)) % (5 : Int32)) - (2 : Int32))), .val (.int c28), .unset, .unset] [(.int (1 : Int32)), (.int (0 : Int32))]))
  refine own_go (fun t k => XS.ifYes X31.here hx rfl (pc0 := 106) (pc' := 113) rfl (hb hby at_106) rfl rfl (by decide) (by decide) k) ?_
  show own_End p e below s _ _ _ (T31.setTop (mkF m 113 #[.val (.int p1), .val (.int p2), .val (.int p3), .val (.ref b1), .val (.int ix26), .val (.int (((p3 &&& (2147483647 : Int32)) % (5 : Int32)) - (2 : Int32))), .val (.int c28), .unset, .unset] [(.int (0 : Int32))]))
  refine own_go (fun t k => XS.iconst X31.here hx rfl (hb hby at_113) k) ?_
  show own_End p e below s _ _ _ (T31.setTop (mkF m 114 #[.val (.int p1), .val (.int p2), .val (.int p3), .val (.ref b1), .val (.int ix26), .val (.int (((p3 &&& (2147483647 : Int32)) % (5 : Int32)) - (2 : Int32))), .val (.int c28), .unset, .unset] [(.int (0 : Int32)), (.int (0 : Int32))]))
  refine own_go (fun t k => XS.icmpNo X31.here hx rfl (hb hby at_114) rfl rfl k) ?_
  show own_End p e below s _ _ _ (T31.setTop (mkF m 117 #[.val (.int p1), .val (.int p2), .val (.int p3), .val (.ref b1), .val (.int ix26), .val (.int (((p3 &&& (2147483647 : Int32)) % (5 : Int32)) - (2 : Int32))), .val (.int c28), .unset, .unset] []))
  refine own_go (fun t k => XS.iconst X31.here hx rfl (hb hby at_117) k) ?_
  show own_End p e below s _ _ _ (T31.setTop (mkF m 118 #[.val (.int p1), .val (.int p2), .val (.int p3), .val (.ref b1), .val (.int ix26), .val (.int (((p3 &&& (2147483647 : Int32)) % (5 : Int32)) - (2 : Int32))), .val (.int c28), .unset, .unset] [(.int (1 : Int32))]))
  refine own_go (fun t k => XS.goto X31.here hx rfl (pc0 := 118) (pc' := 122) rfl (hb hby at_118) (by decide) (by decide) k) ?_
  show own_End p e below s _ _ _ (T31.setTop (mkF m 122 #[.val (.int p1), .val (.int p2), .val (.int p3), .val (.ref b1), .val (.int ix26), .val (.int (((p3 &&& (2147483647 : Int32)) % (5 : Int32)) - (2 : Int32))), .val (.int c28), .unset, .unset] [(.int (1 : Int32))]))
  refine own_go (fun t k => XS.istore X31.here hx rfl (hb hby at_122) rfl (l' := #[.val (.int p1), .val (.int p2), .val (.int p3), .val (.ref b1), .val (.int ix26), .val (.int (((p3 &&& (2147483647 : Int32)) % (5 : Int32)) - (2 : Int32))), .val (.int c28), .val (.int (1 : Int32)), .unset]) rfl k) ?_
  show own_End p e below s _ _ _ (T31.setTop (mkF m 124 #[.val (.int p1), .val (.int p2), .val (.int p3), .val (.ref b1), .val (.int ix26), .val (.int (((p3 &&& (2147483647 : Int32)) % (5 : Int32)) - (2 : Int32))), .val (.int c28), .val (.int (1 : Int32)), .unset] []))
  refine own_go (fun t k => XS.iload X31.here hx rfl (hb hby at_124) rfl k) ?_
  show own_End p e below s _ _ _ (T31.setTop (mkF m 126 #[.val (.int p1), .val (.int p2), .val (.int p3), .val (.ref b1), .val (.int ix26), .val (.int (((p3 &&& (2147483647 : Int32)) % (5 : Int32)) - (2 : Int32))), .val (.int c28), .val (.int (1 : Int32)), .unset] [(.int c28)]))
  obtain ⟨v37, T37, L37, X37, hQ37, st37⟩ := own_callS X31 hx hZ (y := (⟨"com/example/penumbra/penumbra/store/Names", "isXmlChar", "(I)Z"⟩ : MethodName)) 0 hown (hw _ (List.mem_of_getElem? (i := 8) rfl)) (hw _ (List.mem_of_getElem? (i := 9) rfl)) (hw _ (List.mem_of_getElem? (i := 10) rfl)) (hw _ (List.mem_of_getElem? (i := 11) rfl)) (by decide) (rm1 l Z a0 hw [] c28 h24 n0 Z24) e32 (pc := 126) (Ls := #[.val (.int p1), .val (.int p2), .val (.int p3), .val (.ref b1), .val (.int ix26), .val (.int (((p3 &&& (2147483647 : Int32)) % (5 : Int32)) - (2 : Int32))), .val (.int c28), .val (.int (1 : Int32)), .unset]) [(.int c28)] [] (by rw [hml]; rfl) rfl rfl (lenOf pd_I_Z rfl) (Nat.le_of_eq rfl) (hb hby at_126) (by decide) (by decide) (by decide) (by decide)
  obtain ⟨rfl, Nc38, e38⟩ := hQ37
  have N38 := Fr.app N32 Nc38
  refine own_go st37 ?_
  show own_End p e below s _ _ _ (T37.setTop (mkF m 129 #[.val (.int p1), .val (.int p2), .val (.int p3), .val (.ref b1), .val (.int ix26), .val (.int (((p3 &&& (2147483647 : Int32)) % (5 : Int32)) - (2 : Int32))), .val (.int c28), .val (.int (1 : Int32)), .unset] [(.int (if own_xc c28.toInt then 1 else 0))]))
  refine own_go (fun t k => XS.iload X37.here hx rfl (hb hby at_129) rfl k) ?_
  show own_End p e below s _ _ _ (T37.setTop (mkF m 131 #[.val (.int p1), .val (.int p2), .val (.int p3), .val (.ref b1), .val (.int ix26), .val (.int (((p3 &&& (2147483647 : Int32)) % (5 : Int32)) - (2 : Int32))), .val (.int c28), .val (.int (1 : Int32)), .unset] [(.int c28), (.int (if own_xc c28.toInt then 1 else 0))]))
  obtain ⟨v39, T39, L39, X39, hQ39, st39⟩ := own_callS X37 hx hZ (y := (⟨"com/example/penumbra/penumbra/store/NamesIsXmlCharPinLaw", "forbidden", "(I)Z"⟩ : MethodName)) 1 hown (hw _ (List.mem_of_getElem? (i := 14) rfl)) (hw _ (List.mem_of_getElem? (i := 15) rfl)) (hw _ (List.mem_of_getElem? (i := 16) rfl)) (hw _ (List.mem_of_getElem? (i := 17) rfl)) (by decide) (rm2 l Z a0 hw [] c28 h24 n0 Z24) e38 (pc := 131) (Ls := #[.val (.int p1), .val (.int p2), .val (.int p3), .val (.ref b1), .val (.int ix26), .val (.int (((p3 &&& (2147483647 : Int32)) % (5 : Int32)) - (2 : Int32))), .val (.int c28), .val (.int (1 : Int32)), .unset]) [(.int c28)] [(.int (if own_xc c28.toInt then 1 else 0))] (by rw [hml]; rfl) rfl rfl (lenOf pd_I_Z rfl) (Nat.le_of_eq rfl) (hb hby at_131) (by decide) (by decide) (by decide) (by decide)
  obtain ⟨rfl, Nc40, e40⟩ := hQ39
  have N40 := Fr.app N38 Nc40
  refine own_go st39 ?_
  show own_End p e below s _ _ _ (T39.setTop (mkF m 134 #[.val (.int p1), .val (.int p2), .val (.int p3), .val (.ref b1), .val (.int ix26), .val (.int (((p3 &&& (2147483647 : Int32)) % (5 : Int32)) - (2 : Int32))), .val (.int c28), .val (.int (1 : Int32)), .unset] [(.int (if own_xc c28.toInt then 0 else 1)), (.int (if own_xc c28.toInt then 1 else 0))]))
  by_cases qx134 : own_xc c28.toInt
  ·
    rw [if_pos qx134, if_pos qx134]
    show own_End p e below s _ _ _ (T39.setTop (mkF m 134 #[.val (.int p1), .val (.int p2), .val (.int p3), .val (.ref b1), .val (.int ix26), .val (.int (((p3 &&& (2147483647 : Int32)) % (5 : Int32)) - (2 : Int32))), .val (.int c28), .val (.int (1 : Int32)), .unset] [(.int (0 : Int32)), (.int (1 : Int32))]))
    refine own_go (fun t k => XS.ifNo X39.here hx rfl (hb hby at_134) rfl rfl k) ?_
    show own_End p e below s _ _ _ (T39.setTop (mkF m 137 #[.val (.int p1), .val (.int p2), .val (.int p3), .val (.ref b1), .val (.int ix26), .val (.int (((p3 &&& (2147483647 : Int32)) % (5 : Int32)) - (2 : Int32))), .val (.int c28), .val (.int (1 : Int32)), .unset] [(.int (1 : Int32))]))
    refine own_go (fun t k => XS.iconst X39.here hx rfl (hb hby at_137) k) ?_
    show own_End p e below s _ _ _ (T39.setTop (mkF m 138 #[.val (.int p1), .val (.int p2), .val (.int p3), .val (.ref b1), .val (.int ix26), .val (.int (((p3 &&& (2147483647 : Int32)) % (5 : Int32)) - (2 : Int32))), .val (.int c28), .val (.int (1 : Int32)), .unset] [(.int (1 : Int32)), (.int (1 : Int32))]))
    refine own_go (fun t k => XS.goto X39.here hx rfl (pc0 := 138) (pc' := 142) rfl (hb hby at_138) (by decide) (by decide) k) ?_
    show own_End p e below s _ _ _ (T39.setTop (mkF m 142 #[.val (.int p1), .val (.int p2), .val (.int p3), .val (.ref b1), .val (.int ix26), .val (.int (((p3 &&& (2147483647 : Int32)) % (5 : Int32)) - (2 : Int32))), .val (.int c28), .val (.int (1 : Int32)), .unset] [(.int (1 : Int32)), (.int (1 : Int32))]))
    refine own_go (fun t k => XS.icmpNo X39.here hx rfl (hb hby at_142) rfl rfl k) ?_
    show own_End p e below s _ _ _ (T39.setTop (mkF m 145 #[.val (.int p1), .val (.int p2), .val (.int p3), .val (.ref b1), .val (.int ix26), .val (.int (((p3 &&& (2147483647 : Int32)) % (5 : Int32)) - (2 : Int32))), .val (.int c28), .val (.int (1 : Int32)), .unset] []))
    refine own_go (fun t k => XS.iconst X39.here hx rfl (hb hby at_145) k) ?_
    show own_End p e below s _ _ _ (T39.setTop (mkF m 146 #[.val (.int p1), .val (.int p2), .val (.int p3), .val (.ref b1), .val (.int ix26), .val (.int (((p3 &&& (2147483647 : Int32)) % (5 : Int32)) - (2 : Int32))), .val (.int c28), .val (.int (1 : Int32)), .unset] [(.int (1 : Int32))]))
    refine own_go (fun t k => XS.goto X39.here hx rfl (pc0 := 146) (pc' := 150) rfl (hb hby at_146) (by decide) (by decide) k) ?_
    show own_End p e below s _ _ _ (T39.setTop (mkF m 150 #[.val (.int p1), .val (.int p2), .val (.int p3), .val (.ref b1), .val (.int ix26), .val (.int (((p3 &&& (2147483647 : Int32)) % (5 : Int32)) - (2 : Int32))), .val (.int c28), .val (.int (1 : Int32)), .unset] [(.int (1 : Int32))]))
    refine own_go (fun t k => XS.istore X39.here hx rfl (hb hby at_150) rfl (l' := #[.val (.int p1), .val (.int p2), .val (.int p3), .val (.ref b1), .val (.int ix26), .val (.int (((p3 &&& (2147483647 : Int32)) % (5 : Int32)) - (2 : Int32))), .val (.int c28), .val (.int (1 : Int32)), .val (.int (1 : Int32))]) rfl k) ?_
    show own_End p e below s _ _ _ (T39.setTop (mkF m 152 #[.val (.int p1), .val (.int p2), .val (.int p3), .val (.ref b1), .val (.int ix26), .val (.int (((p3 &&& (2147483647 : Int32)) % (5 : Int32)) - (2 : Int32))), .val (.int c28), .val (.int (1 : Int32)), .val (.int (1 : Int32))] []))
    refine own_go (fun t k => XS.iload X39.here hx rfl (hb hby at_152) rfl k) ?_
    show own_End p e below s _ _ _ (T39.setTop (mkF m 154 #[.val (.int p1), .val (.int p2), .val (.int p3), .val (.ref b1), .val (.int ix26), .val (.int (((p3 &&& (2147483647 : Int32)) % (5 : Int32)) - (2 : Int32))), .val (.int c28), .val (.int (1 : Int32)), .val (.int (1 : Int32))] [(.int (1 : Int32))]))
    refine own_go (fun t k => XS.ifNo X39.here hx rfl (hb hby at_154) rfl rfl k) ?_
    show own_End p e below s _ _ _ (T39.setTop (mkF m 157 #[.val (.int p1), .val (.int p2), .val (.int p3), .val (.ref b1), .val (.int ix26), .val (.int (((p3 &&& (2147483647 : Int32)) % (5 : Int32)) - (2 : Int32))), .val (.int c28), .val (.int (1 : Int32)), .val (.int (1 : Int32))] []))
    refine own_go (fun t k => XS.iload X39.here hx rfl (hb hby at_157) rfl k) ?_
    show own_End p e below s _ _ _ (T39.setTop (mkF m 159 #[.val (.int p1), .val (.int p2), .val (.int p3), .val (.ref b1), .val (.int ix26), .val (.int (((p3 &&& (2147483647 : Int32)) % (5 : Int32)) - (2 : Int32))), .val (.int c28), .val (.int (1 : Int32)), .val (.int (1 : Int32))] [(.int (1 : Int32))]))
    refine own_go (fun t k => XS.ifNo X39.here hx rfl (hb hby at_159) rfl rfl k) ?_
    show own_End p e below s _ _ _ (T39.setTop (mkF m 162 #[.val (.int p1), .val (.int p2), .val (.int p3), .val (.ref b1), .val (.int ix26), .val (.int (((p3 &&& (2147483647 : Int32)) % (5 : Int32)) - (2 : Int32))), .val (.int c28), .val (.int (1 : Int32)), .val (.int (1 : Int32))] []))
    refine own_go (fun t k => XS.iconst X39.here hx rfl (hb hby at_162) k) ?_
    show own_End p e below s _ _ _ (T39.setTop (mkF m 163 #[.val (.int p1), .val (.int p2), .val (.int p3), .val (.ref b1), .val (.int ix26), .val (.int (((p3 &&& (2147483647 : Int32)) % (5 : Int32)) - (2 : Int32))), .val (.int c28), .val (.int (1 : Int32)), .val (.int (1 : Int32))] [(.int (1 : Int32))]))
    refine own_go (fun t k => XS.goto X39.here hx rfl (pc0 := 163) (pc' := 167) rfl (hb hby at_163) (by decide) (by decide) k) ?_
    show own_End p e below s _ _ _ (T39.setTop (mkF m 167 #[.val (.int p1), .val (.int p2), .val (.int p3), .val (.ref b1), .val (.int ix26), .val (.int (((p3 &&& (2147483647 : Int32)) % (5 : Int32)) - (2 : Int32))), .val (.int c28), .val (.int (1 : Int32)), .val (.int (1 : Int32))] [(.int (1 : Int32))]))
    exact own_retN X39 hx (t := .boolean) hret hlk (by simp) (hb hby at_167) ⟨rfl, N40⟩ (by decide) (by decide)
  rw [if_neg qx134, if_neg qx134]
  show own_End p e below s _ _ _ (T39.setTop (mkF m 134 #[.val (.int p1), .val (.int p2), .val (.int p3), .val (.ref b1), .val (.int ix26), .val (.int (((p3 &&& (2147483647 : Int32)) % (5 : Int32)) - (2 : Int32))), .val (.int c28), .val (.int (1 : Int32)), .unset] [(.int (1 : Int32)), (.int (0 : Int32))]))
  refine own_go (fun t k => XS.ifYes X39.here hx rfl (pc0 := 134) (pc' := 141) rfl (hb hby at_134) rfl rfl (by decide) (by decide) k) ?_
  show own_End p e below s _ _ _ (T39.setTop (mkF m 141 #[.val (.int p1), .val (.int p2), .val (.int p3), .val (.ref b1), .val (.int ix26), .val (.int (((p3 &&& (2147483647 : Int32)) % (5 : Int32)) - (2 : Int32))), .val (.int c28), .val (.int (1 : Int32)), .unset] [(.int (0 : Int32))]))
  refine own_go (fun t k => XS.iconst X39.here hx rfl (hb hby at_141) k) ?_
  show own_End p e below s _ _ _ (T39.setTop (mkF m 142 #[.val (.int p1), .val (.int p2), .val (.int p3), .val (.ref b1), .val (.int ix26), .val (.int (((p3 &&& (2147483647 : Int32)) % (5 : Int32)) - (2 : Int32))), .val (.int c28), .val (.int (1 : Int32)), .unset] [(.int (0 : Int32)), (.int (0 : Int32))]))
  refine own_go (fun t k => XS.icmpNo X39.here hx rfl (hb hby at_142) rfl rfl k) ?_
  show own_End p e below s _ _ _ (T39.setTop (mkF m 145 #[.val (.int p1), .val (.int p2), .val (.int p3), .val (.ref b1), .val (.int ix26), .val (.int (((p3 &&& (2147483647 : Int32)) % (5 : Int32)) - (2 : Int32))), .val (.int c28), .val (.int (1 : Int32)), .unset] []))
  refine own_go (fun t k => XS.iconst X39.here hx rfl (hb hby at_145) k) ?_
  show own_End p e below s _ _ _ (T39.setTop (mkF m 146 #[.val (.int p1), .val (.int p2), .val (.int p3), .val (.ref b1), .val (.int ix26), .val (.int (((p3 &&& (2147483647 : Int32)) % (5 : Int32)) - (2 : Int32))), .val (.int c28), .val (.int (1 : Int32)), .unset] [(.int (1 : Int32))]))
  refine own_go (fun t k => XS.goto X39.here hx rfl (pc0 := 146) (pc' := 150) rfl (hb hby at_146) (by decide) (by decide) k) ?_
  show own_End p e below s _ _ _ (T39.setTop (mkF m 150 #[.val (.int p1), .val (.int p2), .val (.int p3), .val (.ref b1), .val (.int ix26), .val (.int (((p3 &&& (2147483647 : Int32)) % (5 : Int32)) - (2 : Int32))), .val (.int c28), .val (.int (1 : Int32)), .unset] [(.int (1 : Int32))]))
  refine own_go (fun t k => XS.istore X39.here hx rfl (hb hby at_150) rfl (l' := #[.val (.int p1), .val (.int p2), .val (.int p3), .val (.ref b1), .val (.int ix26), .val (.int (((p3 &&& (2147483647 : Int32)) % (5 : Int32)) - (2 : Int32))), .val (.int c28), .val (.int (1 : Int32)), .val (.int (1 : Int32))]) rfl k) ?_
  show own_End p e below s _ _ _ (T39.setTop (mkF m 152 #[.val (.int p1), .val (.int p2), .val (.int p3), .val (.ref b1), .val (.int ix26), .val (.int (((p3 &&& (2147483647 : Int32)) % (5 : Int32)) - (2 : Int32))), .val (.int c28), .val (.int (1 : Int32)), .val (.int (1 : Int32))] []))
  refine own_go (fun t k => XS.iload X39.here hx rfl (hb hby at_152) rfl k) ?_
  show own_End p e below s _ _ _ (T39.setTop (mkF m 154 #[.val (.int p1), .val (.int p2), .val (.int p3), .val (.ref b1), .val (.int ix26), .val (.int (((p3 &&& (2147483647 : Int32)) % (5 : Int32)) - (2 : Int32))), .val (.int c28), .val (.int (1 : Int32)), .val (.int (1 : Int32))] [(.int (1 : Int32))]))
  refine own_go (fun t k => XS.ifNo X39.here hx rfl (hb hby at_154) rfl rfl k) ?_
  show own_End p e below s _ _ _ (T39.setTop (mkF m 157 #[.val (.int p1), .val (.int p2), .val (.int p3), .val (.ref b1), .val (.int ix26), .val (.int (((p3 &&& (2147483647 : Int32)) % (5 : Int32)) - (2 : Int32))), .val (.int c28), .val (.int (1 : Int32)), .val (.int (1 : Int32))] []))
  refine own_go (fun t k => XS.iload X39.here hx rfl (hb hby at_157) rfl k) ?_
  show own_End p e below s _ _ _ (T39.setTop (mkF m 159 #[.val (.int p1), .val (.int p2), .val (.int p3), .val (.ref b1), .val (.int ix26), .val (.int (((p3 &&& (2147483647 : Int32)) % (5 : Int32)) - (2 : Int32))), .val (.int c28), .val (.int (1 : Int32)), .val (.int (1 : Int32))] [(.int (1 : Int32))]))
  refine own_go (fun t k => XS.ifNo X39.here hx rfl (hb hby at_159) rfl rfl k) ?_
  show own_End p e below s _ _ _ (T39.setTop (mkF m 162 #[.val (.int p1), .val (.int p2), .val (.int p3), .val (.ref b1), .val (.int ix26), .val (.int (((p3 &&& (2147483647 : Int32)) % (5 : Int32)) - (2 : Int32))), .val (.int c28), .val (.int (1 : Int32)), .val (.int (1 : Int32))] []))
  refine own_go (fun t k => XS.iconst X39.here hx rfl (hb hby at_162) k) ?_
  show own_End p e below s _ _ _ (T39.setTop (mkF m 163 #[.val (.int p1), .val (.int p2), .val (.int p3), .val (.ref b1), .val (.int ix26), .val (.int (((p3 &&& (2147483647 : Int32)) % (5 : Int32)) - (2 : Int32))), .val (.int c28), .val (.int (1 : Int32)), .val (.int (1 : Int32))] [(.int (1 : Int32))]))
  refine own_go (fun t k => XS.goto X39.here hx rfl (pc0 := 163) (pc' := 167) rfl (hb hby at_163) (by decide) (by decide) k) ?_
  show own_End p e below s _ _ _ (T39.setTop (mkF m 167 #[.val (.int p1), .val (.int p2), .val (.int p3), .val (.ref b1), .val (.int ix26), .val (.int (((p3 &&& (2147483647 : Int32)) % (5 : Int32)) - (2 : Int32))), .val (.int c28), .val (.int (1 : Int32)), .val (.int (1 : Int32))] [(.int (1 : Int32))]))
  exact own_retN X39 hx (t := .boolean) hret hlk (by simp) (hb hby at_167) ⟨rfl, N40⟩ (by decide) (by decide)
set_option maxRecDepth 65536 in
set_option maxHeartbeats 40000000 in
theorem comes_1 {Post : Tables → Env → Array Value → State → Outcome → State → Prop} (hpost : ∀ tb e args s v u, (limb_1_1.after args s (.returned v) u = true ∧ limb_1_2.after args s (.returned v) u = true ∧ True) → FrameEnd s (.returned v) u (Jvm.fieldLocs frame_1_writes args s ++ Jvm.arrayLocs frame_1_arrays args s ++ Jvm.staticLocs frame_1_statics s) 16 128 → Post tb e args s (.returned v) u) :
    ArmFor flags0 classFile x code maxLocals ret World_1 tables_1 room_1 Calls_1 rest_1 Pre_1 Post := by
  intro l hfl _ _ p e ha hc hk s m args below hf hA hF happ hP
  obtain ⟨hcalls, hrest, hpre⟩ := hP
  obtain ⟨-, -, -, hnamed, -, -, -, hat⟩ := (Spec.applies_iff hf).mp happ
  obtain ⟨hg, hn⟩ := and_e (Cond.before_iff.mp (show (Jvm.Cond.and given_1 narrow_1).before args s = true from hpre))
  obtain ⟨g0, r0⟩ := and_e hg
  obtain ⟨g1, r1⟩ := and_e r0
  obtain ⟨g2, r2⟩ := and_e r1
  obtain ⟨w0, w1, w2, rfl⟩ : ∃ w0 w1 w2 : Value, args = #[w0, w1, w2] := by
    have hs : args.size = 3 := by simpa [Cond.value, given_1] using g0
    obtain ⟨L⟩ := args
    match L, hs with
    | [w0, w1, w2], _ => exact ⟨w0, w1, w2, rfl⟩
  have hw := fun d (hd : d ∈ tables_1) => atoms_spec (ws := Jvm.Cond.code x code maxLocals ret :: tables_1) hat d (List.mem_cons_of_mem _ hd)
  have hfit : Fit s := fun {y c} hc i hi => by
    obtain ⟨ha, rfl⟩ := Array.getElem?_eq_some_iff.mp hc
    have q := List.all_eq_true.mp ((Array.all_eq_true_iff_forall_mem.mp hF) _ (Array.getElem_mem ha)) i (List.mem_range.mpr hi)
    simpa [Array.getElem?_eq_getElem hi] using q
  obtain ⟨i0, ei0⟩ := is_v g1
  obtain rfl : w0 = (.int i0) := Option.some.inj ei0
  obtain ⟨i1, ei1⟩ := is_v g2
  obtain rfl : w1 = (.int i1) := Option.some.inj ei1
  obtain ⟨i2, ei2⟩ := is_v r2
  obtain rfl : w2 = (.int i2) := Option.some.inj ei2
  obtain ⟨n, o, h1, h2, h3, _, L, rfl, ⟨rfl, N⟩, hq⟩ := rm0 l s _ hw tables_1 i0 i1 i2 s.heap s.heap.size (Nat.le_refl _)  p e ha hc hk s m _ below hf ((Spec.applies_iff_loose hf).mp happ).1 ⟨rfl, State.Warmed39.refl s, rfl⟩ trivial
  refine ⟨n, _, h1, h2, h3, hpost _ _ _ _ _ _ ⟨Cond.after_iff.mpr rfl, Cond.after_iff.mpr (eq_i res_at (Term.int_eval (1)) rfl), trivial⟩ ⟨hq.1, hq.2.1, (hq.2.2.sift fun y hy => Or.inr (N y hy)).mono (by decide) (by decide)⟩⟩
theorem main_1_1 : Claimed_1_1 := comes_1 fun _ _ _ _ _ _ h hF => ⟨h.1, hF⟩
theorem main_1_2 : Claimed_1_2 := comes_1 fun _ _ _ _ _ _ h hF => ⟨h.2.1, hF⟩
end Jvm.Pilot.@@N@@
namespace Jvm.Pilot.@@N@@
open Jvm Jvm.ClassFile Sem Op Lib Jvm.Free Jvm.Stand Jvm.Pilot.@@N@@.Jvm.D
/-! MADE BY PROGRAM (witnessworld.py) out of the Statement's table words and the real class files: 9 classes; the members and pool entries that the words name. The judged class is class 1, her method 2. -/
namespace start1
open Jvm.ClassFile
def u (s : String) : CpInfo := .utf8 (stringToUtf16 s)
/-- a pool by its gaps: so many unusable entries, then the entry; so many at the end -/
def gap : Nat → List CpInfo → List CpInfo
  | 0, r => r
  | n + 1, r => .unusable :: gap n r
def poolList (es : List (Nat × CpInfo)) (last : Nat) : List CpInfo := es.foldr (fun e r => gap e.1 (e.2 :: r)) (gap last [])
def pool (es : List (Nat × CpInfo)) (last : Nat) : Array CpInfo := ⟨poolList es last⟩
def fileOf (pool : Array CpInfo) (this : Nat) (attrs : Array Attribute := #[]) (ms : Array MethodInfo := #[]) (fl : Nat := 33) (sup : Nat := 0) (ifs : Array Nat := #[]) (fds : Array FieldInfo := #[]) : ClassFile where
  minorVersion := 0
  majorVersion := 65
  constantPool := pool
  accessFlags := fl
  thisClass := this
  superClass := sup
  interfaces := ifs
  fields := fds
  methods := ms
  attributes := attrs
def plain (name : String) (sup : Option ClassId) : Class where
  name := name
  kind := .ordinary
  loader := none
  accessFlags := 33
  super := sup
  interfaces := #[]
  cf := none
  fields := #[]
  methods := #[]
  instanceTypes := #[]
  staticTypes := #[]
  resolved := #[]
  callSites := []
  init := .initialized
  statics := none
  mirror := none

def pool0 : Array CpInfo := pool [(5, u "<init>"), (0, u "()V"), (1, .class_ 10), (1, u "java/lang/Object")] 113

def k0m0 : Method := { name := "<init>", desc := "()V", sig := { parameters := [], returnType := none }, accessFlags := 1, code := none }
/-- java/lang/Object -/
def k0 : Class := { plain "java/lang/Object" none with
  accessFlags := 33
  interfaces := #[]
  cf := some (fileOf pool0 8 #[] #[{ accessFlags := 1, nameIndex := 5, descriptorIndex := 6, attributes := #[] }] 33 0 #[] #[])
  fields := #[]
  methods := #[k0m0]
  instanceTypes := #[]
  staticTypes := #[]
  resolved := Array.replicate 124 none
  statics := none }

def pool1 : Array CpInfo := pool [(2, .class_ 4), (1, u "java/lang/Object"), (0, u "<init>"), (0, u "()V"), (0, .integer 55296), (0, .integer 57343), (0, .integer 65534), (0, .integer 65535), (0, .integer 1114111), (0, .integer 55295), (0, .integer 57344), (0, .integer 65533), (0, .integer 65536), (2, .integer 2147483648), (0, .integer 2147483647), (0, .methodref 21 22), (0, .class_ 23), (0, .nameAndType 24 25), (0, u "com/example/penumbra/penumbra/store/Names"), (0, u "isXmlChar"), (0, u "(I)Z"), (0, .methodref 27 28), (0, .class_ 29), (0, .nameAndType 30 25), (0, u "com/example/penumbra/penumbra/store/NamesIsXmlCharPinLaw"), (0, u "forbidden"), (3, u "law"), (0, u "(III)Z")] 4

def k1m0 : Method := { name := "<init>", desc := "()V", sig := { parameters := [], returnType := none }, accessFlags := 2, code := none }
def k1c1 : Code := { maxStack := 2, maxLocals := 1, code := method_2_code, exceptionTable := #[], attributes := #[] }
def k1m1 : Method := { name := "forbidden", desc := "(I)Z", sig := { parameters := [.int], returnType := some .boolean }, accessFlags := 10, code := some k1c1 }
def k1c2 : Code := { maxStack := 4, maxLocals := 9, code := code, exceptionTable := #[], attributes := #[] }
def k1m2 : Method := { name := "law", desc := "(III)Z", sig := { parameters := [.int, .int, .int], returnType := some .boolean }, accessFlags := 9, code := some k1c2 }
/-- com/example/penumbra/penumbra/store/NamesIsXmlCharPinLaw -/
def k1 : Class := { plain "com/example/penumbra/penumbra/store/NamesIsXmlCharPinLaw" (some 0) with
  accessFlags := 49
  interfaces := #[]
  cf := some (fileOf pool1 27 #[] #[{ accessFlags := 2, nameIndex := 5, descriptorIndex := 6, attributes := #[] }, { accessFlags := 10, nameIndex := 30, descriptorIndex := 25, attributes := #[] }, { accessFlags := 9, nameIndex := 34, descriptorIndex := 35, attributes := #[] }] 49 2 #[] #[])
  fields := #[]
  methods := #[k1m0, k1m1, k1m2]
  instanceTypes := #[]
  staticTypes := #[]
  resolved := Array.replicate 40 none
  statics := none }

def pool2 : Array CpInfo := pool [(2, .class_ 4), (1, u "java/lang/Object"), (0, u "<init>"), (0, u "()V"), (1, .class_ 10), (1, u "com/example/penumbra/penumbra/store/Names"), (0, u "NAME_START_RANGES"), (0, u "[I"), (3, u "(I)Z"), (45, .integer 55295), (0, .integer 57344), (0, .integer 65533), (0, .integer 65536), (0, .integer 1114111), (2, u "isXmlChar"), (65, u "MAX_REFERENCE_LENGTH"), (0, u "I")] 20

def k2m0 : Method := { name := "<init>", desc := "()V", sig := { parameters := [], returnType := none }, accessFlags := 2, code := none }
def k2c1 : Code := { maxStack := 2, maxLocals := 1, code := prog_157_method_10_code, exceptionTable := #[], attributes := #[] }
def k2m1 : Method := { name := "isXmlChar", desc := "(I)Z", sig := { parameters := [.int], returnType := some .boolean }, accessFlags := 9, code := some k2c1 }
/-- com/example/penumbra/penumbra/store/Names -/
def k2 : Class := { plain "com/example/penumbra/penumbra/store/Names" (some 0) with
  accessFlags := 49
  interfaces := #[]
  cf := some (fileOf pool2 8 #[] #[{ accessFlags := 2, nameIndex := 5, descriptorIndex := 6, attributes := #[] }, { accessFlags := 9, nameIndex := 69, descriptorIndex := 16, attributes := #[] }] 49 2 #[] #[{ accessFlags := 26, nameIndex := 11, descriptorIndex := 12, attributes := #[] }, { accessFlags := 26, nameIndex := 135, descriptorIndex := 136, attributes := #[] }])
  fields := #[{ name := "NAME_START_RANGES", type := (.array .int), accessFlags := 26, slot := 0, constantValue := 0 }, { name := "MAX_REFERENCE_LENGTH", type := .int, accessFlags := 26, slot := 1, constantValue := 0 }]
  methods := #[k2m0, k2m1]
  instanceTypes := #[]
  staticTypes := #[(.array .int), .int]
  resolved := Array.replicate 157 none
  statics := none }

def pool3 : Array CpInfo := pool [(1, u "java/lang/Cloneable"), (0, .class_ 1), (0, u "java/lang/Object"), (0, .class_ 3)] 3

/-- java/lang/Cloneable -/
def k3 : Class := { plain "java/lang/Cloneable" (some 0) with
  accessFlags := 1537
  interfaces := #[]
  cf := some (fileOf pool3 2 #[] #[] 1537 4 #[] #[])
  fields := #[]
  methods := #[]
  instanceTypes := #[]
  staticTypes := #[]
  resolved := Array.replicate 8 none
  statics := none }

def pool4 : Array CpInfo := pool [(1, u "java/io/Serializable"), (0, .class_ 1), (0, u "java/lang/Object"), (0, .class_ 3)] 3

/-- java/io/Serializable -/
def k4 : Class := { plain "java/io/Serializable" (some 0) with
  accessFlags := 1537
  interfaces := #[]
  cf := some (fileOf pool4 2 #[] #[] 1537 4 #[] #[])
  fields := #[]
  methods := #[]
  instanceTypes := #[]
  staticTypes := #[]
  resolved := Array.replicate 8 none
  statics := none }

/-- the primitive byte -/
def k5 : Class := { plain "byte" none with kind := .primitive 'B', accessFlags := 0x411 }
/-- [B -/
def k6 : Class := { plain "[B" (some 0) with kind := .array 5 .byte, interfaces := #[3, 4], accessFlags := 1041 }

/-- the primitive int -/
def k7 : Class := { plain "int" none with kind := .primitive 'I', accessFlags := 0x411 }
/-- [I -/
def k8 : Class := { plain "[I" (some 0) with kind := .array 7 .int, interfaces := #[3, 4], accessFlags := 1041 }

def heap : Heap := #[]
def classes : Array Class := #[k0, k1, k2, k3, k4, k5, k6, k7, k8]
def interned : List (Array UInt16 × Addr) := []
def slotsUsed : Nat := 0
def theMethod : MethodId := ⟨1, 2⟩
def args0 : Array Value := #[.int 5, .int 3, .int 7]
def aboutOver (below : List Frame) : State where
  vm := { classes := classes, interned := interned.toArray }
  heap := heap
  slotsUsed := slotsUsed
  threads := #[{ frames := .invoking theMethod args0 :: below }]
def below0 : List Frame := [.native { method := ⟨0, 0⟩, args := #[] }]
def about1 : State := aboutOver below0
def p0 : Program := .bare "" "" ""
def e0 : Env := launch0.env 0 0 0
theorem w_frames : about1.frames = Frame.invoking theMethod args0 :: below0 := rfl
set_option maxRecDepth 65536 in
theorem w_args : argsFit about1.vm theMethod args0 = true := by decide +kernel
set_option maxRecDepth 65536 in
theorem w_heap : heapFits about1 = true := by decide +kernel
set_option maxRecDepth 65536 in
theorem w_runnable : about1.curStatus? = some .runnable := by decide +kernel
set_option maxRecDepth 65536 in
theorem w_alone : about1.alone = true := by decide +kernel
set_option maxRecDepth 65536 in
theorem w_named : about1.methodNamed? x = some theMethod := by decide +kernel
set_option maxRecDepth 65536 in
theorem w_hears : about1.hears theMethod below0 = true := by decide +kernel
set_option maxRecDepth 65536 in
theorem w_ripe : about1.ripe theMethod args0 below0 = true := by decide +kernel
theorem w_running : about1.status = .running := rfl
set_option maxRecDepth 65536 in
theorem w_room : about1.hasRoom e0.platform room_1 = true :=
  launch0.hasRoom_least _ room_1 (by decide +kernel) (by decide +kernel) (by decide +kernel) (by decide +kernel) (by decide +kernel) (by decide +kernel)
theorem allAtoms_all (ts : List Jvm.Cond) (a : Array Jvm.Value) (st : Jvm.State) : (allAtoms ts).before a st = ts.all (fun c => c.before a st) := by
  induction ts with
  | nil => rfl
  | cons c t ih =>
    show (Jvm.Cond.and c (allAtoms t)).before a st = _
    rw [Jvm.Cond.before_and, ih, List.all_cons]
def words1 : List Jvm.Cond := Jvm.Cond.code x code maxLocals ret :: tables_1
/-- a 'code' word, met by the world's own term for the bytes: nothing is compared byte by byte -/
theorem code_word {y : MethodName} {bytes : ByteArray} {mx : Nat} {rt : Option FieldType} {a : Array Value} {s : State} {m : MethodId} {meth : Method} {c : Code} (h1 : s.methodNamed? y = some m) (h2 : s.vm.method? m = some meth) (h3 : meth.code = some c) (h4 : c.code = bytes)
    (h5 : (c.maxLocals == mx && c.exceptionTable.isEmpty && decide (c.maxStack ≤ mostOperands) && decide (meth.sig.returnType = rt) && !meth.locks && decide (parseMethodDescriptor y.desc = some meth.sig)) = true) : (Jvm.Cond.code y bytes mx rt).before a s = true := by
  simp only [Bool.and_eq_true, beq_iff_eq, Bool.not_eq_true', decide_eq_true_eq] at h5
  obtain ⟨⟨⟨⟨⟨g1, g2⟩, g3⟩, g4⟩, g5⟩, g6⟩ := h5
  simp [Cond.before, Cond.holds, Cond.value, h1, h2, h3, h4, g1, g2, g3, g4, g5, g6]
def isCode : Jvm.Cond → Bool
  | .code _ _ _ _ => true
  | _ => false
theorem all_split {L : List Jvm.Cond} {P : Jvm.Cond → Bool} (h1 : L.all (fun c => isCode c || P c) = true) (h2 : ∀ c ∈ L.filter isCode, P c = true) : L.all P = true := by
  refine List.all_eq_true.mpr fun c hc => ?_
  have h := List.all_eq_true.mp h1 c hc
  rcases Bool.eq_false_or_eq_true (isCode c) with hi | hi
  · exact h2 c (List.mem_filter.mpr ⟨hc, hi⟩)
  · simpa [hi] using h
set_option maxRecDepth 65536 in
theorem w_c0 : (Jvm.Cond.code x code maxLocals ret).before args0 about1 = true := code_word (m := ⟨1, 2⟩) (meth := k1m2) (c := k1c2) (by decide +kernel) rfl rfl rfl (by decide +kernel)
set_option maxRecDepth 65536 in
theorem w_c1 : (Jvm.Cond.code ({ cls := "com/example/penumbra/penumbra/store/Names", name := "isXmlChar", desc := "(I)Z" } : Jvm.MethodName) prog_157_method_10_code (1 : Nat) (Option.some Jvm.ClassFile.FieldType.boolean)).before args0 about1 = true := code_word (m := ⟨2, 1⟩) (meth := k2m1) (c := k2c1) (by decide +kernel) rfl rfl rfl (by decide +kernel)
set_option maxRecDepth 65536 in
theorem w_c2 : (Jvm.Cond.code ({ cls := "com/example/penumbra/penumbra/store/NamesIsXmlCharPinLaw", name := "forbidden", desc := "(I)Z" } : Jvm.MethodName) method_2_code (1 : Nat) (Option.some Jvm.ClassFile.FieldType.boolean)).before args0 about1 = true := code_word (m := ⟨1, 1⟩) (meth := k1m1) (c := k1c1) (by decide +kernel) rfl rfl rfl (by decide +kernel)
def codes1 : List Jvm.Cond := [Jvm.Cond.code x code maxLocals ret, Jvm.Cond.code ({ cls := "com/example/penumbra/penumbra/store/Names", name := "isXmlChar", desc := "(I)Z" } : Jvm.MethodName) prog_157_method_10_code (1 : Nat) (Option.some Jvm.ClassFile.FieldType.boolean), Jvm.Cond.code ({ cls := "com/example/penumbra/penumbra/store/NamesIsXmlCharPinLaw", name := "forbidden", desc := "(I)Z" } : Jvm.MethodName) method_2_code (1 : Nat) (Option.some Jvm.ClassFile.FieldType.boolean)]
set_option maxRecDepth 65536 in
theorem codes_eq : words1.filter isCode = codes1 := rfl
theorem w_codes : ∀ c ∈ words1.filter isCode, c.before args0 about1 = true := by
  rw [codes_eq]
  intro c hc
  simp only [codes1, List.mem_cons, List.not_mem_nil, or_false] at hc
  rcases hc with rfl | rfl | rfl
  · exact w_c0
  · exact w_c1
  · exact w_c2
set_option maxRecDepth 65536 in
theorem w_t1 : (words1.take 24).all (fun c => isCode c || c.before args0 about1) = true := by decide +kernel
set_option maxRecDepth 65536 in
theorem w_t2 : (words1.drop 24).all (fun c => isCode c || c.before args0 about1) = true := by decide +kernel
theorem w_tables : (allAtoms (Jvm.Cond.code x code maxLocals ret :: tables_1)).before args0 about1 = true := by
  rw [allAtoms_all]
  show words1.all (fun c => c.before args0 about1) = true
  refine all_split ?_ w_codes
  rw [← List.take_append_drop 24 words1, List.all_append, w_t1, w_t2]
  rfl
set_option maxRecDepth 65536 in
theorem w_case : (Jvm.Cond.and given_1 narrow_1).before args0 about1 = true := by decide +kernel
theorem w_applies : (headSpec (Jvm.Cond.code x code maxLocals ret :: tables_1) room_1).applies x e0.platform about1 = true :=
  (Spec.applies_iff w_frames).mpr ⟨w_running, w_runnable, w_alone, w_named, w_hears, w_ripe, w_room, w_tables⟩
theorem atStart : AtStart classFile x code maxLocals ret World_1 tables_1 room_1 Calls_1 rest_1 Pre_1 launch0 p0 e0 about1 theMethod args0 below0 :=
  ⟨lists_1, trivial, launch0.admits_env _ _ _, launch0.least_env, fairChoices_fair.cas, fairChoices_fair.clock, w_frames, w_args, w_heap, w_applies, trivial, trivial, w_case⟩
end start1
theorem witness_1 : WitnessClaimed_1 := ⟨start1.p0, start1.e0, start1.about1, start1.theMethod, start1.args0, start1.below0, start1.atStart⟩
end Jvm.Pilot.@@N@@
