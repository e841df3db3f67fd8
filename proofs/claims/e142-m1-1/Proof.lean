import JvmDerived
import JvmDerived.Pilot.@@N@@Statement
import JvmDerived.Pilot.@@N@@Code
set_option linter.unusedVariables false
set_option linter.unusedSimpArgs false
namespace Jvm.Pilot.@@N@@
open Jvm Jvm.ClassFile Sem Op Lib Jvm.Free Jvm.Stand Jvm.LawKit Jvm.RoadKit Bundle Jvm.Pilot.@@N@@.Jvm.D
/-! own kit, part 1: what a walk still owes, as a predicate on the state it stands at -/
section Own
variable {p : Program} {l : Launch} {e : Env} {R : Room} {s : State} {m : MethodId} {args : Array Value} {below : List Frame} {meth : Method} {c : Code} {T : State} {locs : List Loc} {cells slots : Nat} {Z : State} {a0 : Array Value} {h : Heap} {Q : Option Value → Heap → List Loc → Prop} {kc ks : Nat}
def own_End (p : Program) (e : Env) (below : List Frame) (s : State) (Q : Option Value → Heap → List Loc → Prop) (kc ks : Nat) (A : State) : Prop :=
  ∃ s₂ o, Steps p.tables e below A s₂ ∧ s₂.status = .running ∧ Ended s₂ below o ∧ ∃ v L, o = .returned v ∧ Q v s₂.heap L ∧ FrameEnd s o s₂ L kc ks
theorem own_go {A B : State} (h : ∀ t, Steps p.tables e below B t → Steps p.tables e below A t) (k : own_End p e below s Q kc ks B) : own_End p e below s Q kc ks A := by
  obtain ⟨s₂, o, h1, r⟩ := k
  exact ⟨s₂, o, h _ h1, r⟩
/-- a word on 'what is owed' is shown first and used behind -/
theorem own_join {A : State} (F : (State → Prop) → Prop) (h1 : F (own_End p e below s Q kc ks)) (h2 : F (own_End p e below s Q kc ks) → own_End p e below s Q kc ks A) : own_End p e below s Q kc ks A := h2 h1
abbrev own_Met (l : Launch) (y : MethodName) (bytes : ByteArray) (maxL : Nat) (rt : Option FieldType) (ws : List Jvm.Cond) (rm : Room) (as' : Array Value) (Z : State) (h0 : Heap) (Q : Option Value → Heap → List Loc → Prop) : Prop :=
  MetFree l y (head1 (Jvm.Cond.code y bytes maxL rt :: ws) rm) (fun a U => a = as' ∧ Z.Warmed39 U.vm ∧ U.heap = h0) (fun _ _ _ _ _ => True) (fun _ U o U' => ∃ v L, o = .returned v ∧ Q v U'.heap L ∧ FrameEnd U o U' L rm.cells rm.slots)
theorem own_body {y : MethodName} {bytes : ByteArray} {maxL : Nat} {rt : Option FieldType} {ws : List Jvm.Cond} {rm : Room} {as' : Array Value} {h0 : Heap} (pn : plainFor y = true)
    (body : ∀ (p : Program) (e : Env) (s : State) (m : MethodId) (below : List Frame) (meth : Method) (c : Code) (s₁ : State), Stand p l e rm s m as' below meth c s₁ [] 0 0 → p.tables.exec = Jvm.exec → c.code = bytes → c.maxLocals = maxL → meth.sig.returnType = rt → meth.locks = false → s.vm.findClass y.cls = some m.cls → meth.name = y.name → Z.Warmed39 s.vm → s₁.heap = h0 → own_End p e below s Q rm.cells rm.slots (s₁.setTop (entryFrame m as' maxL))) :
    own_Met l y bytes maxL rt ws rm as' Z h0 Q := by
  refine MetFree.of_bodySF pn hisR ?_
  intro p e s m args below meth c s₁ Bd hml0 hP hK
  obtain ⟨rfl, hZ, hh⟩ := hP
  exact body p e s m below meth c s₁ (Stand.of_body Bd) Bd.exec Bd.bytes hml0 Bd.returns Bd.notSynchronized (findClass_of_methodNamed Bd.named) (name_of_methodNamed Bd.named Bd.method).1 hZ (by rw [← hh, Bd.state]; rfl)
theorem own_retN (X : Stand p l e R s m args below meth c T locs cells slots) (hx : p.tables.exec = Jvm.exec) {t : FieldType} (hret : meth.sig.returnType = some t) (hlk : meth.locks = false) (ht : t = .boolean ∨ t = .byte ∨ t = .char ∨ t = .short) {pc : Nat} {Ls : Array Slot} {z : Int32} {rest : List Value} (hd : decode c.code pc = .ok (.ireturn, 1)) (hq : Q (some (.int (nar t z))) T.heap locs) (h1 : cells ≤ kc) (h2 : slots ≤ ks) :
    own_End p e below s Q kc ks (T.setTop (mkF m pc Ls (.int z :: rest))) := by
  obtain ⟨fs, hr, hrun, hended, hW, hsame⟩ := X.leave (v := some (.int (nar t z))) (fun h => by rw [hret] at h; cases h) hlk
  exact ⟨_, _, retN X hx hret ht hd hr, hrun, hended, _, _, rfl, hq, ⟨_, rfl⟩, hW, hsame.mono h1 h2⟩
theorem own_retI (X : Stand p l e R s m args below meth c T locs cells slots) (hx : p.tables.exec = Jvm.exec) (hret : meth.sig.returnType = some .int) (hlk : meth.locks = false) {pc : Nat} {Ls : Array Slot} {z : Int32} {rest : List Value} (hd : decode c.code pc = .ok (.ireturn, 1)) (hq : Q (some (.int z)) T.heap locs) (h1 : cells ≤ kc) (h2 : slots ≤ ks) :
    own_End p e below s Q kc ks (T.setTop (mkF m pc Ls (.int z :: rest))) := by
  obtain ⟨fs, hr, hrun, hended, hW, hsame⟩ := X.leave (v := some (.int z)) (fun h => by rw [hret] at h; cases h) hlk
  exact ⟨_, _, retOut X hx hret rfl (Or.inl ⟨rfl, Or.inl rfl, z, rfl⟩) hd hr, hrun, hended, _, _, rfl, hq, ⟨_, rfl⟩, hW, hsame.mono h1 h2⟩
theorem own_retJ (X : Stand p l e R s m args below meth c T locs cells slots) (hx : p.tables.exec = Jvm.exec) (hret : meth.sig.returnType = some .long) (hlk : meth.locks = false) {pc : Nat} {Ls : Array Slot} {z : Int64} {rest : List Value} (hd : decode c.code pc = .ok (.lreturn, 1)) (hq : Q (some (.long z)) T.heap locs) (h1 : cells ≤ kc) (h2 : slots ≤ ks) :
    own_End p e below s Q kc ks (T.setTop (mkF m pc Ls (.long z :: rest))) := by
  obtain ⟨fs, hr, hrun, hended, hW, hsame⟩ := X.leave (v := some (.long z)) (fun h => by rw [hret] at h; cases h) hlk
  exact ⟨_, _, retOut X hx hret rfl (Or.inr (Or.inl ⟨rfl, rfl, z, rfl⟩)) hd hr, hrun, hended, _, _, rfl, hq, ⟨_, rfl⟩, hW, hsame.mono h1 h2⟩
theorem own_retA (X : Stand p l e R s m args below meth c T locs cells slots) (hx : p.tables.exec = Jvm.exec) {t : FieldType} (ht : t.isReference = true) (hret : meth.sig.returnType = some t) (hlk : meth.locks = false) {pc : Nat} {Ls : Array Slot} {b : Addr} (hd : decode c.code pc = .ok (.areturn, 1)) (hq : Q (some (.ref b)) T.heap locs) (h1 : cells ≤ kc) (h2 : slots ≤ ks) :
    own_End p e below s Q kc ks (T.setTop (mkF m pc Ls [.ref b])) := by
  obtain ⟨fs, hr, hrun, hended, hW, hsame⟩ := X.leave (v := some (.ref b)) (fun h => by rw [hret] at h; cases h) hlk
  exact ⟨_, _, X.areturnOut hx rfl hret ht hd hr, hrun, hended, _, _, rfl, hq, ⟨_, rfl⟩, hW, hsame.mono h1 h2⟩
theorem own_ret (X : Stand p l e R s m args below meth c T locs cells slots) (hx : p.tables.exec = Jvm.exec) (hret : meth.sig.returnType = none) (hlk : meth.locks = false) {pc : Nat} {Ls : Array Slot} (hd : decode c.code pc = .ok (.return_, 1)) (hq : Q none T.heap locs) (h1 : cells ≤ kc) (h2 : slots ≤ ks) :
    own_End p e below s Q kc ks (T.setTop (mkF m pc Ls [])) := by
  obtain ⟨fs, hr, hrun, hended, hW, hsame⟩ := X.leave (v := none) (fun _ => rfl) hlk
  exact ⟨_, _, X.returnOut hx hret hd hr, hrun, hended, _, _, rfl, hq, ⟨_, rfl⟩, hW, hsame.mono h1 h2⟩
/-! own kit, part 2: calls by a callee's contract -/
theorem own_callS (X : Stand p l e R s m args below meth c T locs cells slots) (hx : p.tables.exec = Jvm.exec) (hZ : Z.Warmed39 s.vm) {own : String} {index : Nat} {y : MethodName} {bytes : ByteArray} {maxL : Nat} {rt : Option FieldType} {rm : Room} {as' : Array Value} {Qc : Option Value → Heap → List Loc → Prop} (W : Nat)
    (hown : s.vm.findClass own = some m.cls) (w1 : (Cond.methodLink own index y).before a0 Z = true) (w2 : (Cond.static y).before a0 Z = true) (w3 : (Cond.initialized y.cls).before a0 Z = true) (w4 : (Cond.code y bytes maxL rt).before a0 Z = true)
    (hy : y.cls ≠ "java/lang/invoke/MethodHandle" ∧ y.cls ≠ "java/lang/invoke/VarHandle") (hM : own_Met l y bytes maxL rt [] rm as' Z h Qc) (eT : T.heap = h)
    {pc : Nat} {Ls : Array Slot} {st : List Value} (argsL rest : List Value) (hsize : Ls.size = c.maxLocals) (hst : st = argsL.reverse ++ rest) (has : argsL.toArray = as') (hlen : ∀ sig, parseMethodDescriptor y.desc = some sig → argsL.length = sig.parameters.length)
    (hW : (rest.map fun v => v.category).sum ≤ W) (hd : decode c.code pc = .ok (.invokestatic index, 3)) (hf : rm.frames + 1 ≤ R.frames) (hl : W + (maxL + 11) + rm.locals ≤ R.locals) (hc : cells + rm.cells ≤ R.cells) (hs : slots + rm.slots ≤ R.slots) :
    ∃ v T' L, Stand p l e R s m args below meth c T' (locs ++ L) (cells + rm.cells) (slots + rm.slots) ∧ Qc v T'.heap L ∧ ∀ t, Steps p.tables e below (T'.setTop (mkF m (pc + 3) Ls (v.toList ++ rest))) t → Steps p.tables e below (T.setTop (mkF m pc Ls st)) t := by
  obtain ⟨v, vm1, ⟨T', L', k', n'⟩, -, X', ⟨L, hQ, l1, y1, z1⟩, st'⟩ := Jvm.LawKit.callS X hx (y := y) hown (mvT hZ w1) (mvT hZ w2) (mvT hZ w3) (mvT hZ w4) hy (backOf (W := W) hM hZ w4 w3 hf hl) (g := mkF m pc Ls st) rfl hsize (argsL := argsL) (rest := rest) hlen hst (by show 2 * 0 + _ ≤ _; omega) hd (fun _ _ => ⟨has, eT, hc, hs⟩)
  dsimp only [Pt.U, Pt.locs, Pt.cells, Pt.slots] at X' l1 y1 z1 st' hQ
  subst l1 y1 z1
  exact ⟨v, T', L, X', hQ, st'⟩
theorem own_callV (X : Stand p l e R s m args below meth c T locs cells slots) (hx : p.tables.exec = Jvm.exec) (hZ : Z.Warmed39 s.vm) {own C : String} {index : Nat} {y : MethodName} {bytes : ByteArray} {maxL : Nat} {rt : Option FieldType} {rm : Room} {as' : Array Value} {Qc : Option Value → Heap → List Loc → Prop} (W : Nat)
    (hown : s.vm.findClass own = some m.cls) (w1 : (Cond.methodLink own index y).before a0 Z = true) (w2 : (Cond.declares y).before a0 Z = true) (w3 : (Cond.selects C y y).before a0 Z = true) (w4 : (Cond.instanceMethod y).before a0 Z = true) (w5 : (Cond.initialized y.cls).before a0 Z = true) (w6 : (Cond.code y bytes maxL rt).before a0 Z = true)
    (hy : y.cls ≠ "java/lang/invoke/MethodHandle" ∧ y.cls ≠ "java/lang/invoke/VarHandle") (hM : own_Met l y bytes maxL rt [] rm as' Z h Qc) (eT : T.heap = h) {b : Addr} (E : Exa Z h b C)
    {pc : Nat} {Ls : Array Slot} {st : List Value} (argsL rest : List Value) (hsize : Ls.size = c.maxLocals) (hst : st = argsL.reverse ++ .ref b :: rest) (has : (.ref b :: argsL).toArray = as') (hlen : ∀ sig, parseMethodDescriptor y.desc = some sig → argsL.length = sig.parameters.length)
    (hW : (rest.map fun v => v.category).sum ≤ W) (hd : decode c.code pc = .ok (.invokevirtual index, 3)) (hf : rm.frames + 1 ≤ R.frames) (hl : W + (maxL + 11) + rm.locals ≤ R.locals) (hc : cells + rm.cells ≤ R.cells) (hs : slots + rm.slots ≤ R.slots) :
    ∃ v T' L, Stand p l e R s m args below meth c T' (locs ++ L) (cells + rm.cells) (slots + rm.slots) ∧ Qc v T'.heap L ∧ ∀ t, Steps p.tables e below (T'.setTop (mkF m (pc + 3) Ls (v.toList ++ rest))) t → Steps p.tables e below (T.setTop (mkF m pc Ls st)) t := by
  obtain ⟨cq, kq, q1, q2, q3⟩ := isOf hZ eT E
  obtain ⟨v, vm1, ⟨T', L', k', n'⟩, -, X', ⟨L, hQ, l1, y1, z1⟩, st'⟩ := X.virtualBack hx (y := y) (z := y) hown (mvT hZ w1) (mvT hZ w2) (notFace_of_selects (args := #[]) (mvT hZ w3)) (mvT hZ w3) (mvT hZ w4) hy (backOf (W := W) hM hZ w6 w5 hf hl) q1 q3 (g := mkF m pc Ls st) rfl hsize (Steps.refl _) (argsL := argsL) (rest := rest) hlen hst (by show 2 * 0 + _ ≤ _; omega) hd (fun _ _ => ⟨has, eT, hc, hs⟩)
  dsimp only [Pt.U, Pt.locs, Pt.cells, Pt.slots] at X' l1 y1 z1 st' hQ
  subst l1 y1 z1
  exact ⟨v, T', L, X', hQ, fun t k => st'.trans k⟩
theorem own_callI (X : Stand p l e R s m args below meth c T locs cells slots) (hx : p.tables.exec = Jvm.exec) (hZ : Z.Warmed39 s.vm) {own : String} {index : Nat} {y : MethodName} {bytes : ByteArray} {maxL : Nat} {rm : Room} {as' : Array Value} {Qc : Option Value → Heap → List Loc → Prop} (W : Nat) (hi : y.name = "<init>")
    (hown : s.vm.findClass own = some m.cls) (w1 : (Cond.methodLink own index y).before a0 Z = true) (w4 : (Cond.instanceMethod y).before a0 Z = true) (w5 : (Cond.initialized y.cls).before a0 Z = true) (w6 : (Cond.code y bytes maxL none).before a0 Z = true)
    (hy : y.cls ≠ "java/lang/invoke/MethodHandle" ∧ y.cls ≠ "java/lang/invoke/VarHandle") (hM : own_Met l y bytes maxL none [] rm as' Z h Qc) (eT : T.heap = h) {b : Addr}
    {pc : Nat} {Ls : Array Slot} {st : List Value} (argsL rest : List Value) (hsize : Ls.size = c.maxLocals) (hst : st = argsL.reverse ++ .ref b :: rest) (has : (.ref b :: argsL).toArray = as') (hlen : ∀ sig, parseMethodDescriptor y.desc = some sig → argsL.length = sig.parameters.length)
    (hW : (rest.map fun v => v.category).sum ≤ W) (hd : decode c.code pc = .ok (.invokespecial index, 3)) (hf : rm.frames + 1 ≤ R.frames) (hl : W + (maxL + 11) + rm.locals ≤ R.locals) (hc : cells + rm.cells ≤ R.cells) (hs : slots + rm.slots ≤ R.slots) :
    ∃ v T' L, Stand p l e R s m args below meth c T' (locs ++ L) (cells + rm.cells) (slots + rm.slots) ∧ Qc v T'.heap L ∧ ∀ t, Steps p.tables e below (T'.setTop (mkF m (pc + 3) Ls (v.toList ++ rest))) t → Steps p.tables e below (T.setTop (mkF m pc Ls st)) t := by
  obtain ⟨v, vm1, ⟨T', L', k', n'⟩, -, X', ⟨L, hQ, l1, y1, z1⟩, st'⟩ := X.specialBack hx (y := y) hi hown (mvT hZ w1) (mvT hZ w4) (mvT hZ w6) hy (backOf (W := W) hM hZ w6 w5 hf hl) (g := mkF m pc Ls st) rfl hsize (Steps.refl _) (a := b) (argsL := argsL) (rest := rest) hlen hst (by show 2 * 0 + _ ≤ _; omega) hd (fun _ _ => ⟨has, eT, hc, hs⟩)
  dsimp only [Pt.U, Pt.locs, Pt.cells, Pt.slots] at X' l1 y1 z1 st' hQ
  subst l1 y1 z1
  exact ⟨v, T', L, X', hQ, fun t k => st'.trans k⟩
/-! own kit, part 3: comparisons, said of the numbers -/
theorem own_ltY {x y : Int32} {k : Int} (hy : y.toInt = k) (q : x.toInt < k) : if_icmp.holds .lt x y = true := (tlt (Int32.lt_iff_toInt_lt.mpr (by omega))).1
theorem own_ltN {x y : Int32} {k : Int} (hy : y.toInt = k) (q : ¬ x.toInt < k) : if_icmp.holds .lt x y = false := (flt (fun z => q (by have := Int32.lt_iff_toInt_lt.mp z; omega))).1
theorem own_geY {x y : Int32} {k : Int} (hy : y.toInt = k) (q : k ≤ x.toInt) : if_icmp.holds .ge x y = true := (flt (fun z => by have := Int32.lt_iff_toInt_lt.mp z; omega)).2.1
theorem own_geN {x y : Int32} {k : Int} (hy : y.toInt = k) (q : ¬ k ≤ x.toInt) : if_icmp.holds .ge x y = false := (tlt (Int32.lt_iff_toInt_lt.mpr (by omega))).2.1
theorem own_gtY {x y : Int32} {k : Int} (hy : y.toInt = k) (q : k < x.toInt) : if_icmp.holds .gt x y = true := (tlt (x := y) (y := x) (Int32.lt_iff_toInt_lt.mpr (by omega))).2.2.1
theorem own_gtN {x y : Int32} {k : Int} (hy : y.toInt = k) (q : ¬ k < x.toInt) : if_icmp.holds .gt x y = false := (flt (x := y) (y := x) (fun z => q (by have := Int32.lt_iff_toInt_lt.mp z; omega))).2.2.1
theorem own_leY {x y : Int32} {k : Int} (hy : y.toInt = k) (q : x.toInt ≤ k) : if_icmp.holds .le x y = true := (flt (x := y) (y := x) (fun z => by have := Int32.lt_iff_toInt_lt.mp z; omega)).2.2.2
theorem own_leN {x y : Int32} {k : Int} (hy : y.toInt = k) (q : ¬ x.toInt ≤ k) : if_icmp.holds .le x y = false := (tlt (x := y) (y := x) (Int32.lt_iff_toInt_lt.mpr (by omega))).2.2.2
theorem own_eqY {x y : Int32} {k : Int} (hy : y.toInt = k) (q : x.toInt = k) : if_icmp.holds .eq x y = true := (teq (Int32.toInt_inj.mp (by omega))).1
theorem own_eqN {x y : Int32} {k : Int} (hy : y.toInt = k) (q : ¬ x.toInt = k) : if_icmp.holds .eq x y = false := (feq (fun z => q (by rw [z]; exact hy))).1
theorem own_neY {x y : Int32} {k : Int} (hy : y.toInt = k) (q : ¬ x.toInt = k) : if_icmp.holds .ne x y = true := (feq (fun z => q (by rw [z]; exact hy))).2
theorem own_neN {x y : Int32} {k : Int} (hy : y.toInt = k) (q : ¬ ¬ x.toInt = k) : if_icmp.holds .ne x y = false := (teq (Int32.toInt_inj.mp (by omega))).2
theorem own_0 {cd : ClassFile.Cond} {x : Int32} {b : Bool} (q : if_icmp.holds cd x 0 = b) : ifCond.holds cd x = b := (if0 cd x).trans q
theorem own_cmp (x y : Int64) : (x.toInt < y.toInt ∧ XT.cmpL x y = -1) ∨ (x.toInt = y.toInt ∧ XT.cmpL x y = 0) ∨ (y.toInt < x.toInt ∧ XT.cmpL x y = 1) := by
  unfold XT.cmpL
  by_cases h1 : y < x
  · exact Or.inr (Or.inr ⟨Int64.lt_iff_toInt_lt.mp h1, if_pos h1⟩)
  · by_cases h2 : x = y
    · exact Or.inr (Or.inl ⟨by rw [h2], by rw [if_neg h1, if_pos h2]⟩)
    · refine Or.inl ⟨?_, by rw [if_neg h1, if_neg h2]⟩
      have q1 : ¬ y.toInt < x.toInt := fun z => h1 (Int64.lt_iff_toInt_lt.mpr z)
      have q2 : ¬ x.toInt = y.toInt := fun z => h2 (Int64.toInt_inj.mp z)
      omega
theorem own_lltY {x y : Int64} {k : Int} (hy : y.toInt = k) (q : x.toInt < k) : ifCond.holds .lt (XT.cmpL x y) = true := by rcases own_cmp x y with ⟨h, e⟩ | ⟨h, e⟩ | ⟨h, e⟩ <;> first | (exfalso; omega) | (rw [e]; decide)
theorem own_lltN {x y : Int64} {k : Int} (hy : y.toInt = k) (q : ¬ x.toInt < k) : ifCond.holds .lt (XT.cmpL x y) = false := by rcases own_cmp x y with ⟨h, e⟩ | ⟨h, e⟩ | ⟨h, e⟩ <;> first | (exfalso; omega) | (rw [e]; decide)
theorem own_lgeY {x y : Int64} {k : Int} (hy : y.toInt = k) (q : k ≤ x.toInt) : ifCond.holds .ge (XT.cmpL x y) = true := by rcases own_cmp x y with ⟨h, e⟩ | ⟨h, e⟩ | ⟨h, e⟩ <;> first | (exfalso; omega) | (rw [e]; decide)
theorem own_lgeN {x y : Int64} {k : Int} (hy : y.toInt = k) (q : ¬ k ≤ x.toInt) : ifCond.holds .ge (XT.cmpL x y) = false := by rcases own_cmp x y with ⟨h, e⟩ | ⟨h, e⟩ | ⟨h, e⟩ <;> first | (exfalso; omega) | (rw [e]; decide)
theorem own_lgtY {x y : Int64} {k : Int} (hy : y.toInt = k) (q : k < x.toInt) : ifCond.holds .gt (XT.cmpL x y) = true := by rcases own_cmp x y with ⟨h, e⟩ | ⟨h, e⟩ | ⟨h, e⟩ <;> first | (exfalso; omega) | (rw [e]; decide)
theorem own_lgtN {x y : Int64} {k : Int} (hy : y.toInt = k) (q : ¬ k < x.toInt) : ifCond.holds .gt (XT.cmpL x y) = false := by rcases own_cmp x y with ⟨h, e⟩ | ⟨h, e⟩ | ⟨h, e⟩ <;> first | (exfalso; omega) | (rw [e]; decide)
theorem own_lleY {x y : Int64} {k : Int} (hy : y.toInt = k) (q : x.toInt ≤ k) : ifCond.holds .le (XT.cmpL x y) = true := by rcases own_cmp x y with ⟨h, e⟩ | ⟨h, e⟩ | ⟨h, e⟩ <;> first | (exfalso; omega) | (rw [e]; decide)
theorem own_lleN {x y : Int64} {k : Int} (hy : y.toInt = k) (q : ¬ x.toInt ≤ k) : ifCond.holds .le (XT.cmpL x y) = false := by rcases own_cmp x y with ⟨h, e⟩ | ⟨h, e⟩ | ⟨h, e⟩ <;> first | (exfalso; omega) | (rw [e]; decide)
theorem own_leqY {x y : Int64} {k : Int} (hy : y.toInt = k) (q : x.toInt = k) : ifCond.holds .eq (XT.cmpL x y) = true := by rcases own_cmp x y with ⟨h, e⟩ | ⟨h, e⟩ | ⟨h, e⟩ <;> first | (exfalso; omega) | (rw [e]; decide)
theorem own_leqN {x y : Int64} {k : Int} (hy : y.toInt = k) (q : ¬ x.toInt = k) : ifCond.holds .eq (XT.cmpL x y) = false := by rcases own_cmp x y with ⟨h, e⟩ | ⟨h, e⟩ | ⟨h, e⟩ <;> first | (exfalso; omega) | (rw [e]; decide)
theorem own_lneY {x y : Int64} {k : Int} (hy : y.toInt = k) (q : ¬ x.toInt = k) : ifCond.holds .ne (XT.cmpL x y) = true := by rcases own_cmp x y with ⟨h, e⟩ | ⟨h, e⟩ | ⟨h, e⟩ <;> first | (exfalso; omega) | (rw [e]; decide)
theorem own_lneN {x y : Int64} {k : Int} (hy : y.toInt = k) (q : ¬ ¬ x.toInt = k) : ifCond.holds .ne (XT.cmpL x y) = false := by rcases own_cmp x y with ⟨h, e⟩ | ⟨h, e⟩ | ⟨h, e⟩ <;> first | (exfalso; omega) | (rw [e]; decide)
theorem own_yes {P : Prop} [Decidable P] (q : P) : (some (Value.int (nar .boolean 1)) : Option Value) = some (.int (if P then 1 else 0)) := by rw [if_pos q]; rfl
theorem own_no {P : Prop} [Decidable P] (q : ¬ P) : (some (Value.int (nar .boolean 0)) : Option Value) = some (.int (if P then 1 else 0)) := by rw [if_neg q]; rfl
theorem own_nyes {P : Prop} [Decidable P] (q : P) : (some (Value.int (nar .boolean 0)) : Option Value) = some (.int (if P then 0 else 1)) := by rw [if_pos q]; rfl
theorem own_nno {P : Prop} [Decidable P] (q : ¬ P) : (some (Value.int (nar .boolean 1)) : Option Value) = some (.int (if P then 0 else 1)) := by rw [if_neg q]; rfl
theorem own_bneY {P : Prop} [Decidable P] (q : P) : ifCond.holds .ne (if P then (1 : Int32) else 0) = true := by rw [if_pos q]; rfl
theorem own_bneN {P : Prop} [Decidable P] (q : ¬ P) : ifCond.holds .ne (if P then (1 : Int32) else 0) = false := by rw [if_neg q]; rfl
theorem own_beqY {P : Prop} [Decidable P] (q : ¬ P) : ifCond.holds .eq (if P then (1 : Int32) else 0) = true := by rw [if_neg q]; rfl
theorem own_beqN {P : Prop} [Decidable P] (q : ¬ ¬ P) : ifCond.holds .eq (if P then (1 : Int32) else 0) = false := by rw [if_pos (Decidable.not_not.mp q)]; rfl
/-! own kit, part 4: an array of which only the kind, the length and 'its places hold values of the kind' is kept -/
def own_A (Z : State) (h : Heap) (a : Addr) (ty : FieldType) (n : Nat) : Prop := ∃ c : Cell, Arr Z h a c ty ∧ c.slots.size = n ∧ ∀ i, i < n → ∃ v, c.slots[i]? = some v ∧ fits ty v = true
theorem own_A.lt {a : Addr} {ty : FieldType} {n : Nat} (A : own_A Z h a ty n) : a < h.size := by obtain ⟨c, A, -⟩ := A; exact A.lt
theorem own_A.of {h' : Heap} {a : Addr} {ty : FieldType} {n : Int32} {k : ClassId} {j : Nat} (A : Arr Z h a (newA k ty n) ty) (q : ¬ n < 0) (hn : n.toNatClampNeg = j) : own_A Z h a ty j := by
  obtain ⟨c, A, -, S, -, H, G⟩ := Arv.new A q
  exact ⟨c, A, S.trans hn, fun i hi => ⟨_, H i (by omega), G i (by omega)⟩⟩
theorem own_A.ext {h' : Heap} {a : Addr} {ty : FieldType} {n : Nat} (A : own_A Z h a ty n) (E : Ext h h') : own_A Z h' a ty n := by obtain ⟨c, A, r⟩ := A; exact ⟨c, A.ext E, r⟩
theorem own_A.other {h' : Heap} {a b : Addr} {ty : FieldType} {n sl : Nat} {v : Value} (A : own_A Z h a ty n) (W : Wr h h' b sl v) (q : a ≠ b) : own_A Z h' a ty n := by obtain ⟨c, A, r⟩ := A; exact ⟨c, A.other W q, r⟩
theorem own_A.set {h' : Heap} {a : Addr} {ty : FieldType} {n j : Nat} {v : Value} (A : own_A Z h a ty n) (W : Wr h h' a j v) (hv : fits ty v = true) : own_A Z h' a ty n := by
  obtain ⟨c, A, S, H⟩ := A
  refine ⟨_, A.same W, by rw [sz_set]; exact S, fun i hi => ?_⟩
  by_cases hij : i = j
  · subst hij
    exact ⟨v, by simp [Cell.setSlot, S, hi], hv⟩
  · obtain ⟨w, h1, h2⟩ := H i hi
    refine ⟨w, ?_, h2⟩
    simp only [Cell.setSlot]
    rw [Array.getElem?_setIfInBounds_ne (fun z => hij z.symm)]
    exact h1
theorem own_inb {c : Cell} {n : Nat} {j : Int32} (S : c.slots.size = n) (h1 : 0 ≤ j.toInt) (h2 : j.toInt < n) : ¬ (j < 0 ∨ c.slots.size ≤ j.toNatClampNeg) := by
  have h3 : ¬ j < 0 := fun z => by have := Int32.lt_iff_toInt_lt.mp z; have e : (0 : Int32).toInt = 0 := rfl; omega
  have := nat_of h3
  rintro (z | z)
  · exact h3 z
  · omega
theorem own_stI (X : Stand p l e R s m args below meth c T locs cells slots) (hx : p.tables.exec = Jvm.exec) (hZ : Z.Warmed39 s.vm) (eT : T.heap = h) {a : Addr} {n : Nat} (A : own_A Z h a .int n) {j x : Int32} (h1 : 0 ≤ j.toInt) (h2 : j.toInt < n) {pc : Nat} {Ls : Array Slot} {rest : List Value} (hd : decode c.code pc = .ok (.iastore, 1)) :
    ∃ T' h', Stand p l e R s m args below meth c T' (locs ++ [⟨a, j.toNatClampNeg⟩]) cells slots ∧ T'.heap = h' ∧ Wr h h' a j.toNatClampNeg (.int x) ∧ own_A Z h' a .int n ∧ ∀ t, Steps p.tables e below (T'.setTop (mkF m (pc + 1) Ls rest)) t → Steps p.tables e below (T.setTop (mkF m pc Ls (.int x :: .int j :: .ref a :: rest))) t := by
  have A0 := A
  obtain ⟨cl, A1, S, H⟩ := A
  obtain ⟨T', h', X', e', W, st⟩ := stI X hx hZ eT A1 (j := j) (x := x) (own_inb S h1 h2) (g := mkF m pc Ls (.int x :: .int j :: .ref a :: rest)) rfl rfl hd
  exact ⟨T', h', X', e', W, A0.set W rfl, st⟩
theorem own_stJ (X : Stand p l e R s m args below meth c T locs cells slots) (hx : p.tables.exec = Jvm.exec) (hZ : Z.Warmed39 s.vm) (eT : T.heap = h) {a : Addr} {n : Nat} (A : own_A Z h a .long n) {j : Int32} {x : Int64} (h1 : 0 ≤ j.toInt) (h2 : j.toInt < n) {pc : Nat} {Ls : Array Slot} {rest : List Value} (hd : decode c.code pc = .ok (.lastore, 1)) :
    ∃ T' h', Stand p l e R s m args below meth c T' (locs ++ [⟨a, j.toNatClampNeg⟩]) cells slots ∧ T'.heap = h' ∧ Wr h h' a j.toNatClampNeg (.long x) ∧ own_A Z h' a .long n ∧ ∀ t, Steps p.tables e below (T'.setTop (mkF m (pc + 1) Ls rest)) t → Steps p.tables e below (T.setTop (mkF m pc Ls (.long x :: .int j :: .ref a :: rest))) t := by
  have A0 := A
  obtain ⟨cl, A1, S, H⟩ := A
  obtain ⟨T', h', X', e', W, st⟩ := stJ X hx hZ eT A1 (j := j) (x := x) (own_inb S h1 h2) (g := mkF m pc Ls (.long x :: .int j :: .ref a :: rest)) rfl rfl hd
  exact ⟨T', h', X', e', W, A0.set W rfl, st⟩
theorem own_ldI (X : Stand p l e R s m args below meth c T locs cells slots) (hx : p.tables.exec = Jvm.exec) (hZ : Z.Warmed39 s.vm) (eT : T.heap = h) {a : Addr} {n : Nat} (A : own_A Z h a .int n) {j : Int32} (h1 : 0 ≤ j.toInt) (h2 : j.toInt < n) {pc : Nat} {Ls : Array Slot} {rest : List Value} (hd : decode c.code pc = .ok (.iaload, 1)) :
    ∃ x : Int32, ∀ t, Steps p.tables e below (T.setTop (mkF m (pc + 1) Ls (.int x :: rest))) t → Steps p.tables e below (T.setTop (mkF m pc Ls (.int j :: .ref a :: rest))) t := by
  obtain ⟨cl, A1, S, H⟩ := A
  have hin := own_inb S h1 h2
  obtain ⟨v, g1, g2⟩ := H j.toNatClampNeg (by rw [← S]; exact Nat.lt_of_not_le fun q => hin (Or.inr q))
  obtain ⟨x, rfl⟩ := fit_I g2 (Or.inl rfl)
  exact ⟨x, fun t k => X.iaload hx (by rw [eT]; exact A1.1) (State.isArrayOf_alike hZ.alike A1.2.1) A1.2.2 hin g1 (g := mkF m pc Ls (.int j :: .ref a :: rest)) rfl rfl hd t k⟩
theorem own_ldJ (X : Stand p l e R s m args below meth c T locs cells slots) (hx : p.tables.exec = Jvm.exec) (hZ : Z.Warmed39 s.vm) (eT : T.heap = h) {a : Addr} {n : Nat} (A : own_A Z h a .long n) {j : Int32} (h1 : 0 ≤ j.toInt) (h2 : j.toInt < n) {pc : Nat} {Ls : Array Slot} {rest : List Value} (hd : decode c.code pc = .ok (.laload, 1)) :
    ∃ x : Int64, ∀ t, Steps p.tables e below (T.setTop (mkF m (pc + 1) Ls (.long x :: rest))) t → Steps p.tables e below (T.setTop (mkF m pc Ls (.int j :: .ref a :: rest))) t := by
  obtain ⟨cl, A1, S, H⟩ := A
  have hin := own_inb S h1 h2
  obtain ⟨v, g1, g2⟩ := H j.toNatClampNeg (by rw [← S]; exact Nat.lt_of_not_le fun q => hin (Or.inr q))
  obtain ⟨x, rfl⟩ := fit_J g2
  exact ⟨x, fun t k => X.laload hx (by rw [eT]; exact A1.1) (State.isArrayOf_alike hZ.alike A1.2.1) A1.2.2 hin g1 (g := mkF m pc Ls (.int j :: .ref a :: rest)) rfl rfl hd t k⟩
theorem own_len (X : Stand p l e R s m args below meth c T locs cells slots) (hx : p.tables.exec = Jvm.exec) (hZ : Z.Warmed39 s.vm) (eT : T.heap = h) {a : Addr} {n : Nat} {ty : FieldType} (A : own_A Z h a ty n) {pc : Nat} {Ls : Array Slot} {rest : List Value} (hd : decode c.code pc = .ok (.arraylength, 1)) :
    ∀ t, Steps p.tables e below (T.setTop (mkF m (pc + 1) Ls (.int n.toInt32 :: rest))) t → Steps p.tables e below (T.setTop (mkF m pc Ls (.ref a :: rest))) t := by
  obtain ⟨cl, A1, S, H⟩ := A
  subst S
  exact fun t k => X.arraylength hx (by rw [eT]; exact A1.1) (State.isArrayOf_alike hZ.alike A1.2.1) (g := mkF m pc Ls (.ref a :: rest)) rfl rfl hd t k
/-! own kit, part 5: an array by the function that tells what its places hold -/
def own_F (Z : State) (h : Heap) (a : Addr) (k : ClassId) (ty : FieldType) (n : Nat) (f : Nat → Value) : Prop := ∃ c : Cell, Arr Z h a c ty ∧ c.cls = k ∧ c.slots.size = n ∧ ∀ i, i < n → c.slots[i]? = some (f i)
def own_up (f : Nat → Value) (j : Nat) (v : Value) : Nat → Value := fun i => if i = j then v else f i
section F
variable {h' : Heap} {a b : Addr} {k : ClassId} {ty : FieldType} {n : Nat} {f : Nat → Value} {j x : Int32} {y : Int64} {i : Nat} {v : Value} {pc : Nat} {Ls : Array Slot} {rest : List Value}
theorem own_F.cong {g : Nat → Value} (F : own_F Z h a k ty n f) (q : ∀ i, i < n → f i = g i) : own_F Z h a k ty n g := by obtain ⟨c, A, r1, r2, r3⟩ := F; exact ⟨c, A, r1, r2, fun i hi => by rw [← q i hi]; exact r3 i hi⟩
theorem own_F.lt (F : own_F Z h a k ty n f) : a < h.size := by obtain ⟨c, A, -⟩ := F; exact A.lt
theorem own_F.ext (F : own_F Z h a k ty n f) (E : Ext h h') : own_F Z h' a k ty n f := by obtain ⟨c, A, r⟩ := F; exact ⟨c, A.ext E, r⟩
theorem own_F.other {sl : Nat} (F : own_F Z h a k ty n f) (W : Wr h h' b sl v) (q : a ≠ b) : own_F Z h' a k ty n f := by obtain ⟨c, A, r⟩ := F; exact ⟨c, A.other W q, r⟩
theorem own_F.keep {ws : List Addr} (F : own_F Z h a k ty n f) (K : Keep h h' ws) (q : a ∉ ws) : own_F Z h' a k ty n f := by obtain ⟨c, A, r⟩ := F; exact ⟨c, ⟨K.2.1 a c A.1 q, A.2⟩, r⟩
theorem own_F.new {z : Int32} (A : Arr Z h a (newA k ty z) ty) (q : ¬ z < 0) (hn : z.toNatClampNeg = n) : own_F Z h a k ty n (fun _ => defaultValue ty) := by
  refine ⟨_, A, rfl, (sz_new _ _ _).trans hn, fun i hi => ?_⟩
  simp [newA, hn, hi]
theorem own_F.set (F : own_F Z h a k ty n f) (W : Wr h h' a i v) : own_F Z h' a k ty n (own_up f i v) := by
  obtain ⟨c, A, q, S, H⟩ := F
  refine ⟨_, A.same W, q, by rw [sz_set]; exact S, fun j hj => ?_⟩
  unfold own_up
  by_cases hij : j = i
  · subst hij
    rw [if_pos rfl]; simp [Cell.setSlot, S, hj]
  · rw [if_neg hij]
    simp only [Cell.setSlot]
    rw [Array.getElem?_setIfInBounds_ne (fun z => hij z.symm)]
    exact H j hj
theorem own_nat (hj : j.toInt = i) : j.toNatClampNeg = i ∧ ¬ j < 0 := by
  have h3 : ¬ j < 0 := fun z => by have := Int32.lt_iff_toInt_lt.mp z; have e : (0 : Int32).toInt = 0 := rfl; omega
  have := nat_of h3
  exact ⟨by omega, h3⟩
theorem own_in {c : Cell} (S : c.slots.size = n) (hj : j.toInt = i) (hi : i < n) : ¬ (j < 0 ∨ c.slots.size ≤ j.toNatClampNeg) := by
  obtain ⟨e1, e2⟩ := own_nat hj
  rintro (z | z)
  · exact e2 z
  · omega
theorem own_fstI (X : Stand p l e R s m args below meth c T locs cells slots) (hx : p.tables.exec = Jvm.exec) (hZ : Z.Warmed39 s.vm) (eT : T.heap = h) (F : own_F Z h a k .int n f) (i : Nat) (hj : j.toInt = i) (hi : i < n) (hd : decode c.code pc = .ok (.iastore, 1)) :
    ∃ T' h', Stand p l e R s m args below meth c T' (locs ++ [⟨a, i⟩]) cells slots ∧ T'.heap = h' ∧ Wr h h' a i (.int x) ∧ own_F Z h' a k .int n (own_up f i (.int x)) ∧ ∀ t, Steps p.tables e below (T'.setTop (mkF m (pc + 1) Ls rest)) t → Steps p.tables e below (T.setTop (mkF m pc Ls (.int x :: .int j :: .ref a :: rest))) t := by
  have F0 := F
  obtain ⟨cl, A, q, S, H⟩ := F
  obtain ⟨T', h', X', e', W, st⟩ := stI X hx hZ eT A (j := j) (x := x) (own_in S hj hi) (g := mkF m pc Ls (.int x :: .int j :: .ref a :: rest)) rfl rfl hd
  rw [(own_nat hj).1] at X' W
  exact ⟨T', h', X', e', W, F0.set W, st⟩
theorem own_fstJ (X : Stand p l e R s m args below meth c T locs cells slots) (hx : p.tables.exec = Jvm.exec) (hZ : Z.Warmed39 s.vm) (eT : T.heap = h) (F : own_F Z h a k .long n f) (i : Nat) (hj : j.toInt = i) (hi : i < n) (hd : decode c.code pc = .ok (.lastore, 1)) :
    ∃ T' h', Stand p l e R s m args below meth c T' (locs ++ [⟨a, i⟩]) cells slots ∧ T'.heap = h' ∧ Wr h h' a i (.long y) ∧ own_F Z h' a k .long n (own_up f i (.long y)) ∧ ∀ t, Steps p.tables e below (T'.setTop (mkF m (pc + 1) Ls rest)) t → Steps p.tables e below (T.setTop (mkF m pc Ls (.long y :: .int j :: .ref a :: rest))) t := by
  have F0 := F
  obtain ⟨cl, A, q, S, H⟩ := F
  obtain ⟨T', h', X', e', W, st⟩ := stJ X hx hZ eT A (j := j) (x := y) (own_in S hj hi) (g := mkF m pc Ls (.long y :: .int j :: .ref a :: rest)) rfl rfl hd
  rw [(own_nat hj).1] at X' W
  exact ⟨T', h', X', e', W, F0.set W, st⟩
theorem own_fstC (X : Stand p l e R s m args below meth c T locs cells slots) (hx : p.tables.exec = Jvm.exec) (hZ : Z.Warmed39 s.vm) (eT : T.heap = h) (F : own_F Z h a k .char n f) (i : Nat) (hj : j.toInt = i) (hi : i < n) (hd : decode c.code pc = .ok (.castore, 1)) :
    ∃ T' h', Stand p l e R s m args below meth c T' (locs ++ [⟨a, i⟩]) cells slots ∧ T'.heap = h' ∧ Wr h h' a i (.int (nar .char x)) ∧ own_F Z h' a k .char n (own_up f i (.int (nar .char x))) ∧ ∀ t, Steps p.tables e below (T'.setTop (mkF m (pc + 1) Ls rest)) t → Steps p.tables e below (T.setTop (mkF m pc Ls (.int x :: .int j :: .ref a :: rest))) t := by
  have F0 := F
  obtain ⟨cl, A, q, S, H⟩ := F
  obtain ⟨T', h', X', e', W, st⟩ := stC X hx hZ eT A (j := j) (x := x) (own_in S hj hi) (g := mkF m pc Ls (.int x :: .int j :: .ref a :: rest)) rfl rfl hd
  rw [(own_nat hj).1] at X' W
  exact ⟨T', h', X', e', W, F0.set W, st⟩
theorem own_fstZ (X : Stand p l e R s m args below meth c T locs cells slots) (hx : p.tables.exec = Jvm.exec) (hZ : Z.Warmed39 s.vm) (eT : T.heap = h) (F : own_F Z h a k .boolean n f) (i : Nat) (hj : j.toInt = i) (hi : i < n) (hd : decode c.code pc = .ok (.bastore, 1)) :
    ∃ T' h', Stand p l e R s m args below meth c T' (locs ++ [⟨a, i⟩]) cells slots ∧ T'.heap = h' ∧ Wr h h' a i (.int (nar .boolean x)) ∧ own_F Z h' a k .boolean n (own_up f i (.int (nar .boolean x))) ∧ ∀ t, Steps p.tables e below (T'.setTop (mkF m (pc + 1) Ls rest)) t → Steps p.tables e below (T.setTop (mkF m pc Ls (.int x :: .int j :: .ref a :: rest))) t := by
  have F0 := F
  obtain ⟨cl, A, q, S, H⟩ := F
  obtain ⟨T', h', X', e', W, st⟩ := stZ X hx hZ eT A (j := j) (x := x) (own_in S hj hi) (g := mkF m pc Ls (.int x :: .int j :: .ref a :: rest)) rfl rfl hd
  rw [(own_nat hj).1] at X' W
  exact ⟨T', h', X', e', W, F0.set W, st⟩
theorem own_fstA (X : Stand p l e R s m args below meth c T locs cells slots) (hx : p.tables.exec = Jvm.exec) (hZ : Z.Warmed39 s.vm) (eT : T.heap = h) (F : own_F Z h a k ty n f) (hty : ty.isReference = true) (O : Sto Z h a v) (i : Nat) (hj : j.toInt = i) (hi : i < n) (hd : decode c.code pc = .ok (.aastore, 1)) :
    ∃ T' h', Stand p l e R s m args below meth c T' (locs ++ [⟨a, i⟩]) cells slots ∧ T'.heap = h' ∧ Wr h h' a i v ∧ own_F Z h' a k ty n (own_up f i v) ∧ ∀ t, Steps p.tables e below (T'.setTop (mkF m (pc + 1) Ls rest)) t → Steps p.tables e below (T.setTop (mkF m pc Ls (v :: .int j :: .ref a :: rest))) t := by
  have F0 := F
  obtain ⟨cl, A, q, S, H⟩ := F
  obtain ⟨T', h', X', e', W, st⟩ := stR X hx hZ eT A (j := j) (v := v) (own_in S hj hi) hty O (g := mkF m pc Ls (v :: .int j :: .ref a :: rest)) rfl rfl hd
  rw [(own_nat hj).1] at X' W
  exact ⟨T', h', X', e', W, F0.set W, st⟩
theorem own_fldI (X : Stand p l e R s m args below meth c T locs cells slots) (hx : p.tables.exec = Jvm.exec) (hZ : Z.Warmed39 s.vm) (eT : T.heap = h) (F : own_F Z h a k .int n f) (i : Nat) (hj : j.toInt = i) (hi : i < n) (hv : f i = v) (hd : decode c.code pc = .ok (.iaload, 1)) :
    ∀ t, Steps p.tables e below (T.setTop (mkF m (pc + 1) Ls (v :: rest))) t → Steps p.tables e below (T.setTop (mkF m pc Ls (.int j :: .ref a :: rest))) t := by
  obtain ⟨cl, A, q, S, H⟩ := F
  exact fun t kk => X.iaload hx (by rw [eT]; exact A.1) (State.isArrayOf_alike hZ.alike A.2.1) A.2.2 (own_in S hj hi) (by rw [(own_nat hj).1, ← hv]; exact H i hi) (g := mkF m pc Ls (.int j :: .ref a :: rest)) rfl rfl hd t kk
theorem own_fldJ (X : Stand p l e R s m args below meth c T locs cells slots) (hx : p.tables.exec = Jvm.exec) (hZ : Z.Warmed39 s.vm) (eT : T.heap = h) (F : own_F Z h a k .long n f) (i : Nat) (hj : j.toInt = i) (hi : i < n) (hv : f i = v) (hd : decode c.code pc = .ok (.laload, 1)) :
    ∀ t, Steps p.tables e below (T.setTop (mkF m (pc + 1) Ls (v :: rest))) t → Steps p.tables e below (T.setTop (mkF m pc Ls (.int j :: .ref a :: rest))) t := by
  obtain ⟨cl, A, q, S, H⟩ := F
  exact fun t kk => X.laload hx (by rw [eT]; exact A.1) (State.isArrayOf_alike hZ.alike A.2.1) A.2.2 (own_in S hj hi) (by rw [(own_nat hj).1, ← hv]; exact H i hi) (g := mkF m pc Ls (.int j :: .ref a :: rest)) rfl rfl hd t kk
theorem own_fldC (X : Stand p l e R s m args below meth c T locs cells slots) (hx : p.tables.exec = Jvm.exec) (hZ : Z.Warmed39 s.vm) (eT : T.heap = h) (F : own_F Z h a k .char n f) (i : Nat) (hj : j.toInt = i) (hi : i < n) (hv : f i = v) (hd : decode c.code pc = .ok (.caload, 1)) :
    ∀ t, Steps p.tables e below (T.setTop (mkF m (pc + 1) Ls (v :: rest))) t → Steps p.tables e below (T.setTop (mkF m pc Ls (.int j :: .ref a :: rest))) t := by
  obtain ⟨cl, A, q, S, H⟩ := F
  exact fun t kk => X.caload hx (by rw [eT]; exact A.1) (State.isArrayOf_alike hZ.alike A.2.1) A.2.2 (own_in S hj hi) (by rw [(own_nat hj).1, ← hv]; exact H i hi) (g := mkF m pc Ls (.int j :: .ref a :: rest)) rfl rfl hd t kk
theorem own_fldZ (X : Stand p l e R s m args below meth c T locs cells slots) (hx : p.tables.exec = Jvm.exec) (hZ : Z.Warmed39 s.vm) (eT : T.heap = h) (F : own_F Z h a k .boolean n f) (i : Nat) (hj : j.toInt = i) (hi : i < n) (hv : f i = v) (hd : decode c.code pc = .ok (.baload, 1)) :
    ∀ t, Steps p.tables e below (T.setTop (mkF m (pc + 1) Ls (v :: rest))) t → Steps p.tables e below (T.setTop (mkF m pc Ls (.int j :: .ref a :: rest))) t := by
  obtain ⟨cl, A, q, S, H⟩ := F
  exact fun t kk => X.baloadBooleans hx (by rw [eT]; exact A.1) (State.isArrayOf_alike hZ.alike A.2.1) A.2.2 (own_in S hj hi) (by rw [(own_nat hj).1, ← hv]; exact H i hi) (g := mkF m pc Ls (.int j :: .ref a :: rest)) rfl rfl hd t kk
theorem own_fldA (X : Stand p l e R s m args below meth c T locs cells slots) (hx : p.tables.exec = Jvm.exec) (hZ : Z.Warmed39 s.vm) (eT : T.heap = h) (F : own_F Z h a k ty n f) (hty : ty.isReference = true) (i : Nat) (hj : j.toInt = i) (hi : i < n) (hv : f i = v) (hd : decode c.code pc = .ok (.aaload, 1)) :
    ∀ t, Steps p.tables e below (T.setTop (mkF m (pc + 1) Ls (v :: rest))) t → Steps p.tables e below (T.setTop (mkF m pc Ls (.int j :: .ref a :: rest))) t := by
  obtain ⟨cl, A, q, S, H⟩ := F
  exact fun t kk => X.aaload hx (by rw [eT]; exact A.1) (State.isArrayOf_alike hZ.alike A.2.1) hty A.2.2 (own_in S hj hi) (by rw [(own_nat hj).1, ← hv]; exact H i hi) (g := mkF m pc Ls (.int j :: .ref a :: rest)) rfl rfl hd t kk
theorem own_flen (X : Stand p l e R s m args below meth c T locs cells slots) (hx : p.tables.exec = Jvm.exec) (hZ : Z.Warmed39 s.vm) (eT : T.heap = h) (F : own_F Z h a k ty n f) (hd : decode c.code pc = .ok (.arraylength, 1)) :
    ∀ t, Steps p.tables e below (T.setTop (mkF m (pc + 1) Ls (.int n.toInt32 :: rest))) t → Steps p.tables e below (T.setTop (mkF m pc Ls (.ref a :: rest))) t := by
  obtain ⟨cl, A, q, S, H⟩ := F
  subst S
  exact fun t kk => X.arraylength hx (by rw [eT]; exact A.1) (State.isArrayOf_alike hZ.alike A.2.1) (g := mkF m pc Ls (.ref a :: rest)) rfl rfl hd t kk
theorem own_F.sto {ty : FieldType} {y : Addr} {C : String} (F : own_F Z h a k (.array ty) n f) (O : OvrA Z k ty C) (E : Exa Z h y C) : Sto Z h a (.ref y) := by
  obtain ⟨c, A, q, -⟩ := F
  exact Sto.ofVA A q O (Ins.self E)
theorem own_up_eq : own_up f i v i = v := if_pos rfl
theorem own_up_ne {j : Nat} (q : j ≠ i) : own_up f i v j = f j := if_neg q
end F
end Own
theorem d1_0 : decode prog_72_method_7_code 0 = .ok (.iload_n 0, 1) := by decide +kernel
theorem d1_1 : decode prog_72_method_7_code 1 = .ok (.bipush 65, 2) := by decide +kernel
theorem d1_3 : decode prog_72_method_7_code 3 = .ok (.if_icmp .lt 9, 3) := by decide +kernel
theorem d1_6 : decode prog_72_method_7_code 6 = .ok (.iload_n 0, 1) := by decide +kernel
theorem d1_7 : decode prog_72_method_7_code 7 = .ok (.bipush 90, 2) := by decide +kernel
theorem d1_9 : decode prog_72_method_7_code 9 = .ok (.if_icmp .le 182, 3) := by decide +kernel
theorem d1_12 : decode prog_72_method_7_code 12 = .ok (.iload_n 0, 1) := by decide +kernel
theorem d1_13 : decode prog_72_method_7_code 13 = .ok (.bipush 95, 2) := by decide +kernel
theorem d1_15 : decode prog_72_method_7_code 15 = .ok (.if_icmp .eq 176, 3) := by decide +kernel
theorem d1_18 : decode prog_72_method_7_code 18 = .ok (.iload_n 0, 1) := by decide +kernel
theorem d1_19 : decode prog_72_method_7_code 19 = .ok (.bipush 97, 2) := by decide +kernel
theorem d1_21 : decode prog_72_method_7_code 21 = .ok (.if_icmp .lt 9, 3) := by decide +kernel
theorem d1_24 : decode prog_72_method_7_code 24 = .ok (.iload_n 0, 1) := by decide +kernel
theorem d1_25 : decode prog_72_method_7_code 25 = .ok (.bipush 122, 2) := by decide +kernel
theorem d1_27 : decode prog_72_method_7_code 27 = .ok (.if_icmp .le 164, 3) := by decide +kernel
theorem d1_30 : decode prog_72_method_7_code 30 = .ok (.iload_n 0, 1) := by decide +kernel
theorem d1_31 : decode prog_72_method_7_code 31 = .ok (.sipush 192, 3) := by decide +kernel
theorem d1_34 : decode prog_72_method_7_code 34 = .ok (.if_icmp .lt 10, 3) := by decide +kernel
theorem d1_37 : decode prog_72_method_7_code 37 = .ok (.iload_n 0, 1) := by decide +kernel
theorem d1_38 : decode prog_72_method_7_code 38 = .ok (.sipush 214, 3) := by decide +kernel
theorem d1_41 : decode prog_72_method_7_code 41 = .ok (.if_icmp .le 150, 3) := by decide +kernel
theorem d1_44 : decode prog_72_method_7_code 44 = .ok (.iload_n 0, 1) := by decide +kernel
theorem d1_45 : decode prog_72_method_7_code 45 = .ok (.sipush 216, 3) := by decide +kernel
theorem d1_48 : decode prog_72_method_7_code 48 = .ok (.if_icmp .lt 10, 3) := by decide +kernel
theorem d1_51 : decode prog_72_method_7_code 51 = .ok (.iload_n 0, 1) := by decide +kernel
theorem d1_52 : decode prog_72_method_7_code 52 = .ok (.sipush 246, 3) := by decide +kernel
theorem d1_55 : decode prog_72_method_7_code 55 = .ok (.if_icmp .le 136, 3) := by decide +kernel
theorem d1_58 : decode prog_72_method_7_code 58 = .ok (.iload_n 0, 1) := by decide +kernel
theorem d1_59 : decode prog_72_method_7_code 59 = .ok (.sipush 248, 3) := by decide +kernel
theorem d1_62 : decode prog_72_method_7_code 62 = .ok (.if_icmp .lt 10, 3) := by decide +kernel
theorem d1_65 : decode prog_72_method_7_code 65 = .ok (.iload_n 0, 1) := by decide +kernel
theorem d1_66 : decode prog_72_method_7_code 66 = .ok (.sipush 767, 3) := by decide +kernel
theorem d1_69 : decode prog_72_method_7_code 69 = .ok (.if_icmp .le 122, 3) := by decide +kernel
theorem d1_72 : decode prog_72_method_7_code 72 = .ok (.iload_n 0, 1) := by decide +kernel
theorem d1_73 : decode prog_72_method_7_code 73 = .ok (.sipush 880, 3) := by decide +kernel
theorem d1_76 : decode prog_72_method_7_code 76 = .ok (.if_icmp .lt 10, 3) := by decide +kernel
theorem d1_79 : decode prog_72_method_7_code 79 = .ok (.iload_n 0, 1) := by decide +kernel
theorem d1_80 : decode prog_72_method_7_code 80 = .ok (.sipush 893, 3) := by decide +kernel
theorem d1_83 : decode prog_72_method_7_code 83 = .ok (.if_icmp .le 108, 3) := by decide +kernel
theorem d1_86 : decode prog_72_method_7_code 86 = .ok (.iload_n 0, 1) := by decide +kernel
theorem d1_87 : decode prog_72_method_7_code 87 = .ok (.sipush 895, 3) := by decide +kernel
theorem d1_90 : decode prog_72_method_7_code 90 = .ok (.if_icmp .lt 10, 3) := by decide +kernel
theorem d1_93 : decode prog_72_method_7_code 93 = .ok (.iload_n 0, 1) := by decide +kernel
theorem d1_94 : decode prog_72_method_7_code 94 = .ok (.sipush 8191, 3) := by decide +kernel
theorem d1_97 : decode prog_72_method_7_code 97 = .ok (.if_icmp .le 94, 3) := by decide +kernel
theorem d1_100 : decode prog_72_method_7_code 100 = .ok (.iload_n 0, 1) := by decide +kernel
theorem d1_101 : decode prog_72_method_7_code 101 = .ok (.sipush 8204, 3) := by decide +kernel
theorem d1_104 : decode prog_72_method_7_code 104 = .ok (.if_icmp .lt 10, 3) := by decide +kernel
theorem d1_107 : decode prog_72_method_7_code 107 = .ok (.iload_n 0, 1) := by decide +kernel
theorem d1_108 : decode prog_72_method_7_code 108 = .ok (.sipush 8205, 3) := by decide +kernel
theorem d1_111 : decode prog_72_method_7_code 111 = .ok (.if_icmp .le 80, 3) := by decide +kernel
theorem d1_114 : decode prog_72_method_7_code 114 = .ok (.iload_n 0, 1) := by decide +kernel
theorem d1_115 : decode prog_72_method_7_code 115 = .ok (.sipush 8304, 3) := by decide +kernel
theorem d1_118 : decode prog_72_method_7_code 118 = .ok (.if_icmp .lt 10, 3) := by decide +kernel
theorem d1_121 : decode prog_72_method_7_code 121 = .ok (.iload_n 0, 1) := by decide +kernel
theorem d1_122 : decode prog_72_method_7_code 122 = .ok (.sipush 8591, 3) := by decide +kernel
theorem d1_125 : decode prog_72_method_7_code 125 = .ok (.if_icmp .le 66, 3) := by decide +kernel
theorem d1_128 : decode prog_72_method_7_code 128 = .ok (.iload_n 0, 1) := by decide +kernel
theorem d1_129 : decode prog_72_method_7_code 129 = .ok (.sipush 11264, 3) := by decide +kernel
theorem d1_132 : decode prog_72_method_7_code 132 = .ok (.if_icmp .lt 10, 3) := by decide +kernel
theorem d1_135 : decode prog_72_method_7_code 135 = .ok (.iload_n 0, 1) := by decide +kernel
theorem d1_136 : decode prog_72_method_7_code 136 = .ok (.sipush 12271, 3) := by decide +kernel
theorem d1_139 : decode prog_72_method_7_code 139 = .ok (.if_icmp .le 52, 3) := by decide +kernel
theorem d1_142 : decode prog_72_method_7_code 142 = .ok (.iload_n 0, 1) := by decide +kernel
theorem d1_143 : decode prog_72_method_7_code 143 = .ok (.sipush 12289, 3) := by decide +kernel
theorem d1_146 : decode prog_72_method_7_code 146 = .ok (.if_icmp .lt 9, 3) := by decide +kernel
theorem d1_149 : decode prog_72_method_7_code 149 = .ok (.iload_n 0, 1) := by decide +kernel
theorem d1_150 : decode prog_72_method_7_code 150 = .ok (.ldc 62, 2) := by decide +kernel
theorem d1_152 : decode prog_72_method_7_code 152 = .ok (.if_icmp .le 39, 3) := by decide +kernel
theorem d1_155 : decode prog_72_method_7_code 155 = .ok (.iload_n 0, 1) := by decide +kernel
theorem d1_156 : decode prog_72_method_7_code 156 = .ok (.ldc 63, 2) := by decide +kernel
theorem d1_158 : decode prog_72_method_7_code 158 = .ok (.if_icmp .lt 9, 3) := by decide +kernel
theorem d1_161 : decode prog_72_method_7_code 161 = .ok (.iload_n 0, 1) := by decide +kernel
theorem d1_162 : decode prog_72_method_7_code 162 = .ok (.ldc 64, 2) := by decide +kernel
theorem d1_164 : decode prog_72_method_7_code 164 = .ok (.if_icmp .le 27, 3) := by decide +kernel
theorem d1_167 : decode prog_72_method_7_code 167 = .ok (.iload_n 0, 1) := by decide +kernel
theorem d1_168 : decode prog_72_method_7_code 168 = .ok (.ldc 65, 2) := by decide +kernel
theorem d1_170 : decode prog_72_method_7_code 170 = .ok (.if_icmp .lt 9, 3) := by decide +kernel
theorem d1_173 : decode prog_72_method_7_code 173 = .ok (.iload_n 0, 1) := by decide +kernel
theorem d1_174 : decode prog_72_method_7_code 174 = .ok (.ldc 66, 2) := by decide +kernel
theorem d1_176 : decode prog_72_method_7_code 176 = .ok (.if_icmp .le 15, 3) := by decide +kernel
theorem d1_179 : decode prog_72_method_7_code 179 = .ok (.iload_n 0, 1) := by decide +kernel
theorem d1_180 : decode prog_72_method_7_code 180 = .ok (.ldc 67, 2) := by decide +kernel
theorem d1_182 : decode prog_72_method_7_code 182 = .ok (.if_icmp .lt 13, 3) := by decide +kernel
theorem d1_185 : decode prog_72_method_7_code 185 = .ok (.iload_n 0, 1) := by decide +kernel
theorem d1_186 : decode prog_72_method_7_code 186 = .ok (.ldc 68, 2) := by decide +kernel
theorem d1_188 : decode prog_72_method_7_code 188 = .ok (.if_icmp .gt 7, 3) := by decide +kernel
theorem d1_191 : decode prog_72_method_7_code 191 = .ok (.iconst 1, 1) := by decide +kernel
theorem d1_192 : decode prog_72_method_7_code 192 = .ok (.goto 4, 3) := by decide +kernel
theorem d1_195 : decode prog_72_method_7_code 195 = .ok (.iconst 0, 1) := by decide +kernel
theorem d1_196 : decode prog_72_method_7_code 196 = .ok (.ireturn, 1) := by decide +kernel
theorem d2_0 : decode method_3_code 0 = .ok (.iload_n 0, 1) := by decide +kernel
theorem d2_1 : decode method_3_code 1 = .ok (.bipush 65, 2) := by decide +kernel
theorem d2_3 : decode method_3_code 3 = .ok (.if_icmp .lt 9, 3) := by decide +kernel
theorem d2_6 : decode method_3_code 6 = .ok (.iload_n 0, 1) := by decide +kernel
theorem d2_7 : decode method_3_code 7 = .ok (.ldc 7, 2) := by decide +kernel
theorem d2_9 : decode method_3_code 9 = .ok (.if_icmp .le 5, 3) := by decide +kernel
theorem d2_12 : decode method_3_code 12 = .ok (.iconst 0, 1) := by decide +kernel
theorem d2_13 : decode method_3_code 13 = .ok (.ireturn, 1) := by decide +kernel
theorem d2_14 : decode method_3_code 14 = .ok (.iload_n 0, 1) := by decide +kernel
theorem d2_15 : decode method_3_code 15 = .ok (.bipush 91, 2) := by decide +kernel
theorem d2_17 : decode method_3_code 17 = .ok (.bipush 94, 2) := by decide +kernel
theorem d2_19 : decode method_3_code 19 = .ok (.invokestatic 8, 3) := by decide +kernel
theorem d2_22 : decode method_3_code 22 = .ok (.ifCond .ne 35, 3) := by decide +kernel
theorem d2_25 : decode method_3_code 25 = .ok (.iload_n 0, 1) := by decide +kernel
theorem d2_26 : decode method_3_code 26 = .ok (.bipush 96, 2) := by decide +kernel
theorem d2_28 : decode method_3_code 28 = .ok (.if_icmp .eq 29, 3) := by decide +kernel
theorem d2_31 : decode method_3_code 31 = .ok (.iload_n 0, 1) := by decide +kernel
theorem d2_32 : decode method_3_code 32 = .ok (.bipush 123, 2) := by decide +kernel
theorem d2_34 : decode method_3_code 34 = .ok (.sipush 191, 3) := by decide +kernel
theorem d2_37 : decode method_3_code 37 = .ok (.invokestatic 8, 3) := by decide +kernel
theorem d2_40 : decode method_3_code 40 = .ok (.ifCond .ne 17, 3) := by decide +kernel
theorem d2_43 : decode method_3_code 43 = .ok (.iload_n 0, 1) := by decide +kernel
theorem d2_44 : decode method_3_code 44 = .ok (.sipush 215, 3) := by decide +kernel
theorem d2_47 : decode method_3_code 47 = .ok (.if_icmp .eq 10, 3) := by decide +kernel
theorem d2_50 : decode method_3_code 50 = .ok (.iload_n 0, 1) := by decide +kernel
theorem d2_51 : decode method_3_code 51 = .ok (.sipush 247, 3) := by decide +kernel
theorem d2_54 : decode method_3_code 54 = .ok (.if_icmp .ne 5, 3) := by decide +kernel
theorem d2_57 : decode method_3_code 57 = .ok (.iconst 0, 1) := by decide +kernel
theorem d2_58 : decode method_3_code 58 = .ok (.ireturn, 1) := by decide +kernel
theorem d2_59 : decode method_3_code 59 = .ok (.iload_n 0, 1) := by decide +kernel
theorem d2_60 : decode method_3_code 60 = .ok (.sipush 768, 3) := by decide +kernel
theorem d2_63 : decode method_3_code 63 = .ok (.sipush 879, 3) := by decide +kernel
theorem d2_66 : decode method_3_code 66 = .ok (.invokestatic 8, 3) := by decide +kernel
theorem d2_69 : decode method_3_code 69 = .ok (.ifCond .ne 10, 3) := by decide +kernel
theorem d2_72 : decode method_3_code 72 = .ok (.iload_n 0, 1) := by decide +kernel
theorem d2_73 : decode method_3_code 73 = .ok (.sipush 894, 3) := by decide +kernel
theorem d2_76 : decode method_3_code 76 = .ok (.if_icmp .ne 5, 3) := by decide +kernel
theorem d2_79 : decode method_3_code 79 = .ok (.iconst 0, 1) := by decide +kernel
theorem d2_80 : decode method_3_code 80 = .ok (.ireturn, 1) := by decide +kernel
theorem d2_81 : decode method_3_code 81 = .ok (.iload_n 0, 1) := by decide +kernel
theorem d2_82 : decode method_3_code 82 = .ok (.sipush 8192, 3) := by decide +kernel
theorem d2_85 : decode method_3_code 85 = .ok (.sipush 8203, 3) := by decide +kernel
theorem d2_88 : decode method_3_code 88 = .ok (.invokestatic 8, 3) := by decide +kernel
theorem d2_91 : decode method_3_code 91 = .ok (.ifCond .ne 42, 3) := by decide +kernel
theorem d2_94 : decode method_3_code 94 = .ok (.iload_n 0, 1) := by decide +kernel
theorem d2_95 : decode method_3_code 95 = .ok (.sipush 8206, 3) := by decide +kernel
theorem d2_98 : decode method_3_code 98 = .ok (.sipush 8303, 3) := by decide +kernel
theorem d2_101 : decode method_3_code 101 = .ok (.invokestatic 8, 3) := by decide +kernel
theorem d2_104 : decode method_3_code 104 = .ok (.ifCond .ne 29, 3) := by decide +kernel
theorem d2_107 : decode method_3_code 107 = .ok (.iload_n 0, 1) := by decide +kernel
theorem d2_108 : decode method_3_code 108 = .ok (.sipush 8592, 3) := by decide +kernel
theorem d2_111 : decode method_3_code 111 = .ok (.sipush 11263, 3) := by decide +kernel
theorem d2_114 : decode method_3_code 114 = .ok (.invokestatic 8, 3) := by decide +kernel
theorem d2_117 : decode method_3_code 117 = .ok (.ifCond .ne 16, 3) := by decide +kernel
theorem d2_120 : decode method_3_code 120 = .ok (.iload_n 0, 1) := by decide +kernel
theorem d2_121 : decode method_3_code 121 = .ok (.sipush 12272, 3) := by decide +kernel
theorem d2_124 : decode method_3_code 124 = .ok (.sipush 12288, 3) := by decide +kernel
theorem d2_127 : decode method_3_code 127 = .ok (.invokestatic 8, 3) := by decide +kernel
theorem d2_130 : decode method_3_code 130 = .ok (.ifCond .eq 5, 3) := by decide +kernel
theorem d2_133 : decode method_3_code 133 = .ok (.iconst 0, 1) := by decide +kernel
theorem d2_134 : decode method_3_code 134 = .ok (.ireturn, 1) := by decide +kernel
theorem d2_135 : decode method_3_code 135 = .ok (.iload_n 0, 1) := by decide +kernel
theorem d2_136 : decode method_3_code 136 = .ok (.ldc 14, 2) := by decide +kernel
theorem d2_138 : decode method_3_code 138 = .ok (.ldc 15, 2) := by decide +kernel
theorem d2_140 : decode method_3_code 140 = .ok (.invokestatic 8, 3) := by decide +kernel
theorem d2_143 : decode method_3_code 143 = .ok (.ifCond .ne 25, 3) := by decide +kernel
theorem d2_146 : decode method_3_code 146 = .ok (.iload_n 0, 1) := by decide +kernel
theorem d2_147 : decode method_3_code 147 = .ok (.ldc 16, 2) := by decide +kernel
theorem d2_149 : decode method_3_code 149 = .ok (.ldc 17, 2) := by decide +kernel
theorem d2_151 : decode method_3_code 151 = .ok (.invokestatic 8, 3) := by decide +kernel
theorem d2_154 : decode method_3_code 154 = .ok (.ifCond .ne 14, 3) := by decide +kernel
theorem d2_157 : decode method_3_code 157 = .ok (.iload_n 0, 1) := by decide +kernel
theorem d2_158 : decode method_3_code 158 = .ok (.ldc 18, 2) := by decide +kernel
theorem d2_160 : decode method_3_code 160 = .ok (.ldc 19, 2) := by decide +kernel
theorem d2_162 : decode method_3_code 162 = .ok (.invokestatic 8, 3) := by decide +kernel
theorem d2_165 : decode method_3_code 165 = .ok (.ifCond .eq 5, 3) := by decide +kernel
theorem d2_168 : decode method_3_code 168 = .ok (.iconst 0, 1) := by decide +kernel
theorem d2_169 : decode method_3_code 169 = .ok (.ireturn, 1) := by decide +kernel
theorem d2_170 : decode method_3_code 170 = .ok (.iconst 1, 1) := by decide +kernel
theorem d2_171 : decode method_3_code 171 = .ok (.ireturn, 1) := by decide +kernel
theorem d3_0 : decode method_2_code 0 = .ok (.iload_n 0, 1) := by decide +kernel
theorem d3_1 : decode method_2_code 1 = .ok (.iload_n 1, 1) := by decide +kernel
theorem d3_2 : decode method_2_code 2 = .ok (.if_icmp .lt 12, 3) := by decide +kernel
theorem d3_5 : decode method_2_code 5 = .ok (.iload_n 0, 1) := by decide +kernel
theorem d3_6 : decode method_2_code 6 = .ok (.iload_n 2, 1) := by decide +kernel
theorem d3_7 : decode method_2_code 7 = .ok (.if_icmp .gt 7, 3) := by decide +kernel
theorem d3_10 : decode method_2_code 10 = .ok (.iconst 1, 1) := by decide +kernel
theorem d3_11 : decode method_2_code 11 = .ok (.goto 4, 3) := by decide +kernel
theorem d3_14 : decode method_2_code 14 = .ok (.iconst 0, 1) := by decide +kernel
theorem d3_15 : decode method_2_code 15 = .ok (.ireturn, 1) := by decide +kernel
theorem pd_III_Z : parseMethodDescriptor "(III)Z" = some ⟨[.int, .int, .int], some .boolean⟩ := by decide +kernel
theorem pd_I_Z : parseMethodDescriptor "(I)Z" = some ⟨[.int], some .boolean⟩ := by decide +kernel
theorem pn_XmlCharacters : plainName "com/example/frage/frage/xdm/XmlCharacters" = true := by first | (simp [plainName, overriddenIn]; done) | decide +kernel
theorem pn_XmlCharactersIsNameStartCharPinLaw : plainName "com/example/frage/frage/xdm/XmlCharactersIsNameStartCharPinLaw" = true := by first | (simp [plainName, overriddenIn]; done) | decide +kernel
abbrev own_ns (c : Int) : Prop := (65 ≤ c ∧ c ≤ 90) ∨ c = 95 ∨ (97 ≤ c ∧ c ≤ 122) ∨ (192 ≤ c ∧ c ≤ 214) ∨ (216 ≤ c ∧ c ≤ 246) ∨ (248 ≤ c ∧ c ≤ 767) ∨ (880 ≤ c ∧ c ≤ 893) ∨ (895 ≤ c ∧ c ≤ 8191) ∨ (8204 ≤ c ∧ c ≤ 8205) ∨ (8304 ≤ c ∧ c ≤ 8591) ∨ (11264 ≤ c ∧ c ≤ 12271) ∨ (12289 ≤ c ∧ c ≤ 55295) ∨ (63744 ≤ c ∧ c ≤ 64975) ∨ (65008 ≤ c ∧ c ≤ 65533) ∨ (65536 ≤ c ∧ c ≤ 983039)
set_option maxRecDepth 65536 in
set_option maxHeartbeats 40000000 in
theorem rm1 (l : Launch) (Z : State) (a0 : Array Value) (hw : ∀ d ∈ tables_1, d.before a0 Z = true) (ws : List Jvm.Cond) (p1 : Int32) (h0 : Heap) (n0 : Nat) (Z0 : n0 ≤ h0.size)  :
    own_Met l (⟨"com/example/frage/frage/xdm/XmlCharacters", "isNameStartChar", "(I)Z"⟩ : MethodName) prog_72_method_7_code 1 (some .boolean) ws ({ frames := 0, cells := 0, slots := 0, locals := 0 } : Room) #[(.int p1)] Z h0 (fun v h L => v = some (.int (if own_ns p1.toInt then 1 else 0)) ∧ Fr n0 L ∧ h = h0) := by
  refine own_body (plainFor_of_name pn_XmlCharacters) ?_
  intro p e s m below meth c s0 X0 hx hby hml hret hlk hown hnm hZ e0
  replace hown : s.vm.findClass "com/example/frage/frage/xdm/XmlCharacters" = some m.cls := hown
  have N0 := Fr.nil n0
  have ef : entryFrame m #[(.int p1)] 1 = (mkF m 0 #[.val (.int p1)] []) := by first | (simp [entryFrame, mkF, argsToLocals, Value.category, maxLocals]; done) | rfl
  rw [ef]
  show own_End p e below s _ _ _ (s0.setTop (mkF m 0 #[.val (.int p1)] []))
  refine own_join (fun G => ¬ ((65 ≤ p1.toInt ∧ p1.toInt ≤ 90) ∨ p1.toInt = 95 ∨ (97 ≤ p1.toInt ∧ p1.toInt ≤ 122) ∨ (192 ≤ p1.toInt ∧ p1.toInt ≤ 214) ∨ (216 ≤ p1.toInt ∧ p1.toInt ≤ 246) ∨ (248 ≤ p1.toInt ∧ p1.toInt ≤ 767) ∨ (880 ≤ p1.toInt ∧ p1.toInt ≤ 893) ∨ (895 ≤ p1.toInt ∧ p1.toInt ≤ 8191) ∨ (8204 ≤ p1.toInt ∧ p1.toInt ≤ 8205) ∨ (8304 ≤ p1.toInt ∧ p1.toInt ≤ 8591) ∨ (11264 ≤ p1.toInt ∧ p1.toInt ≤ 12271) ∨ (12289 ≤ p1.toInt ∧ p1.toInt ≤ 55295) ∨ (63744 ≤ p1.toInt ∧ p1.toInt ≤ 64975) ∨ (65008 ≤ p1.toInt ∧ p1.toInt ≤ 65533)) → G (s0.setTop (mkF m 179 #[.val (.int p1)] []))) ?_ ?_
  ·
    intro j_179
    show own_End p e below s _ _ _ (s0.setTop (mkF m 179 #[.val (.int p1)] []))
    refine own_go (fun t k => XS.iloadN X0.here hx rfl (hb hby d1_179) rfl k) ?_
    show own_End p e below s _ _ _ (s0.setTop (mkF m 180 #[.val (.int p1)] [(.int p1)]))
    refine own_go (X0.ldcInt (own := "com/example/frage/frage/xdm/XmlCharacters") (index := 67) (v := 65536) hx hown (mvT hZ (hw _ (List.mem_of_getElem? (i := 15) rfl))) (g := (mkF m 180 #[.val (.int p1)] [(.int p1)])) rfl (hb hby d1_180)) ?_
    show own_End p e below s _ _ _ (s0.setTop (mkF m 182 #[.val (.int p1)] [(.int (65536 : Int32)), (.int p1)]))
    by_cases q_182 : p1.toInt < 65536
    ·
      refine own_go (fun t k => XS.icmpYes X0.here hx rfl (pc0 := 182) (pc' := 195) rfl (hb hby d1_182) rfl (own_ltY (k := 65536) (by decide) q_182) (by decide) (by decide) k) ?_
      show own_End p e below s _ _ _ (s0.setTop (mkF m 195 #[.val (.int p1)] []))
      refine own_go (fun t k => XS.iconst X0.here hx rfl (hb hby d1_195) k) ?_
      show own_End p e below s _ _ _ (s0.setTop (mkF m 196 #[.val (.int p1)] [(.int (0 : Int32))]))
      exact own_retN X0 hx (t := .boolean) hret hlk (by simp) (hb hby d1_196) ⟨own_no (by omega), N0, e0⟩ (by decide) (by decide)
    refine own_go (fun t k => XS.icmpNo X0.here hx rfl (hb hby d1_182) rfl (own_ltN (k := 65536) (by decide) q_182) k) ?_
    show own_End p e below s _ _ _ (s0.setTop (mkF m 185 #[.val (.int p1)] []))
    refine own_go (fun t k => XS.iloadN X0.here hx rfl (hb hby d1_185) rfl k) ?_
    show own_End p e below s _ _ _ (s0.setTop (mkF m 186 #[.val (.int p1)] [(.int p1)]))
    refine own_go (X0.ldcInt (own := "com/example/frage/frage/xdm/XmlCharacters") (index := 68) (v := 983039) hx hown (mvT hZ (hw _ (List.mem_of_getElem? (i := 32) rfl))) (g := (mkF m 186 #[.val (.int p1)] [(.int p1)])) rfl (hb hby d1_186)) ?_
    show own_End p e below s _ _ _ (s0.setTop (mkF m 188 #[.val (.int p1)] [(.int (983039 : Int32)), (.int p1)]))
    by_cases q_188 : 983039 < p1.toInt
    ·
      refine own_go (fun t k => XS.icmpYes X0.here hx rfl (pc0 := 188) (pc' := 195) rfl (hb hby d1_188) rfl (own_gtY (k := 983039) (by decide) q_188) (by decide) (by decide) k) ?_
      show own_End p e below s _ _ _ (s0.setTop (mkF m 195 #[.val (.int p1)] []))
      refine own_go (fun t k => XS.iconst X0.here hx rfl (hb hby d1_195) k) ?_
      show own_End p e below s _ _ _ (s0.setTop (mkF m 196 #[.val (.int p1)] [(.int (0 : Int32))]))
      exact own_retN X0 hx (t := .boolean) hret hlk (by simp) (hb hby d1_196) ⟨own_no (by omega), N0, e0⟩ (by decide) (by decide)
    refine own_go (fun t k => XS.icmpNo X0.here hx rfl (hb hby d1_188) rfl (own_gtN (k := 983039) (by decide) q_188) k) ?_
    show own_End p e below s _ _ _ (s0.setTop (mkF m 191 #[.val (.int p1)] []))
    refine own_go (fun t k => XS.iconst X0.here hx rfl (hb hby d1_191) k) ?_
    show own_End p e below s _ _ _ (s0.setTop (mkF m 192 #[.val (.int p1)] [(.int (1 : Int32))]))
    refine own_go (fun t k => XS.goto X0.here hx rfl (pc0 := 192) (pc' := 196) rfl (hb hby d1_192) (by decide) (by decide) k) ?_
    show own_End p e below s _ _ _ (s0.setTop (mkF m 196 #[.val (.int p1)] [(.int (1 : Int32))]))
    exact own_retN X0 hx (t := .boolean) hret hlk (by simp) (hb hby d1_196) ⟨own_yes (by omega), N0, e0⟩ (by decide) (by decide)
  intro J_179
  show own_End p e below s _ _ _ (s0.setTop (mkF m 0 #[.val (.int p1)] []))
  refine own_join (fun G => ¬ ((65 ≤ p1.toInt ∧ p1.toInt ≤ 90) ∨ p1.toInt = 95 ∨ (97 ≤ p1.toInt ∧ p1.toInt ≤ 122) ∨ (192 ≤ p1.toInt ∧ p1.toInt ≤ 214) ∨ (216 ≤ p1.toInt ∧ p1.toInt ≤ 246) ∨ (248 ≤ p1.toInt ∧ p1.toInt ≤ 767) ∨ (880 ≤ p1.toInt ∧ p1.toInt ≤ 893) ∨ (895 ≤ p1.toInt ∧ p1.toInt ≤ 8191) ∨ (8204 ≤ p1.toInt ∧ p1.toInt ≤ 8205) ∨ (8304 ≤ p1.toInt ∧ p1.toInt ≤ 8591) ∨ (11264 ≤ p1.toInt ∧ p1.toInt ≤ 12271) ∨ (12289 ≤ p1.toInt ∧ p1.toInt ≤ 55295) ∨ (63744 ≤ p1.toInt ∧ p1.toInt ≤ 64975)) → G (s0.setTop (mkF m 167 #[.val (.int p1)] []))) ?_ ?_
  ·
    intro j_167
    show own_End p e below s _ _ _ (s0.setTop (mkF m 167 #[.val (.int p1)] []))
    refine own_go (fun t k => XS.iloadN X0.here hx rfl (hb hby d1_167) rfl k) ?_
    show own_End p e below s _ _ _ (s0.setTop (mkF m 168 #[.val (.int p1)] [(.int p1)]))
    refine own_go (X0.ldcInt (own := "com/example/frage/frage/xdm/XmlCharacters") (index := 65) (v := 65008) hx hown (mvT hZ (hw _ (List.mem_of_getElem? (i := 14) rfl))) (g := (mkF m 168 #[.val (.int p1)] [(.int p1)])) rfl (hb hby d1_168)) ?_
    show own_End p e below s _ _ _ (s0.setTop (mkF m 170 #[.val (.int p1)] [(.int (65008 : Int32)), (.int p1)]))
    by_cases q_170 : p1.toInt < 65008
    ·
      refine own_go (fun t k => XS.icmpYes X0.here hx rfl (pc0 := 170) (pc' := 179) rfl (hb hby d1_170) rfl (own_ltY (k := 65008) (by decide) q_170) (by decide) (by decide) k) ?_
      show own_End p e below s _ _ _ (s0.setTop (mkF m 179 #[.val (.int p1)] []))
      exact J_179 (by omega)
    refine own_go (fun t k => XS.icmpNo X0.here hx rfl (hb hby d1_170) rfl (own_ltN (k := 65008) (by decide) q_170) k) ?_
    show own_End p e below s _ _ _ (s0.setTop (mkF m 173 #[.val (.int p1)] []))
    refine own_go (fun t k => XS.iloadN X0.here hx rfl (hb hby d1_173) rfl k) ?_
    show own_End p e below s _ _ _ (s0.setTop (mkF m 174 #[.val (.int p1)] [(.int p1)]))
    refine own_go (X0.ldcInt (own := "com/example/frage/frage/xdm/XmlCharacters") (index := 66) (v := 65533) hx hown (mvT hZ (hw _ (List.mem_of_getElem? (i := 31) rfl))) (g := (mkF m 174 #[.val (.int p1)] [(.int p1)])) rfl (hb hby d1_174)) ?_
    show own_End p e below s _ _ _ (s0.setTop (mkF m 176 #[.val (.int p1)] [(.int (65533 : Int32)), (.int p1)]))
    by_cases q_176 : p1.toInt ≤ 65533
    ·
      refine own_go (fun t k => XS.icmpYes X0.here hx rfl (pc0 := 176) (pc' := 191) rfl (hb hby d1_176) rfl (own_leY (k := 65533) (by decide) q_176) (by decide) (by decide) k) ?_
      show own_End p e below s _ _ _ (s0.setTop (mkF m 191 #[.val (.int p1)] []))
      refine own_go (fun t k => XS.iconst X0.here hx rfl (hb hby d1_191) k) ?_
      show own_End p e below s _ _ _ (s0.setTop (mkF m 192 #[.val (.int p1)] [(.int (1 : Int32))]))
      refine own_go (fun t k => XS.goto X0.here hx rfl (pc0 := 192) (pc' := 196) rfl (hb hby d1_192) (by decide) (by decide) k) ?_
      show own_End p e below s _ _ _ (s0.setTop (mkF m 196 #[.val (.int p1)] [(.int (1 : Int32))]))
      exact own_retN X0 hx (t := .boolean) hret hlk (by simp) (hb hby d1_196) ⟨own_yes (by omega), N0, e0⟩ (by decide) (by decide)
    refine own_go (fun t k => XS.icmpNo X0.here hx rfl (hb hby d1_176) rfl (own_leN (k := 65533) (by decide) q_176) k) ?_
    show own_End p e below s _ _ _ (s0.setTop (mkF m 179 #[.val (.int p1)] []))
    exact J_179 (by omega)
  intro J_167
  show own_End p e below s _ _ _ (s0.setTop (mkF m 0 #[.val (.int p1)] []))
  refine own_join (fun G => ¬ ((65 ≤ p1.toInt ∧ p1.toInt ≤ 90) ∨ p1.toInt = 95 ∨ (97 ≤ p1.toInt ∧ p1.toInt ≤ 122) ∨ (192 ≤ p1.toInt ∧ p1.toInt ≤ 214) ∨ (216 ≤ p1.toInt ∧ p1.toInt ≤ 246) ∨ (248 ≤ p1.toInt ∧ p1.toInt ≤ 767) ∨ (880 ≤ p1.toInt ∧ p1.toInt ≤ 893) ∨ (895 ≤ p1.toInt ∧ p1.toInt ≤ 8191) ∨ (8204 ≤ p1.toInt ∧ p1.toInt ≤ 8205) ∨ (8304 ≤ p1.toInt ∧ p1.toInt ≤ 8591) ∨ (11264 ≤ p1.toInt ∧ p1.toInt ≤ 12271) ∨ (12289 ≤ p1.toInt ∧ p1.toInt ≤ 55295)) → G (s0.setTop (mkF m 155 #[.val (.int p1)] []))) ?_ ?_
  ·
    intro j_155
    show own_End p e below s _ _ _ (s0.setTop (mkF m 155 #[.val (.int p1)] []))
    refine own_go (fun t k => XS.iloadN X0.here hx rfl (hb hby d1_155) rfl k) ?_
    show own_End p e below s _ _ _ (s0.setTop (mkF m 156 #[.val (.int p1)] [(.int p1)]))
    refine own_go (X0.ldcInt (own := "com/example/frage/frage/xdm/XmlCharacters") (index := 63) (v := 63744) hx hown (mvT hZ (hw _ (List.mem_of_getElem? (i := 13) rfl))) (g := (mkF m 156 #[.val (.int p1)] [(.int p1)])) rfl (hb hby d1_156)) ?_
    show own_End p e below s _ _ _ (s0.setTop (mkF m 158 #[.val (.int p1)] [(.int (63744 : Int32)), (.int p1)]))
    by_cases q_158 : p1.toInt < 63744
    ·
      refine own_go (fun t k => XS.icmpYes X0.here hx rfl (pc0 := 158) (pc' := 167) rfl (hb hby d1_158) rfl (own_ltY (k := 63744) (by decide) q_158) (by decide) (by decide) k) ?_
      show own_End p e below s _ _ _ (s0.setTop (mkF m 167 #[.val (.int p1)] []))
      exact J_167 (by omega)
    refine own_go (fun t k => XS.icmpNo X0.here hx rfl (hb hby d1_158) rfl (own_ltN (k := 63744) (by decide) q_158) k) ?_
    show own_End p e below s _ _ _ (s0.setTop (mkF m 161 #[.val (.int p1)] []))
    refine own_go (fun t k => XS.iloadN X0.here hx rfl (hb hby d1_161) rfl k) ?_
    show own_End p e below s _ _ _ (s0.setTop (mkF m 162 #[.val (.int p1)] [(.int p1)]))
    refine own_go (X0.ldcInt (own := "com/example/frage/frage/xdm/XmlCharacters") (index := 64) (v := 64975) hx hown (mvT hZ (hw _ (List.mem_of_getElem? (i := 30) rfl))) (g := (mkF m 162 #[.val (.int p1)] [(.int p1)])) rfl (hb hby d1_162)) ?_
    show own_End p e below s _ _ _ (s0.setTop (mkF m 164 #[.val (.int p1)] [(.int (64975 : Int32)), (.int p1)]))
    by_cases q_164 : p1.toInt ≤ 64975
    ·
      refine own_go (fun t k => XS.icmpYes X0.here hx rfl (pc0 := 164) (pc' := 191) rfl (hb hby d1_164) rfl (own_leY (k := 64975) (by decide) q_164) (by decide) (by decide) k) ?_
      show own_End p e below s _ _ _ (s0.setTop (mkF m 191 #[.val (.int p1)] []))
      refine own_go (fun t k => XS.iconst X0.here hx rfl (hb hby d1_191) k) ?_
      show own_End p e below s _ _ _ (s0.setTop (mkF m 192 #[.val (.int p1)] [(.int (1 : Int32))]))
      refine own_go (fun t k => XS.goto X0.here hx rfl (pc0 := 192) (pc' := 196) rfl (hb hby d1_192) (by decide) (by decide) k) ?_
      show own_End p e below s _ _ _ (s0.setTop (mkF m 196 #[.val (.int p1)] [(.int (1 : Int32))]))
      exact own_retN X0 hx (t := .boolean) hret hlk (by simp) (hb hby d1_196) ⟨own_yes (by omega), N0, e0⟩ (by decide) (by decide)
    refine own_go (fun t k => XS.icmpNo X0.here hx rfl (hb hby d1_164) rfl (own_leN (k := 64975) (by decide) q_164) k) ?_
    show own_End p e below s _ _ _ (s0.setTop (mkF m 167 #[.val (.int p1)] []))
    exact J_167 (by omega)
  intro J_155
  show own_End p e below s _ _ _ (s0.setTop (mkF m 0 #[.val (.int p1)] []))
  refine own_join (fun G => ¬ ((65 ≤ p1.toInt ∧ p1.toInt ≤ 90) ∨ p1.toInt = 95 ∨ (97 ≤ p1.toInt ∧ p1.toInt ≤ 122) ∨ (192 ≤ p1.toInt ∧ p1.toInt ≤ 214) ∨ (216 ≤ p1.toInt ∧ p1.toInt ≤ 246) ∨ (248 ≤ p1.toInt ∧ p1.toInt ≤ 767) ∨ (880 ≤ p1.toInt ∧ p1.toInt ≤ 893) ∨ (895 ≤ p1.toInt ∧ p1.toInt ≤ 8191) ∨ (8204 ≤ p1.toInt ∧ p1.toInt ≤ 8205) ∨ (8304 ≤ p1.toInt ∧ p1.toInt ≤ 8591) ∨ (11264 ≤ p1.toInt ∧ p1.toInt ≤ 12271)) → G (s0.setTop (mkF m 142 #[.val (.int p1)] []))) ?_ ?_
  ·
    intro j_142
    show own_End p e below s _ _ _ (s0.setTop (mkF m 142 #[.val (.int p1)] []))
    refine own_go (fun t k => XS.iloadN X0.here hx rfl (hb hby d1_142) rfl k) ?_
    show own_End p e below s _ _ _ (s0.setTop (mkF m 143 #[.val (.int p1)] [(.int p1)]))
    refine own_go (fun t k => XS.sipush X0.here hx rfl (hb hby d1_143) k) ?_
    show own_End p e below s _ _ _ (s0.setTop (mkF m 146 #[.val (.int p1)] [(.int (12289 : Int32)), (.int p1)]))
    by_cases q_146 : p1.toInt < 12289
    ·
      refine own_go (fun t k => XS.icmpYes X0.here hx rfl (pc0 := 146) (pc' := 155) rfl (hb hby d1_146) rfl (own_ltY (k := 12289) (by decide) q_146) (by decide) (by decide) k) ?_
      show own_End p e below s _ _ _ (s0.setTop (mkF m 155 #[.val (.int p1)] []))
      exact J_155 (by omega)
    refine own_go (fun t k => XS.icmpNo X0.here hx rfl (hb hby d1_146) rfl (own_ltN (k := 12289) (by decide) q_146) k) ?_
    show own_End p e below s _ _ _ (s0.setTop (mkF m 149 #[.val (.int p1)] []))
    refine own_go (fun t k => XS.iloadN X0.here hx rfl (hb hby d1_149) rfl k) ?_
    show own_End p e below s _ _ _ (s0.setTop (mkF m 150 #[.val (.int p1)] [(.int p1)]))
    refine own_go (X0.ldcInt (own := "com/example/frage/frage/xdm/XmlCharacters") (index := 62) (v := 55295) hx hown (mvT hZ (hw _ (List.mem_of_getElem? (i := 29) rfl))) (g := (mkF m 150 #[.val (.int p1)] [(.int p1)])) rfl (hb hby d1_150)) ?_
    show own_End p e below s _ _ _ (s0.setTop (mkF m 152 #[.val (.int p1)] [(.int (55295 : Int32)), (.int p1)]))
    by_cases q_152 : p1.toInt ≤ 55295
    ·
      refine own_go (fun t k => XS.icmpYes X0.here hx rfl (pc0 := 152) (pc' := 191) rfl (hb hby d1_152) rfl (own_leY (k := 55295) (by decide) q_152) (by decide) (by decide) k) ?_
      show own_End p e below s _ _ _ (s0.setTop (mkF m 191 #[.val (.int p1)] []))
      refine own_go (fun t k => XS.iconst X0.here hx rfl (hb hby d1_191) k) ?_
      show own_End p e below s _ _ _ (s0.setTop (mkF m 192 #[.val (.int p1)] [(.int (1 : Int32))]))
      refine own_go (fun t k => XS.goto X0.here hx rfl (pc0 := 192) (pc' := 196) rfl (hb hby d1_192) (by decide) (by decide) k) ?_
      show own_End p e below s _ _ _ (s0.setTop (mkF m 196 #[.val (.int p1)] [(.int (1 : Int32))]))
      exact own_retN X0 hx (t := .boolean) hret hlk (by simp) (hb hby d1_196) ⟨own_yes (by omega), N0, e0⟩ (by decide) (by decide)
    refine own_go (fun t k => XS.icmpNo X0.here hx rfl (hb hby d1_152) rfl (own_leN (k := 55295) (by decide) q_152) k) ?_
    show own_End p e below s _ _ _ (s0.setTop (mkF m 155 #[.val (.int p1)] []))
    exact J_155 (by omega)
  intro J_142
  show own_End p e below s _ _ _ (s0.setTop (mkF m 0 #[.val (.int p1)] []))
  refine own_join (fun G => ¬ ((65 ≤ p1.toInt ∧ p1.toInt ≤ 90) ∨ p1.toInt = 95 ∨ (97 ≤ p1.toInt ∧ p1.toInt ≤ 122) ∨ (192 ≤ p1.toInt ∧ p1.toInt ≤ 214) ∨ (216 ≤ p1.toInt ∧ p1.toInt ≤ 246) ∨ (248 ≤ p1.toInt ∧ p1.toInt ≤ 767) ∨ (880 ≤ p1.toInt ∧ p1.toInt ≤ 893) ∨ (895 ≤ p1.toInt ∧ p1.toInt ≤ 8191) ∨ (8204 ≤ p1.toInt ∧ p1.toInt ≤ 8205) ∨ (8304 ≤ p1.toInt ∧ p1.toInt ≤ 8591)) → G (s0.setTop (mkF m 128 #[.val (.int p1)] []))) ?_ ?_
  ·
    intro j_128
    show own_End p e below s _ _ _ (s0.setTop (mkF m 128 #[.val (.int p1)] []))
    refine own_go (fun t k => XS.iloadN X0.here hx rfl (hb hby d1_128) rfl k) ?_
    show own_End p e below s _ _ _ (s0.setTop (mkF m 129 #[.val (.int p1)] [(.int p1)]))
    refine own_go (fun t k => XS.sipush X0.here hx rfl (hb hby d1_129) k) ?_
    show own_End p e below s _ _ _ (s0.setTop (mkF m 132 #[.val (.int p1)] [(.int (11264 : Int32)), (.int p1)]))
    by_cases q_132 : p1.toInt < 11264
    ·
      refine own_go (fun t k => XS.icmpYes X0.here hx rfl (pc0 := 132) (pc' := 142) rfl (hb hby d1_132) rfl (own_ltY (k := 11264) (by decide) q_132) (by decide) (by decide) k) ?_
      show own_End p e below s _ _ _ (s0.setTop (mkF m 142 #[.val (.int p1)] []))
      exact J_142 (by omega)
    refine own_go (fun t k => XS.icmpNo X0.here hx rfl (hb hby d1_132) rfl (own_ltN (k := 11264) (by decide) q_132) k) ?_
    show own_End p e below s _ _ _ (s0.setTop (mkF m 135 #[.val (.int p1)] []))
    refine own_go (fun t k => XS.iloadN X0.here hx rfl (hb hby d1_135) rfl k) ?_
    show own_End p e below s _ _ _ (s0.setTop (mkF m 136 #[.val (.int p1)] [(.int p1)]))
    refine own_go (fun t k => XS.sipush X0.here hx rfl (hb hby d1_136) k) ?_
    show own_End p e below s _ _ _ (s0.setTop (mkF m 139 #[.val (.int p1)] [(.int (12271 : Int32)), (.int p1)]))
    by_cases q_139 : p1.toInt ≤ 12271
    ·
      refine own_go (fun t k => XS.icmpYes X0.here hx rfl (pc0 := 139) (pc' := 191) rfl (hb hby d1_139) rfl (own_leY (k := 12271) (by decide) q_139) (by decide) (by decide) k) ?_
      show own_End p e below s _ _ _ (s0.setTop (mkF m 191 #[.val (.int p1)] []))
      refine own_go (fun t k => XS.iconst X0.here hx rfl (hb hby d1_191) k) ?_
      show own_End p e below s _ _ _ (s0.setTop (mkF m 192 #[.val (.int p1)] [(.int (1 : Int32))]))
      refine own_go (fun t k => XS.goto X0.here hx rfl (pc0 := 192) (pc' := 196) rfl (hb hby d1_192) (by decide) (by decide) k) ?_
      show own_End p e below s _ _ _ (s0.setTop (mkF m 196 #[.val (.int p1)] [(.int (1 : Int32))]))
      exact own_retN X0 hx (t := .boolean) hret hlk (by simp) (hb hby d1_196) ⟨own_yes (by omega), N0, e0⟩ (by decide) (by decide)
    refine own_go (fun t k => XS.icmpNo X0.here hx rfl (hb hby d1_139) rfl (own_leN (k := 12271) (by decide) q_139) k) ?_
    show own_End p e below s _ _ _ (s0.setTop (mkF m 142 #[.val (.int p1)] []))
    exact J_142 (by omega)
  intro J_128
  show own_End p e below s _ _ _ (s0.setTop (mkF m 0 #[.val (.int p1)] []))
  refine own_join (fun G => ¬ ((65 ≤ p1.toInt ∧ p1.toInt ≤ 90) ∨ p1.toInt = 95 ∨ (97 ≤ p1.toInt ∧ p1.toInt ≤ 122) ∨ (192 ≤ p1.toInt ∧ p1.toInt ≤ 214) ∨ (216 ≤ p1.toInt ∧ p1.toInt ≤ 246) ∨ (248 ≤ p1.toInt ∧ p1.toInt ≤ 767) ∨ (880 ≤ p1.toInt ∧ p1.toInt ≤ 893) ∨ (895 ≤ p1.toInt ∧ p1.toInt ≤ 8191) ∨ (8204 ≤ p1.toInt ∧ p1.toInt ≤ 8205)) → G (s0.setTop (mkF m 114 #[.val (.int p1)] []))) ?_ ?_
  ·
    intro j_114
    show own_End p e below s _ _ _ (s0.setTop (mkF m 114 #[.val (.int p1)] []))
    refine own_go (fun t k => XS.iloadN X0.here hx rfl (hb hby d1_114) rfl k) ?_
    show own_End p e below s _ _ _ (s0.setTop (mkF m 115 #[.val (.int p1)] [(.int p1)]))
    refine own_go (fun t k => XS.sipush X0.here hx rfl (hb hby d1_115) k) ?_
    show own_End p e below s _ _ _ (s0.setTop (mkF m 118 #[.val (.int p1)] [(.int (8304 : Int32)), (.int p1)]))
    by_cases q_118 : p1.toInt < 8304
    ·
      refine own_go (fun t k => XS.icmpYes X0.here hx rfl (pc0 := 118) (pc' := 128) rfl (hb hby d1_118) rfl (own_ltY (k := 8304) (by decide) q_118) (by decide) (by decide) k) ?_
      show own_End p e below s _ _ _ (s0.setTop (mkF m 128 #[.val (.int p1)] []))
      exact J_128 (by omega)
    refine own_go (fun t k => XS.icmpNo X0.here hx rfl (hb hby d1_118) rfl (own_ltN (k := 8304) (by decide) q_118) k) ?_
    show own_End p e below s _ _ _ (s0.setTop (mkF m 121 #[.val (.int p1)] []))
    refine own_go (fun t k => XS.iloadN X0.here hx rfl (hb hby d1_121) rfl k) ?_
    show own_End p e below s _ _ _ (s0.setTop (mkF m 122 #[.val (.int p1)] [(.int p1)]))
    refine own_go (fun t k => XS.sipush X0.here hx rfl (hb hby d1_122) k) ?_
    show own_End p e below s _ _ _ (s0.setTop (mkF m 125 #[.val (.int p1)] [(.int (8591 : Int32)), (.int p1)]))
    by_cases q_125 : p1.toInt ≤ 8591
    ·
      refine own_go (fun t k => XS.icmpYes X0.here hx rfl (pc0 := 125) (pc' := 191) rfl (hb hby d1_125) rfl (own_leY (k := 8591) (by decide) q_125) (by decide) (by decide) k) ?_
      show own_End p e below s _ _ _ (s0.setTop (mkF m 191 #[.val (.int p1)] []))
      refine own_go (fun t k => XS.iconst X0.here hx rfl (hb hby d1_191) k) ?_
      show own_End p e below s _ _ _ (s0.setTop (mkF m 192 #[.val (.int p1)] [(.int (1 : Int32))]))
      refine own_go (fun t k => XS.goto X0.here hx rfl (pc0 := 192) (pc' := 196) rfl (hb hby d1_192) (by decide) (by decide) k) ?_
      show own_End p e below s _ _ _ (s0.setTop (mkF m 196 #[.val (.int p1)] [(.int (1 : Int32))]))
      exact own_retN X0 hx (t := .boolean) hret hlk (by simp) (hb hby d1_196) ⟨own_yes (by omega), N0, e0⟩ (by decide) (by decide)
    refine own_go (fun t k => XS.icmpNo X0.here hx rfl (hb hby d1_125) rfl (own_leN (k := 8591) (by decide) q_125) k) ?_
    show own_End p e below s _ _ _ (s0.setTop (mkF m 128 #[.val (.int p1)] []))
    exact J_128 (by omega)
  intro J_114
  show own_End p e below s _ _ _ (s0.setTop (mkF m 0 #[.val (.int p1)] []))
  refine own_join (fun G => ¬ ((65 ≤ p1.toInt ∧ p1.toInt ≤ 90) ∨ p1.toInt = 95 ∨ (97 ≤ p1.toInt ∧ p1.toInt ≤ 122) ∨ (192 ≤ p1.toInt ∧ p1.toInt ≤ 214) ∨ (216 ≤ p1.toInt ∧ p1.toInt ≤ 246) ∨ (248 ≤ p1.toInt ∧ p1.toInt ≤ 767) ∨ (880 ≤ p1.toInt ∧ p1.toInt ≤ 893) ∨ (895 ≤ p1.toInt ∧ p1.toInt ≤ 8191)) → G (s0.setTop (mkF m 100 #[.val (.int p1)] []))) ?_ ?_
  ·
    intro j_100
    show own_End p e below s _ _ _ (s0.setTop (mkF m 100 #[.val (.int p1)] []))
    refine own_go (fun t k => XS.iloadN X0.here hx rfl (hb hby d1_100) rfl k) ?_
    show own_End p e below s _ _ _ (s0.setTop (mkF m 101 #[.val (.int p1)] [(.int p1)]))
    refine own_go (fun t k => XS.sipush X0.here hx rfl (hb hby d1_101) k) ?_
    show own_End p e below s _ _ _ (s0.setTop (mkF m 104 #[.val (.int p1)] [(.int (8204 : Int32)), (.int p1)]))
    by_cases q_104 : p1.toInt < 8204
    ·
      refine own_go (fun t k => XS.icmpYes X0.here hx rfl (pc0 := 104) (pc' := 114) rfl (hb hby d1_104) rfl (own_ltY (k := 8204) (by decide) q_104) (by decide) (by decide) k) ?_
      show own_End p e below s _ _ _ (s0.setTop (mkF m 114 #[.val (.int p1)] []))
      exact J_114 (by omega)
    refine own_go (fun t k => XS.icmpNo X0.here hx rfl (hb hby d1_104) rfl (own_ltN (k := 8204) (by decide) q_104) k) ?_
    show own_End p e below s _ _ _ (s0.setTop (mkF m 107 #[.val (.int p1)] []))
    refine own_go (fun t k => XS.iloadN X0.here hx rfl (hb hby d1_107) rfl k) ?_
    show own_End p e below s _ _ _ (s0.setTop (mkF m 108 #[.val (.int p1)] [(.int p1)]))
    refine own_go (fun t k => XS.sipush X0.here hx rfl (hb hby d1_108) k) ?_
    show own_End p e below s _ _ _ (s0.setTop (mkF m 111 #[.val (.int p1)] [(.int (8205 : Int32)), (.int p1)]))
    by_cases q_111 : p1.toInt ≤ 8205
    ·
      refine own_go (fun t k => XS.icmpYes X0.here hx rfl (pc0 := 111) (pc' := 191) rfl (hb hby d1_111) rfl (own_leY (k := 8205) (by decide) q_111) (by decide) (by decide) k) ?_
      show own_End p e below s _ _ _ (s0.setTop (mkF m 191 #[.val (.int p1)] []))
      refine own_go (fun t k => XS.iconst X0.here hx rfl (hb hby d1_191) k) ?_
      show own_End p e below s _ _ _ (s0.setTop (mkF m 192 #[.val (.int p1)] [(.int (1 : Int32))]))
      refine own_go (fun t k => XS.goto X0.here hx rfl (pc0 := 192) (pc' := 196) rfl (hb hby d1_192) (by decide) (by decide) k) ?_
      show own_End p e below s _ _ _ (s0.setTop (mkF m 196 #[.val (.int p1)] [(.int (1 : Int32))]))
      exact own_retN X0 hx (t := .boolean) hret hlk (by simp) (hb hby d1_196) ⟨own_yes (by omega), N0, e0⟩ (by decide) (by decide)
    refine own_go (fun t k => XS.icmpNo X0.here hx rfl (hb hby d1_111) rfl (own_leN (k := 8205) (by decide) q_111) k) ?_
    show own_End p e below s _ _ _ (s0.setTop (mkF m 114 #[.val (.int p1)] []))
    exact J_114 (by omega)
  intro J_100
  show own_End p e below s _ _ _ (s0.setTop (mkF m 0 #[.val (.int p1)] []))
  refine own_join (fun G => ¬ ((65 ≤ p1.toInt ∧ p1.toInt ≤ 90) ∨ p1.toInt = 95 ∨ (97 ≤ p1.toInt ∧ p1.toInt ≤ 122) ∨ (192 ≤ p1.toInt ∧ p1.toInt ≤ 214) ∨ (216 ≤ p1.toInt ∧ p1.toInt ≤ 246) ∨ (248 ≤ p1.toInt ∧ p1.toInt ≤ 767) ∨ (880 ≤ p1.toInt ∧ p1.toInt ≤ 893)) → G (s0.setTop (mkF m 86 #[.val (.int p1)] []))) ?_ ?_
  ·
    intro j_86
    show own_End p e below s _ _ _ (s0.setTop (mkF m 86 #[.val (.int p1)] []))
    refine own_go (fun t k => XS.iloadN X0.here hx rfl (hb hby d1_86) rfl k) ?_
    show own_End p e below s _ _ _ (s0.setTop (mkF m 87 #[.val (.int p1)] [(.int p1)]))
    refine own_go (fun t k => XS.sipush X0.here hx rfl (hb hby d1_87) k) ?_
    show own_End p e below s _ _ _ (s0.setTop (mkF m 90 #[.val (.int p1)] [(.int (895 : Int32)), (.int p1)]))
    by_cases q_90 : p1.toInt < 895
    ·
      refine own_go (fun t k => XS.icmpYes X0.here hx rfl (pc0 := 90) (pc' := 100) rfl (hb hby d1_90) rfl (own_ltY (k := 895) (by decide) q_90) (by decide) (by decide) k) ?_
      show own_End p e below s _ _ _ (s0.setTop (mkF m 100 #[.val (.int p1)] []))
      exact J_100 (by omega)
    refine own_go (fun t k => XS.icmpNo X0.here hx rfl (hb hby d1_90) rfl (own_ltN (k := 895) (by decide) q_90) k) ?_
    show own_End p e below s _ _ _ (s0.setTop (mkF m 93 #[.val (.int p1)] []))
    refine own_go (fun t k => XS.iloadN X0.here hx rfl (hb hby d1_93) rfl k) ?_
    show own_End p e below s _ _ _ (s0.setTop (mkF m 94 #[.val (.int p1)] [(.int p1)]))
    refine own_go (fun t k => XS.sipush X0.here hx rfl (hb hby d1_94) k) ?_
    show own_End p e below s _ _ _ (s0.setTop (mkF m 97 #[.val (.int p1)] [(.int (8191 : Int32)), (.int p1)]))
    by_cases q_97 : p1.toInt ≤ 8191
    ·
      refine own_go (fun t k => XS.icmpYes X0.here hx rfl (pc0 := 97) (pc' := 191) rfl (hb hby d1_97) rfl (own_leY (k := 8191) (by decide) q_97) (by decide) (by decide) k) ?_
      show own_End p e below s _ _ _ (s0.setTop (mkF m 191 #[.val (.int p1)] []))
      refine own_go (fun t k => XS.iconst X0.here hx rfl (hb hby d1_191) k) ?_
      show own_End p e below s _ _ _ (s0.setTop (mkF m 192 #[.val (.int p1)] [(.int (1 : Int32))]))
      refine own_go (fun t k => XS.goto X0.here hx rfl (pc0 := 192) (pc' := 196) rfl (hb hby d1_192) (by decide) (by decide) k) ?_
      show own_End p e below s _ _ _ (s0.setTop (mkF m 196 #[.val (.int p1)] [(.int (1 : Int32))]))
      exact own_retN X0 hx (t := .boolean) hret hlk (by simp) (hb hby d1_196) ⟨own_yes (by omega), N0, e0⟩ (by decide) (by decide)
    refine own_go (fun t k => XS.icmpNo X0.here hx rfl (hb hby d1_97) rfl (own_leN (k := 8191) (by decide) q_97) k) ?_
    show own_End p e below s _ _ _ (s0.setTop (mkF m 100 #[.val (.int p1)] []))
    exact J_100 (by omega)
  intro J_86
  show own_End p e below s _ _ _ (s0.setTop (mkF m 0 #[.val (.int p1)] []))
  refine own_join (fun G => ¬ ((65 ≤ p1.toInt ∧ p1.toInt ≤ 90) ∨ p1.toInt = 95 ∨ (97 ≤ p1.toInt ∧ p1.toInt ≤ 122) ∨ (192 ≤ p1.toInt ∧ p1.toInt ≤ 214) ∨ (216 ≤ p1.toInt ∧ p1.toInt ≤ 246) ∨ (248 ≤ p1.toInt ∧ p1.toInt ≤ 767)) → G (s0.setTop (mkF m 72 #[.val (.int p1)] []))) ?_ ?_
  ·
    intro j_72
    show own_End p e below s _ _ _ (s0.setTop (mkF m 72 #[.val (.int p1)] []))
    refine own_go (fun t k => XS.iloadN X0.here hx rfl (hb hby d1_72) rfl k) ?_
    show own_End p e below s _ _ _ (s0.setTop (mkF m 73 #[.val (.int p1)] [(.int p1)]))
    refine own_go (fun t k => XS.sipush X0.here hx rfl (hb hby d1_73) k) ?_
    show own_End p e below s _ _ _ (s0.setTop (mkF m 76 #[.val (.int p1)] [(.int (880 : Int32)), (.int p1)]))
    by_cases q_76 : p1.toInt < 880
    ·
      refine own_go (fun t k => XS.icmpYes X0.here hx rfl (pc0 := 76) (pc' := 86) rfl (hb hby d1_76) rfl (own_ltY (k := 880) (by decide) q_76) (by decide) (by decide) k) ?_
      show own_End p e below s _ _ _ (s0.setTop (mkF m 86 #[.val (.int p1)] []))
      exact J_86 (by omega)
    refine own_go (fun t k => XS.icmpNo X0.here hx rfl (hb hby d1_76) rfl (own_ltN (k := 880) (by decide) q_76) k) ?_
    show own_End p e below s _ _ _ (s0.setTop (mkF m 79 #[.val (.int p1)] []))
    refine own_go (fun t k => XS.iloadN X0.here hx rfl (hb hby d1_79) rfl k) ?_
    show own_End p e below s _ _ _ (s0.setTop (mkF m 80 #[.val (.int p1)] [(.int p1)]))
    refine own_go (fun t k => XS.sipush X0.here hx rfl (hb hby d1_80) k) ?_
    show own_End p e below s _ _ _ (s0.setTop (mkF m 83 #[.val (.int p1)] [(.int (893 : Int32)), (.int p1)]))
    by_cases q_83 : p1.toInt ≤ 893
    ·
      refine own_go (fun t k => XS.icmpYes X0.here hx rfl (pc0 := 83) (pc' := 191) rfl (hb hby d1_83) rfl (own_leY (k := 893) (by decide) q_83) (by decide) (by decide) k) ?_
      show own_End p e below s _ _ _ (s0.setTop (mkF m 191 #[.val (.int p1)] []))
      refine own_go (fun t k => XS.iconst X0.here hx rfl (hb hby d1_191) k) ?_
      show own_End p e below s _ _ _ (s0.setTop (mkF m 192 #[.val (.int p1)] [(.int (1 : Int32))]))
      refine own_go (fun t k => XS.goto X0.here hx rfl (pc0 := 192) (pc' := 196) rfl (hb hby d1_192) (by decide) (by decide) k) ?_
      show own_End p e below s _ _ _ (s0.setTop (mkF m 196 #[.val (.int p1)] [(.int (1 : Int32))]))
      exact own_retN X0 hx (t := .boolean) hret hlk (by simp) (hb hby d1_196) ⟨own_yes (by omega), N0, e0⟩ (by decide) (by decide)
    refine own_go (fun t k => XS.icmpNo X0.here hx rfl (hb hby d1_83) rfl (own_leN (k := 893) (by decide) q_83) k) ?_
    show own_End p e below s _ _ _ (s0.setTop (mkF m 86 #[.val (.int p1)] []))
    exact J_86 (by omega)
  intro J_72
  show own_End p e below s _ _ _ (s0.setTop (mkF m 0 #[.val (.int p1)] []))
  refine own_join (fun G => ¬ ((65 ≤ p1.toInt ∧ p1.toInt ≤ 90) ∨ p1.toInt = 95 ∨ (97 ≤ p1.toInt ∧ p1.toInt ≤ 122) ∨ (192 ≤ p1.toInt ∧ p1.toInt ≤ 214) ∨ (216 ≤ p1.toInt ∧ p1.toInt ≤ 246)) → G (s0.setTop (mkF m 58 #[.val (.int p1)] []))) ?_ ?_
  ·
    intro j_58
    show own_End p e below s _ _ _ (s0.setTop (mkF m 58 #[.val (.int p1)] []))
    refine own_go (fun t k => XS.iloadN X0.here hx rfl (hb hby d1_58) rfl k) ?_
    show own_End p e below s _ _ _ (s0.setTop (mkF m 59 #[.val (.int p1)] [(.int p1)]))
    refine own_go (fun t k => XS.sipush X0.here hx rfl (hb hby d1_59) k) ?_
    show own_End p e below s _ _ _ (s0.setTop (mkF m 62 #[.val (.int p1)] [(.int (248 : Int32)), (.int p1)]))
    by_cases q_62 : p1.toInt < 248
    ·
      refine own_go (fun t k => XS.icmpYes X0.here hx rfl (pc0 := 62) (pc' := 72) rfl (hb hby d1_62) rfl (own_ltY (k := 248) (by decide) q_62) (by decide) (by decide) k) ?_
      show own_End p e below s _ _ _ (s0.setTop (mkF m 72 #[.val (.int p1)] []))
      exact J_72 (by omega)
    refine own_go (fun t k => XS.icmpNo X0.here hx rfl (hb hby d1_62) rfl (own_ltN (k := 248) (by decide) q_62) k) ?_
    show own_End p e below s _ _ _ (s0.setTop (mkF m 65 #[.val (.int p1)] []))
    refine own_go (fun t k => XS.iloadN X0.here hx rfl (hb hby d1_65) rfl k) ?_
    show own_End p e below s _ _ _ (s0.setTop (mkF m 66 #[.val (.int p1)] [(.int p1)]))
    refine own_go (fun t k => XS.sipush X0.here hx rfl (hb hby d1_66) k) ?_
    show own_End p e below s _ _ _ (s0.setTop (mkF m 69 #[.val (.int p1)] [(.int (767 : Int32)), (.int p1)]))
    by_cases q_69 : p1.toInt ≤ 767
    ·
      refine own_go (fun t k => XS.icmpYes X0.here hx rfl (pc0 := 69) (pc' := 191) rfl (hb hby d1_69) rfl (own_leY (k := 767) (by decide) q_69) (by decide) (by decide) k) ?_
      show own_End p e below s _ _ _ (s0.setTop (mkF m 191 #[.val (.int p1)] []))
      refine own_go (fun t k => XS.iconst X0.here hx rfl (hb hby d1_191) k) ?_
      show own_End p e below s _ _ _ (s0.setTop (mkF m 192 #[.val (.int p1)] [(.int (1 : Int32))]))
      refine own_go (fun t k => XS.goto X0.here hx rfl (pc0 := 192) (pc' := 196) rfl (hb hby d1_192) (by decide) (by decide) k) ?_
      show own_End p e below s _ _ _ (s0.setTop (mkF m 196 #[.val (.int p1)] [(.int (1 : Int32))]))
      exact own_retN X0 hx (t := .boolean) hret hlk (by simp) (hb hby d1_196) ⟨own_yes (by omega), N0, e0⟩ (by decide) (by decide)
    refine own_go (fun t k => XS.icmpNo X0.here hx rfl (hb hby d1_69) rfl (own_leN (k := 767) (by decide) q_69) k) ?_
    show own_End p e below s _ _ _ (s0.setTop (mkF m 72 #[.val (.int p1)] []))
    exact J_72 (by omega)
  intro J_58
  show own_End p e below s _ _ _ (s0.setTop (mkF m 0 #[.val (.int p1)] []))
  refine own_join (fun G => ¬ ((65 ≤ p1.toInt ∧ p1.toInt ≤ 90) ∨ p1.toInt = 95 ∨ (97 ≤ p1.toInt ∧ p1.toInt ≤ 122) ∨ (192 ≤ p1.toInt ∧ p1.toInt ≤ 214)) → G (s0.setTop (mkF m 44 #[.val (.int p1)] []))) ?_ ?_
  ·
    intro j_44
    show own_End p e below s _ _ _ (s0.setTop (mkF m 44 #[.val (.int p1)] []))
    refine own_go (fun t k => XS.iloadN X0.here hx rfl (hb hby d1_44) rfl k) ?_
    show own_End p e below s _ _ _ (s0.setTop (mkF m 45 #[.val (.int p1)] [(.int p1)]))
    refine own_go (fun t k => XS.sipush X0.here hx rfl (hb hby d1_45) k) ?_
    show own_End p e below s _ _ _ (s0.setTop (mkF m 48 #[.val (.int p1)] [(.int (216 : Int32)), (.int p1)]))
    by_cases q_48 : p1.toInt < 216
    ·
      refine own_go (fun t k => XS.icmpYes X0.here hx rfl (pc0 := 48) (pc' := 58) rfl (hb hby d1_48) rfl (own_ltY (k := 216) (by decide) q_48) (by decide) (by decide) k) ?_
      show own_End p e below s _ _ _ (s0.setTop (mkF m 58 #[.val (.int p1)] []))
      exact J_58 (by omega)
    refine own_go (fun t k => XS.icmpNo X0.here hx rfl (hb hby d1_48) rfl (own_ltN (k := 216) (by decide) q_48) k) ?_
    show own_End p e below s _ _ _ (s0.setTop (mkF m 51 #[.val (.int p1)] []))
    refine own_go (fun t k => XS.iloadN X0.here hx rfl (hb hby d1_51) rfl k) ?_
    show own_End p e below s _ _ _ (s0.setTop (mkF m 52 #[.val (.int p1)] [(.int p1)]))
    refine own_go (fun t k => XS.sipush X0.here hx rfl (hb hby d1_52) k) ?_
    show own_End p e below s _ _ _ (s0.setTop (mkF m 55 #[.val (.int p1)] [(.int (246 : Int32)), (.int p1)]))
    by_cases q_55 : p1.toInt ≤ 246
    ·
      refine own_go (fun t k => XS.icmpYes X0.here hx rfl (pc0 := 55) (pc' := 191) rfl (hb hby d1_55) rfl (own_leY (k := 246) (by decide) q_55) (by decide) (by decide) k) ?_
      show own_End p e below s _ _ _ (s0.setTop (mkF m 191 #[.val (.int p1)] []))
      refine own_go (fun t k => XS.iconst X0.here hx rfl (hb hby d1_191) k) ?_
      show own_End p e below s _ _ _ (s0.setTop (mkF m 192 #[.val (.int p1)] [(.int (1 : Int32))]))
      refine own_go (fun t k => XS.goto X0.here hx rfl (pc0 := 192) (pc' := 196) rfl (hb hby d1_192) (by decide) (by decide) k) ?_
      show own_End p e below s _ _ _ (s0.setTop (mkF m 196 #[.val (.int p1)] [(.int (1 : Int32))]))
      exact own_retN X0 hx (t := .boolean) hret hlk (by simp) (hb hby d1_196) ⟨own_yes (by omega), N0, e0⟩ (by decide) (by decide)
    refine own_go (fun t k => XS.icmpNo X0.here hx rfl (hb hby d1_55) rfl (own_leN (k := 246) (by decide) q_55) k) ?_
    show own_End p e below s _ _ _ (s0.setTop (mkF m 58 #[.val (.int p1)] []))
    exact J_58 (by omega)
  intro J_44
  show own_End p e below s _ _ _ (s0.setTop (mkF m 0 #[.val (.int p1)] []))
  refine own_join (fun G => ¬ ((65 ≤ p1.toInt ∧ p1.toInt ≤ 90) ∨ p1.toInt = 95 ∨ (97 ≤ p1.toInt ∧ p1.toInt ≤ 122)) → G (s0.setTop (mkF m 30 #[.val (.int p1)] []))) ?_ ?_
  ·
    intro j_30
    show own_End p e below s _ _ _ (s0.setTop (mkF m 30 #[.val (.int p1)] []))
    refine own_go (fun t k => XS.iloadN X0.here hx rfl (hb hby d1_30) rfl k) ?_
    show own_End p e below s _ _ _ (s0.setTop (mkF m 31 #[.val (.int p1)] [(.int p1)]))
    refine own_go (fun t k => XS.sipush X0.here hx rfl (hb hby d1_31) k) ?_
    show own_End p e below s _ _ _ (s0.setTop (mkF m 34 #[.val (.int p1)] [(.int (192 : Int32)), (.int p1)]))
    by_cases q_34 : p1.toInt < 192
    ·
      refine own_go (fun t k => XS.icmpYes X0.here hx rfl (pc0 := 34) (pc' := 44) rfl (hb hby d1_34) rfl (own_ltY (k := 192) (by decide) q_34) (by decide) (by decide) k) ?_
      show own_End p e below s _ _ _ (s0.setTop (mkF m 44 #[.val (.int p1)] []))
      exact J_44 (by omega)
    refine own_go (fun t k => XS.icmpNo X0.here hx rfl (hb hby d1_34) rfl (own_ltN (k := 192) (by decide) q_34) k) ?_
    show own_End p e below s _ _ _ (s0.setTop (mkF m 37 #[.val (.int p1)] []))
    refine own_go (fun t k => XS.iloadN X0.here hx rfl (hb hby d1_37) rfl k) ?_
    show own_End p e below s _ _ _ (s0.setTop (mkF m 38 #[.val (.int p1)] [(.int p1)]))
    refine own_go (fun t k => XS.sipush X0.here hx rfl (hb hby d1_38) k) ?_
    show own_End p e below s _ _ _ (s0.setTop (mkF m 41 #[.val (.int p1)] [(.int (214 : Int32)), (.int p1)]))
    by_cases q_41 : p1.toInt ≤ 214
    ·
      refine own_go (fun t k => XS.icmpYes X0.here hx rfl (pc0 := 41) (pc' := 191) rfl (hb hby d1_41) rfl (own_leY (k := 214) (by decide) q_41) (by decide) (by decide) k) ?_
      show own_End p e below s _ _ _ (s0.setTop (mkF m 191 #[.val (.int p1)] []))
      refine own_go (fun t k => XS.iconst X0.here hx rfl (hb hby d1_191) k) ?_
      show own_End p e below s _ _ _ (s0.setTop (mkF m 192 #[.val (.int p1)] [(.int (1 : Int32))]))
      refine own_go (fun t k => XS.goto X0.here hx rfl (pc0 := 192) (pc' := 196) rfl (hb hby d1_192) (by decide) (by decide) k) ?_
      show own_End p e below s _ _ _ (s0.setTop (mkF m 196 #[.val (.int p1)] [(.int (1 : Int32))]))
      exact own_retN X0 hx (t := .boolean) hret hlk (by simp) (hb hby d1_196) ⟨own_yes (by omega), N0, e0⟩ (by decide) (by decide)
    refine own_go (fun t k => XS.icmpNo X0.here hx rfl (hb hby d1_41) rfl (own_leN (k := 214) (by decide) q_41) k) ?_
    show own_End p e below s _ _ _ (s0.setTop (mkF m 44 #[.val (.int p1)] []))
    exact J_44 (by omega)
  intro J_30
  show own_End p e below s _ _ _ (s0.setTop (mkF m 0 #[.val (.int p1)] []))
  refine own_join (fun G => ¬ ((65 ≤ p1.toInt ∧ p1.toInt ≤ 90)) → G (s0.setTop (mkF m 12 #[.val (.int p1)] []))) ?_ ?_
  ·
    intro j_12
    show own_End p e below s _ _ _ (s0.setTop (mkF m 12 #[.val (.int p1)] []))
    refine own_go (fun t k => XS.iloadN X0.here hx rfl (hb hby d1_12) rfl k) ?_
    show own_End p e below s _ _ _ (s0.setTop (mkF m 13 #[.val (.int p1)] [(.int p1)]))
    refine own_go (fun t k => XS.bipush X0.here hx rfl (hb hby d1_13) k) ?_
    show own_End p e below s _ _ _ (s0.setTop (mkF m 15 #[.val (.int p1)] [(.int (95 : Int32)), (.int p1)]))
    by_cases q_15 : p1.toInt = 95
    ·
      refine own_go (fun t k => XS.icmpYes X0.here hx rfl (pc0 := 15) (pc' := 191) rfl (hb hby d1_15) rfl (own_eqY (k := 95) (by decide) q_15) (by decide) (by decide) k) ?_
      show own_End p e below s _ _ _ (s0.setTop (mkF m 191 #[.val (.int p1)] []))
      refine own_go (fun t k => XS.iconst X0.here hx rfl (hb hby d1_191) k) ?_
      show own_End p e below s _ _ _ (s0.setTop (mkF m 192 #[.val (.int p1)] [(.int (1 : Int32))]))
      refine own_go (fun t k => XS.goto X0.here hx rfl (pc0 := 192) (pc' := 196) rfl (hb hby d1_192) (by decide) (by decide) k) ?_
      show own_End p e below s _ _ _ (s0.setTop (mkF m 196 #[.val (.int p1)] [(.int (1 : Int32))]))
      exact own_retN X0 hx (t := .boolean) hret hlk (by simp) (hb hby d1_196) ⟨own_yes (by omega), N0, e0⟩ (by decide) (by decide)
    refine own_go (fun t k => XS.icmpNo X0.here hx rfl (hb hby d1_15) rfl (own_eqN (k := 95) (by decide) q_15) k) ?_
    show own_End p e below s _ _ _ (s0.setTop (mkF m 18 #[.val (.int p1)] []))
    refine own_go (fun t k => XS.iloadN X0.here hx rfl (hb hby d1_18) rfl k) ?_
    show own_End p e below s _ _ _ (s0.setTop (mkF m 19 #[.val (.int p1)] [(.int p1)]))
    refine own_go (fun t k => XS.bipush X0.here hx rfl (hb hby d1_19) k) ?_
    show own_End p e below s _ _ _ (s0.setTop (mkF m 21 #[.val (.int p1)] [(.int (97 : Int32)), (.int p1)]))
    by_cases q_21 : p1.toInt < 97
    ·
      refine own_go (fun t k => XS.icmpYes X0.here hx rfl (pc0 := 21) (pc' := 30) rfl (hb hby d1_21) rfl (own_ltY (k := 97) (by decide) q_21) (by decide) (by decide) k) ?_
      show own_End p e below s _ _ _ (s0.setTop (mkF m 30 #[.val (.int p1)] []))
      exact J_30 (by omega)
    refine own_go (fun t k => XS.icmpNo X0.here hx rfl (hb hby d1_21) rfl (own_ltN (k := 97) (by decide) q_21) k) ?_
    show own_End p e below s _ _ _ (s0.setTop (mkF m 24 #[.val (.int p1)] []))
    refine own_go (fun t k => XS.iloadN X0.here hx rfl (hb hby d1_24) rfl k) ?_
    show own_End p e below s _ _ _ (s0.setTop (mkF m 25 #[.val (.int p1)] [(.int p1)]))
    refine own_go (fun t k => XS.bipush X0.here hx rfl (hb hby d1_25) k) ?_
    show own_End p e below s _ _ _ (s0.setTop (mkF m 27 #[.val (.int p1)] [(.int (122 : Int32)), (.int p1)]))
    by_cases q_27 : p1.toInt ≤ 122
    ·
      refine own_go (fun t k => XS.icmpYes X0.here hx rfl (pc0 := 27) (pc' := 191) rfl (hb hby d1_27) rfl (own_leY (k := 122) (by decide) q_27) (by decide) (by decide) k) ?_
      show own_End p e below s _ _ _ (s0.setTop (mkF m 191 #[.val (.int p1)] []))
      refine own_go (fun t k => XS.iconst X0.here hx rfl (hb hby d1_191) k) ?_
      show own_End p e below s _ _ _ (s0.setTop (mkF m 192 #[.val (.int p1)] [(.int (1 : Int32))]))
      refine own_go (fun t k => XS.goto X0.here hx rfl (pc0 := 192) (pc' := 196) rfl (hb hby d1_192) (by decide) (by decide) k) ?_
      show own_End p e below s _ _ _ (s0.setTop (mkF m 196 #[.val (.int p1)] [(.int (1 : Int32))]))
      exact own_retN X0 hx (t := .boolean) hret hlk (by simp) (hb hby d1_196) ⟨own_yes (by omega), N0, e0⟩ (by decide) (by decide)
    refine own_go (fun t k => XS.icmpNo X0.here hx rfl (hb hby d1_27) rfl (own_leN (k := 122) (by decide) q_27) k) ?_
    show own_End p e below s _ _ _ (s0.setTop (mkF m 30 #[.val (.int p1)] []))
    exact J_30 (by omega)
  intro J_12
  show own_End p e below s _ _ _ (s0.setTop (mkF m 0 #[.val (.int p1)] []))
  refine own_go (fun t k => XS.iloadN X0.here hx rfl (hb hby d1_0) rfl k) ?_
  show own_End p e below s _ _ _ (s0.setTop (mkF m 1 #[.val (.int p1)] [(.int p1)]))
  refine own_go (fun t k => XS.bipush X0.here hx rfl (hb hby d1_1) k) ?_
  show own_End p e below s _ _ _ (s0.setTop (mkF m 3 #[.val (.int p1)] [(.int (65 : Int32)), (.int p1)]))
  by_cases q_3 : p1.toInt < 65
  ·
    refine own_go (fun t k => XS.icmpYes X0.here hx rfl (pc0 := 3) (pc' := 12) rfl (hb hby d1_3) rfl (own_ltY (k := 65) (by decide) q_3) (by decide) (by decide) k) ?_
    show own_End p e below s _ _ _ (s0.setTop (mkF m 12 #[.val (.int p1)] []))
    exact J_12 (by omega)
  refine own_go (fun t k => XS.icmpNo X0.here hx rfl (hb hby d1_3) rfl (own_ltN (k := 65) (by decide) q_3) k) ?_
  show own_End p e below s _ _ _ (s0.setTop (mkF m 6 #[.val (.int p1)] []))
  refine own_go (fun t k => XS.iloadN X0.here hx rfl (hb hby d1_6) rfl k) ?_
  show own_End p e below s _ _ _ (s0.setTop (mkF m 7 #[.val (.int p1)] [(.int p1)]))
  refine own_go (fun t k => XS.bipush X0.here hx rfl (hb hby d1_7) k) ?_
  show own_End p e below s _ _ _ (s0.setTop (mkF m 9 #[.val (.int p1)] [(.int (90 : Int32)), (.int p1)]))
  by_cases q_9 : p1.toInt ≤ 90
  ·
    refine own_go (fun t k => XS.icmpYes X0.here hx rfl (pc0 := 9) (pc' := 191) rfl (hb hby d1_9) rfl (own_leY (k := 90) (by decide) q_9) (by decide) (by decide) k) ?_
    show own_End p e below s _ _ _ (s0.setTop (mkF m 191 #[.val (.int p1)] []))
    refine own_go (fun t k => XS.iconst X0.here hx rfl (hb hby d1_191) k) ?_
    show own_End p e below s _ _ _ (s0.setTop (mkF m 192 #[.val (.int p1)] [(.int (1 : Int32))]))
    refine own_go (fun t k => XS.goto X0.here hx rfl (pc0 := 192) (pc' := 196) rfl (hb hby d1_192) (by decide) (by decide) k) ?_
    show own_End p e below s _ _ _ (s0.setTop (mkF m 196 #[.val (.int p1)] [(.int (1 : Int32))]))
    exact own_retN X0 hx (t := .boolean) hret hlk (by simp) (hb hby d1_196) ⟨own_yes (by omega), N0, e0⟩ (by decide) (by decide)
  refine own_go (fun t k => XS.icmpNo X0.here hx rfl (hb hby d1_9) rfl (own_leN (k := 90) (by decide) q_9) k) ?_
  show own_End p e below s _ _ _ (s0.setTop (mkF m 12 #[.val (.int p1)] []))
  exact J_12 (by omega)
set_option maxRecDepth 65536 in
set_option maxHeartbeats 40000000 in
theorem rm3 (l : Launch) (Z : State) (a0 : Array Value) (hw : ∀ d ∈ tables_1, d.before a0 Z = true) (ws : List Jvm.Cond) (p1 : Int32) (p2 : Int32) (p3 : Int32) (h0 : Heap) (n0 : Nat) (Z0 : n0 ≤ h0.size) {k2 k3 : Int} (hk2 : p2.toInt = k2) (hk3 : p3.toInt = k3) :
    own_Met l (⟨"com/example/frage/frage/xdm/XmlCharactersIsNameStartCharPinLaw", "in", "(III)Z"⟩ : MethodName) method_2_code 3 (some .boolean) ws ({ frames := 0, cells := 0, slots := 0, locals := 0 } : Room) #[(.int p1), (.int p2), (.int p3)] Z h0 (fun v h L => v = some (.int (if k2 ≤ p1.toInt ∧ p1.toInt ≤ k3 then 1 else 0)) ∧ Fr n0 L ∧ h = h0) := by
  refine own_body (plainFor_of_name pn_XmlCharactersIsNameStartCharPinLaw) ?_
  intro p e s m below meth c s0 X0 hx hby hml hret hlk hown hnm hZ e0
  replace hown : s.vm.findClass "com/example/frage/frage/xdm/XmlCharactersIsNameStartCharPinLaw" = some m.cls := hown
  have N0 := Fr.nil n0
  have ef : entryFrame m #[(.int p1), (.int p2), (.int p3)] 3 = (mkF m 0 #[.val (.int p1), .val (.int p2), .val (.int p3)] []) := by first | (simp [entryFrame, mkF, argsToLocals, Value.category, maxLocals]; done) | rfl
  rw [ef]
  show own_End p e below s _ _ _ (s0.setTop (mkF m 0 #[.val (.int p1), .val (.int p2), .val (.int p3)] []))
  refine own_go (fun t k => XS.iloadN X0.here hx rfl (hb hby d3_0) rfl k) ?_
  show own_End p e below s _ _ _ (s0.setTop (mkF m 1 #[.val (.int p1), .val (.int p2), .val (.int p3)] [(.int p1)]))
  refine own_go (fun t k => XS.iloadN X0.here hx rfl (hb hby d3_1) rfl k) ?_
  show own_End p e below s _ _ _ (s0.setTop (mkF m 2 #[.val (.int p1), .val (.int p2), .val (.int p3)] [(.int p2), (.int p1)]))
  by_cases q_2 : p1.toInt < p2.toInt
  ·
    refine own_go (fun t k => XS.icmpYes X0.here hx rfl (pc0 := 2) (pc' := 14) rfl (hb hby d3_2) rfl (own_ltY rfl q_2) (by decide) (by decide) k) ?_
    show own_End p e below s _ _ _ (s0.setTop (mkF m 14 #[.val (.int p1), .val (.int p2), .val (.int p3)] []))
    refine own_go (fun t k => XS.iconst X0.here hx rfl (hb hby d3_14) k) ?_
    show own_End p e below s _ _ _ (s0.setTop (mkF m 15 #[.val (.int p1), .val (.int p2), .val (.int p3)] [(.int (0 : Int32))]))
    exact own_retN X0 hx (t := .boolean) hret hlk (by simp) (hb hby d3_15) ⟨own_no (by omega), N0, e0⟩ (by decide) (by decide)
  refine own_go (fun t k => XS.icmpNo X0.here hx rfl (hb hby d3_2) rfl (own_ltN rfl q_2) k) ?_
  show own_End p e below s _ _ _ (s0.setTop (mkF m 5 #[.val (.int p1), .val (.int p2), .val (.int p3)] []))
  refine own_go (fun t k => XS.iloadN X0.here hx rfl (hb hby d3_5) rfl k) ?_
  show own_End p e below s _ _ _ (s0.setTop (mkF m 6 #[.val (.int p1), .val (.int p2), .val (.int p3)] [(.int p1)]))
  refine own_go (fun t k => XS.iloadN X0.here hx rfl (hb hby d3_6) rfl k) ?_
  show own_End p e below s _ _ _ (s0.setTop (mkF m 7 #[.val (.int p1), .val (.int p2), .val (.int p3)] [(.int p3), (.int p1)]))
  by_cases q_7 : p3.toInt < p1.toInt
  ·
    refine own_go (fun t k => XS.icmpYes X0.here hx rfl (pc0 := 7) (pc' := 14) rfl (hb hby d3_7) rfl (own_gtY rfl q_7) (by decide) (by decide) k) ?_
    show own_End p e below s _ _ _ (s0.setTop (mkF m 14 #[.val (.int p1), .val (.int p2), .val (.int p3)] []))
    refine own_go (fun t k => XS.iconst X0.here hx rfl (hb hby d3_14) k) ?_
    show own_End p e below s _ _ _ (s0.setTop (mkF m 15 #[.val (.int p1), .val (.int p2), .val (.int p3)] [(.int (0 : Int32))]))
    exact own_retN X0 hx (t := .boolean) hret hlk (by simp) (hb hby d3_15) ⟨own_no (by omega), N0, e0⟩ (by decide) (by decide)
  refine own_go (fun t k => XS.icmpNo X0.here hx rfl (hb hby d3_7) rfl (own_gtN rfl q_7) k) ?_
  show own_End p e below s _ _ _ (s0.setTop (mkF m 10 #[.val (.int p1), .val (.int p2), .val (.int p3)] []))
  refine own_go (fun t k => XS.iconst X0.here hx rfl (hb hby d3_10) k) ?_
  show own_End p e below s _ _ _ (s0.setTop (mkF m 11 #[.val (.int p1), .val (.int p2), .val (.int p3)] [(.int (1 : Int32))]))
  refine own_go (fun t k => XS.goto X0.here hx rfl (pc0 := 11) (pc' := 15) rfl (hb hby d3_11) (by decide) (by decide) k) ?_
  show own_End p e below s _ _ _ (s0.setTop (mkF m 15 #[.val (.int p1), .val (.int p2), .val (.int p3)] [(.int (1 : Int32))]))
  exact own_retN X0 hx (t := .boolean) hret hlk (by simp) (hb hby d3_15) ⟨own_yes (by omega), N0, e0⟩ (by decide) (by decide)
set_option maxRecDepth 65536 in
set_option maxHeartbeats 40000000 in
theorem rm2 (l : Launch) (Z : State) (a0 : Array Value) (hw : ∀ d ∈ tables_1, d.before a0 Z = true) (ws : List Jvm.Cond) (p1 : Int32) (h0 : Heap) (n0 : Nat) (Z0 : n0 ≤ h0.size)  :
    own_Met l (⟨"com/example/frage/frage/xdm/XmlCharactersIsNameStartCharPinLaw", "ref", "(I)Z"⟩ : MethodName) method_3_code 1 (some .boolean) ws ({ frames := 1, cells := 0, slots := 0, locals := 14 } : Room) #[(.int p1)] Z h0 (fun v h L => v = some (.int (if own_ns p1.toInt then 1 else 0)) ∧ Fr n0 L ∧ h = h0) := by
  refine own_body (plainFor_of_name pn_XmlCharactersIsNameStartCharPinLaw) ?_
  intro p e s m below meth c s0 X0 hx hby hml hret hlk hown hnm hZ e0
  replace hown : s.vm.findClass "com/example/frage/frage/xdm/XmlCharactersIsNameStartCharPinLaw" = some m.cls := hown
  have N0 := Fr.nil n0
  have ef : entryFrame m #[(.int p1)] 1 = (mkF m 0 #[.val (.int p1)] []) := by first | (simp [entryFrame, mkF, argsToLocals, Value.category, maxLocals]; done) | rfl
  rw [ef]
  show own_End p e below s _ _ _ (s0.setTop (mkF m 0 #[.val (.int p1)] []))
  refine own_go (fun t k => XS.iloadN X0.here hx rfl (hb hby d2_0) rfl k) ?_
  show own_End p e below s _ _ _ (s0.setTop (mkF m 1 #[.val (.int p1)] [(.int p1)]))
  refine own_go (fun t k => XS.bipush X0.here hx rfl (hb hby d2_1) k) ?_
  show own_End p e below s _ _ _ (s0.setTop (mkF m 3 #[.val (.int p1)] [(.int (65 : Int32)), (.int p1)]))
  by_cases q_3 : p1.toInt < 65
  ·
    refine own_go (fun t k => XS.icmpYes X0.here hx rfl (pc0 := 3) (pc' := 12) rfl (hb hby d2_3) rfl (own_ltY (k := 65) (by decide) q_3) (by decide) (by decide) k) ?_
    show own_End p e below s _ _ _ (s0.setTop (mkF m 12 #[.val (.int p1)] []))
    refine own_go (fun t k => XS.iconst X0.here hx rfl (hb hby d2_12) k) ?_
    show own_End p e below s _ _ _ (s0.setTop (mkF m 13 #[.val (.int p1)] [(.int (0 : Int32))]))
    exact own_retN X0 hx (t := .boolean) hret hlk (by simp) (hb hby d2_13) ⟨own_no (by omega), N0, e0⟩ (by decide) (by decide)
  refine own_go (fun t k => XS.icmpNo X0.here hx rfl (hb hby d2_3) rfl (own_ltN (k := 65) (by decide) q_3) k) ?_
  show own_End p e below s _ _ _ (s0.setTop (mkF m 6 #[.val (.int p1)] []))
  refine own_go (fun t k => XS.iloadN X0.here hx rfl (hb hby d2_6) rfl k) ?_
  show own_End p e below s _ _ _ (s0.setTop (mkF m 7 #[.val (.int p1)] [(.int p1)]))
  refine own_go (X0.ldcInt (own := "com/example/frage/frage/xdm/XmlCharactersIsNameStartCharPinLaw") (index := 7) (v := 983039) hx hown (mvT hZ (hw _ (List.mem_of_getElem? (i := 7) rfl))) (g := (mkF m 7 #[.val (.int p1)] [(.int p1)])) rfl (hb hby d2_7)) ?_
  show own_End p e below s _ _ _ (s0.setTop (mkF m 9 #[.val (.int p1)] [(.int (983039 : Int32)), (.int p1)]))
  by_cases q_9 : p1.toInt ≤ 983039
  ·
    refine own_go (fun t k => XS.icmpYes X0.here hx rfl (pc0 := 9) (pc' := 14) rfl (hb hby d2_9) rfl (own_leY (k := 983039) (by decide) q_9) (by decide) (by decide) k) ?_
    show own_End p e below s _ _ _ (s0.setTop (mkF m 14 #[.val (.int p1)] []))
    refine own_go (fun t k => XS.iloadN X0.here hx rfl (hb hby d2_14) rfl k) ?_
    show own_End p e below s _ _ _ (s0.setTop (mkF m 15 #[.val (.int p1)] [(.int p1)]))
    refine own_go (fun t k => XS.bipush X0.here hx rfl (hb hby d2_15) k) ?_
    show own_End p e below s _ _ _ (s0.setTop (mkF m 17 #[.val (.int p1)] [(.int (91 : Int32)), (.int p1)]))
    refine own_go (fun t k => XS.bipush X0.here hx rfl (hb hby d2_17) k) ?_
    show own_End p e below s _ _ _ (s0.setTop (mkF m 19 #[.val (.int p1)] [(.int (94 : Int32)), (.int (91 : Int32)), (.int p1)]))
    obtain ⟨v1, T1, L1, X1, hQ1, st1⟩ := own_callS X0 hx hZ (y := (⟨"com/example/frage/frage/xdm/XmlCharactersIsNameStartCharPinLaw", "in", "(III)Z"⟩ : MethodName)) 0 hown (hw _ (List.mem_of_getElem? (i := 20) rfl)) (hw _ (List.mem_of_getElem? (i := 21) rfl)) (hw _ (List.mem_of_getElem? (i := 18) rfl)) (hw _ (List.mem_of_getElem? (i := 22) rfl)) (by decide) (rm3 l Z a0 hw [] p1 (91 : Int32) (94 : Int32) h0 n0 Z0 (k2 := 91) (k3 := 94) (by decide) (by decide)) e0 (pc := 19) (Ls := #[.val (.int p1)]) [(.int p1), (.int (91 : Int32)), (.int (94 : Int32))] [] (by rw [hml]; rfl) rfl rfl (lenOf pd_III_Z rfl) (Nat.le_of_eq rfl) (hb hby d2_19) (by decide) (by decide) (by decide) (by decide)
    obtain ⟨rfl, Nc2, e2⟩ := hQ1
    have N2 := Fr.app N0 Nc2
    refine own_go st1 ?_
    show own_End p e below s _ _ _ (T1.setTop (mkF m 22 #[.val (.int p1)] [(.int (if 91 ≤ p1.toInt ∧ p1.toInt ≤ 94 then 1 else 0))]))
    by_cases q_22 : 91 ≤ p1.toInt ∧ p1.toInt ≤ 94
    ·
      refine own_go (fun t k => XS.ifYes X1.here hx rfl (pc0 := 22) (pc' := 57) rfl (hb hby d2_22) rfl (own_bneY q_22) (by decide) (by decide) k) ?_
      show own_End p e below s _ _ _ (T1.setTop (mkF m 57 #[.val (.int p1)] []))
      refine own_go (fun t k => XS.iconst X1.here hx rfl (hb hby d2_57) k) ?_
      show own_End p e below s _ _ _ (T1.setTop (mkF m 58 #[.val (.int p1)] [(.int (0 : Int32))]))
      exact own_retN X1 hx (t := .boolean) hret hlk (by simp) (hb hby d2_58) ⟨own_no (by omega), N2, e2⟩ (by decide) (by decide)
    refine own_go (fun t k => XS.ifNo X1.here hx rfl (hb hby d2_22) rfl (own_bneN q_22) k) ?_
    show own_End p e below s _ _ _ (T1.setTop (mkF m 25 #[.val (.int p1)] []))
    refine own_go (fun t k => XS.iloadN X1.here hx rfl (hb hby d2_25) rfl k) ?_
    show own_End p e below s _ _ _ (T1.setTop (mkF m 26 #[.val (.int p1)] [(.int p1)]))
    refine own_go (fun t k => XS.bipush X1.here hx rfl (hb hby d2_26) k) ?_
    show own_End p e below s _ _ _ (T1.setTop (mkF m 28 #[.val (.int p1)] [(.int (96 : Int32)), (.int p1)]))
    by_cases q_28 : p1.toInt = 96
    ·
      refine own_go (fun t k => XS.icmpYes X1.here hx rfl (pc0 := 28) (pc' := 57) rfl (hb hby d2_28) rfl (own_eqY (k := 96) (by decide) q_28) (by decide) (by decide) k) ?_
      show own_End p e below s _ _ _ (T1.setTop (mkF m 57 #[.val (.int p1)] []))
      refine own_go (fun t k => XS.iconst X1.here hx rfl (hb hby d2_57) k) ?_
      show own_End p e below s _ _ _ (T1.setTop (mkF m 58 #[.val (.int p1)] [(.int (0 : Int32))]))
      exact own_retN X1 hx (t := .boolean) hret hlk (by simp) (hb hby d2_58) ⟨own_no (by omega), N2, e2⟩ (by decide) (by decide)
    refine own_go (fun t k => XS.icmpNo X1.here hx rfl (hb hby d2_28) rfl (own_eqN (k := 96) (by decide) q_28) k) ?_
    show own_End p e below s _ _ _ (T1.setTop (mkF m 31 #[.val (.int p1)] []))
    refine own_go (fun t k => XS.iloadN X1.here hx rfl (hb hby d2_31) rfl k) ?_
    show own_End p e below s _ _ _ (T1.setTop (mkF m 32 #[.val (.int p1)] [(.int p1)]))
    refine own_go (fun t k => XS.bipush X1.here hx rfl (hb hby d2_32) k) ?_
    show own_End p e below s _ _ _ (T1.setTop (mkF m 34 #[.val (.int p1)] [(.int (123 : Int32)), (.int p1)]))
    refine own_go (fun t k => XS.sipush X1.here hx rfl (hb hby d2_34) k) ?_
    show own_End p e below s _ _ _ (T1.setTop (mkF m 37 #[.val (.int p1)] [(.int (191 : Int32)), (.int (123 : Int32)), (.int p1)]))
    obtain ⟨v3, T3, L3, X3, hQ3, st3⟩ := own_callS X1 hx hZ (y := (⟨"com/example/frage/frage/xdm/XmlCharactersIsNameStartCharPinLaw", "in", "(III)Z"⟩ : MethodName)) 0 hown (hw _ (List.mem_of_getElem? (i := 20) rfl)) (hw _ (List.mem_of_getElem? (i := 21) rfl)) (hw _ (List.mem_of_getElem? (i := 18) rfl)) (hw _ (List.mem_of_getElem? (i := 22) rfl)) (by decide) (rm3 l Z a0 hw [] p1 (123 : Int32) (191 : Int32) h0 n0 Z0 (k2 := 123) (k3 := 191) (by decide) (by decide)) e2 (pc := 37) (Ls := #[.val (.int p1)]) [(.int p1), (.int (123 : Int32)), (.int (191 : Int32))] [] (by rw [hml]; rfl) rfl rfl (lenOf pd_III_Z rfl) (Nat.le_of_eq rfl) (hb hby d2_37) (by decide) (by decide) (by decide) (by decide)
    obtain ⟨rfl, Nc4, e4⟩ := hQ3
    have N4 := Fr.app N2 Nc4
    refine own_go st3 ?_
    show own_End p e below s _ _ _ (T3.setTop (mkF m 40 #[.val (.int p1)] [(.int (if 123 ≤ p1.toInt ∧ p1.toInt ≤ 191 then 1 else 0))]))
    by_cases q_40 : 123 ≤ p1.toInt ∧ p1.toInt ≤ 191
    ·
      refine own_go (fun t k => XS.ifYes X3.here hx rfl (pc0 := 40) (pc' := 57) rfl (hb hby d2_40) rfl (own_bneY q_40) (by decide) (by decide) k) ?_
      show own_End p e below s _ _ _ (T3.setTop (mkF m 57 #[.val (.int p1)] []))
      refine own_go (fun t k => XS.iconst X3.here hx rfl (hb hby d2_57) k) ?_
      show own_End p e below s _ _ _ (T3.setTop (mkF m 58 #[.val (.int p1)] [(.int (0 : Int32))]))
      exact own_retN X3 hx (t := .boolean) hret hlk (by simp) (hb hby d2_58) ⟨own_no (by omega), N4, e4⟩ (by decide) (by decide)
    refine own_go (fun t k => XS.ifNo X3.here hx rfl (hb hby d2_40) rfl (own_bneN q_40) k) ?_
    show own_End p e below s _ _ _ (T3.setTop (mkF m 43 #[.val (.int p1)] []))
    refine own_go (fun t k => XS.iloadN X3.here hx rfl (hb hby d2_43) rfl k) ?_
    show own_End p e below s _ _ _ (T3.setTop (mkF m 44 #[.val (.int p1)] [(.int p1)]))
    refine own_go (fun t k => XS.sipush X3.here hx rfl (hb hby d2_44) k) ?_
    show own_End p e below s _ _ _ (T3.setTop (mkF m 47 #[.val (.int p1)] [(.int (215 : Int32)), (.int p1)]))
    by_cases q_47 : p1.toInt = 215
    ·
      refine own_go (fun t k => XS.icmpYes X3.here hx rfl (pc0 := 47) (pc' := 57) rfl (hb hby d2_47) rfl (own_eqY (k := 215) (by decide) q_47) (by decide) (by decide) k) ?_
      show own_End p e below s _ _ _ (T3.setTop (mkF m 57 #[.val (.int p1)] []))
      refine own_go (fun t k => XS.iconst X3.here hx rfl (hb hby d2_57) k) ?_
      show own_End p e below s _ _ _ (T3.setTop (mkF m 58 #[.val (.int p1)] [(.int (0 : Int32))]))
      exact own_retN X3 hx (t := .boolean) hret hlk (by simp) (hb hby d2_58) ⟨own_no (by omega), N4, e4⟩ (by decide) (by decide)
    refine own_go (fun t k => XS.icmpNo X3.here hx rfl (hb hby d2_47) rfl (own_eqN (k := 215) (by decide) q_47) k) ?_
    show own_End p e below s _ _ _ (T3.setTop (mkF m 50 #[.val (.int p1)] []))
    refine own_go (fun t k => XS.iloadN X3.here hx rfl (hb hby d2_50) rfl k) ?_
    show own_End p e below s _ _ _ (T3.setTop (mkF m 51 #[.val (.int p1)] [(.int p1)]))
    refine own_go (fun t k => XS.sipush X3.here hx rfl (hb hby d2_51) k) ?_
    show own_End p e below s _ _ _ (T3.setTop (mkF m 54 #[.val (.int p1)] [(.int (247 : Int32)), (.int p1)]))
    by_cases q_54 : ¬ p1.toInt = 247
    ·
      refine own_go (fun t k => XS.icmpYes X3.here hx rfl (pc0 := 54) (pc' := 59) rfl (hb hby d2_54) rfl (own_neY (k := 247) (by decide) q_54) (by decide) (by decide) k) ?_
      show own_End p e below s _ _ _ (T3.setTop (mkF m 59 #[.val (.int p1)] []))
      refine own_go (fun t k => XS.iloadN X3.here hx rfl (hb hby d2_59) rfl k) ?_
      show own_End p e below s _ _ _ (T3.setTop (mkF m 60 #[.val (.int p1)] [(.int p1)]))
      refine own_go (fun t k => XS.sipush X3.here hx rfl (hb hby d2_60) k) ?_
      show own_End p e below s _ _ _ (T3.setTop (mkF m 63 #[.val (.int p1)] [(.int (768 : Int32)), (.int p1)]))
      refine own_go (fun t k => XS.sipush X3.here hx rfl (hb hby d2_63) k) ?_
      show own_End p e below s _ _ _ (T3.setTop (mkF m 66 #[.val (.int p1)] [(.int (879 : Int32)), (.int (768 : Int32)), (.int p1)]))
      obtain ⟨v5, T5, L5, X5, hQ5, st5⟩ := own_callS X3 hx hZ (y := (⟨"com/example/frage/frage/xdm/XmlCharactersIsNameStartCharPinLaw", "in", "(III)Z"⟩ : MethodName)) 0 hown (hw _ (List.mem_of_getElem? (i := 20) rfl)) (hw _ (List.mem_of_getElem? (i := 21) rfl)) (hw _ (List.mem_of_getElem? (i := 18) rfl)) (hw _ (List.mem_of_getElem? (i := 22) rfl)) (by decide) (rm3 l Z a0 hw [] p1 (768 : Int32) (879 : Int32) h0 n0 Z0 (k2 := 768) (k3 := 879) (by decide) (by decide)) e4 (pc := 66) (Ls := #[.val (.int p1)]) [(.int p1), (.int (768 : Int32)), (.int (879 : Int32))] [] (by rw [hml]; rfl) rfl rfl (lenOf pd_III_Z rfl) (Nat.le_of_eq rfl) (hb hby d2_66) (by decide) (by decide) (by decide) (by decide)
      obtain ⟨rfl, Nc6, e6⟩ := hQ5
      have N6 := Fr.app N4 Nc6
      refine own_go st5 ?_
      show own_End p e below s _ _ _ (T5.setTop (mkF m 69 #[.val (.int p1)] [(.int (if 768 ≤ p1.toInt ∧ p1.toInt ≤ 879 then 1 else 0))]))
      by_cases q_69 : 768 ≤ p1.toInt ∧ p1.toInt ≤ 879
      ·
        refine own_go (fun t k => XS.ifYes X5.here hx rfl (pc0 := 69) (pc' := 79) rfl (hb hby d2_69) rfl (own_bneY q_69) (by decide) (by decide) k) ?_
        show own_End p e below s _ _ _ (T5.setTop (mkF m 79 #[.val (.int p1)] []))
        refine own_go (fun t k => XS.iconst X5.here hx rfl (hb hby d2_79) k) ?_
        show own_End p e below s _ _ _ (T5.setTop (mkF m 80 #[.val (.int p1)] [(.int (0 : Int32))]))
        exact own_retN X5 hx (t := .boolean) hret hlk (by simp) (hb hby d2_80) ⟨own_no (by omega), N6, e6⟩ (by decide) (by decide)
      refine own_go (fun t k => XS.ifNo X5.here hx rfl (hb hby d2_69) rfl (own_bneN q_69) k) ?_
      show own_End p e below s _ _ _ (T5.setTop (mkF m 72 #[.val (.int p1)] []))
      refine own_go (fun t k => XS.iloadN X5.here hx rfl (hb hby d2_72) rfl k) ?_
      show own_End p e below s _ _ _ (T5.setTop (mkF m 73 #[.val (.int p1)] [(.int p1)]))
      refine own_go (fun t k => XS.sipush X5.here hx rfl (hb hby d2_73) k) ?_
      show own_End p e below s _ _ _ (T5.setTop (mkF m 76 #[.val (.int p1)] [(.int (894 : Int32)), (.int p1)]))
      by_cases q_76 : ¬ p1.toInt = 894
      ·
        refine own_go (fun t k => XS.icmpYes X5.here hx rfl (pc0 := 76) (pc' := 81) rfl (hb hby d2_76) rfl (own_neY (k := 894) (by decide) q_76) (by decide) (by decide) k) ?_
        show own_End p e below s _ _ _ (T5.setTop (mkF m 81 #[.val (.int p1)] []))
        refine own_go (fun t k => XS.iloadN X5.here hx rfl (hb hby d2_81) rfl k) ?_
        show own_End p e below s _ _ _ (T5.setTop (mkF m 82 #[.val (.int p1)] [(.int p1)]))
        refine own_go (fun t k => XS.sipush X5.here hx rfl (hb hby d2_82) k) ?_
        show own_End p e below s _ _ _ (T5.setTop (mkF m 85 #[.val (.int p1)] [(.int (8192 : Int32)), (.int p1)]))
        refine own_go (fun t k => XS.sipush X5.here hx rfl (hb hby d2_85) k) ?_
        show own_End p e below s _ _ _ (T5.setTop (mkF m 88 #[.val (.int p1)] [(.int (8203 : Int32)), (.int (8192 : Int32)), (.int p1)]))
        obtain ⟨v7, T7, L7, X7, hQ7, st7⟩ := own_callS X5 hx hZ (y := (⟨"com/example/frage/frage/xdm/XmlCharactersIsNameStartCharPinLaw", "in", "(III)Z"⟩ : MethodName)) 0 hown (hw _ (List.mem_of_getElem? (i := 20) rfl)) (hw _ (List.mem_of_getElem? (i := 21) rfl)) (hw _ (List.mem_of_getElem? (i := 18) rfl)) (hw _ (List.mem_of_getElem? (i := 22) rfl)) (by decide) (rm3 l Z a0 hw [] p1 (8192 : Int32) (8203 : Int32) h0 n0 Z0 (k2 := 8192) (k3 := 8203) (by decide) (by decide)) e6 (pc := 88) (Ls := #[.val (.int p1)]) [(.int p1), (.int (8192 : Int32)), (.int (8203 : Int32))] [] (by rw [hml]; rfl) rfl rfl (lenOf pd_III_Z rfl) (Nat.le_of_eq rfl) (hb hby d2_88) (by decide) (by decide) (by decide) (by decide)
        obtain ⟨rfl, Nc8, e8⟩ := hQ7
        have N8 := Fr.app N6 Nc8
        refine own_go st7 ?_
        show own_End p e below s _ _ _ (T7.setTop (mkF m 91 #[.val (.int p1)] [(.int (if 8192 ≤ p1.toInt ∧ p1.toInt ≤ 8203 then 1 else 0))]))
        by_cases q_91 : 8192 ≤ p1.toInt ∧ p1.toInt ≤ 8203
        ·
          refine own_go (fun t k => XS.ifYes X7.here hx rfl (pc0 := 91) (pc' := 133) rfl (hb hby d2_91) rfl (own_bneY q_91) (by decide) (by decide) k) ?_
          show own_End p e below s _ _ _ (T7.setTop (mkF m 133 #[.val (.int p1)] []))
          refine own_go (fun t k => XS.iconst X7.here hx rfl (hb hby d2_133) k) ?_
          show own_End p e below s _ _ _ (T7.setTop (mkF m 134 #[.val (.int p1)] [(.int (0 : Int32))]))
          exact own_retN X7 hx (t := .boolean) hret hlk (by simp) (hb hby d2_134) ⟨own_no (by omega), N8, e8⟩ (by decide) (by decide)
        refine own_go (fun t k => XS.ifNo X7.here hx rfl (hb hby d2_91) rfl (own_bneN q_91) k) ?_
        show own_End p e below s _ _ _ (T7.setTop (mkF m 94 #[.val (.int p1)] []))
        refine own_go (fun t k => XS.iloadN X7.here hx rfl (hb hby d2_94) rfl k) ?_
        show own_End p e below s _ _ _ (T7.setTop (mkF m 95 #[.val (.int p1)] [(.int p1)]))
        refine own_go (fun t k => XS.sipush X7.here hx rfl (hb hby d2_95) k) ?_
        show own_End p e below s _ _ _ (T7.setTop (mkF m 98 #[.val (.int p1)] [(.int (8206 : Int32)), (.int p1)]))
        refine own_go (fun t k => XS.sipush X7.here hx rfl (hb hby d2_98) k) ?_
        show own_End p e below s _ _ _ (T7.setTop (mkF m 101 #[.val (.int p1)] [(.int (8303 : Int32)), (.int (8206 : Int32)), (.int p1)]))
        obtain ⟨v9, T9, L9, X9, hQ9, st9⟩ := own_callS X7 hx hZ (y := (⟨"com/example/frage/frage/xdm/XmlCharactersIsNameStartCharPinLaw", "in", "(III)Z"⟩ : MethodName)) 0 hown (hw _ (List.mem_of_getElem? (i := 20) rfl)) (hw _ (List.mem_of_getElem? (i := 21) rfl)) (hw _ (List.mem_of_getElem? (i := 18) rfl)) (hw _ (List.mem_of_getElem? (i := 22) rfl)) (by decide) (rm3 l Z a0 hw [] p1 (8206 : Int32) (8303 : Int32) h0 n0 Z0 (k2 := 8206) (k3 := 8303) (by decide) (by decide)) e8 (pc := 101) (Ls := #[.val (.int p1)]) [(.int p1), (.int (8206 : Int32)), (.int (8303 : Int32))] [] (by rw [hml]; rfl) rfl rfl (lenOf pd_III_Z rfl) (Nat.le_of_eq rfl) (hb hby d2_101) (by decide) (by decide) (by decide) (by decide)
        obtain ⟨rfl, Nc10, e10⟩ := hQ9
        have N10 := Fr.app N8 Nc10
        refine own_go st9 ?_
        show own_End p e below s _ _ _ (T9.setTop (mkF m 104 #[.val (.int p1)] [(.int (if 8206 ≤ p1.toInt ∧ p1.toInt ≤ 8303 then 1 else 0))]))
        by_cases q_104 : 8206 ≤ p1.toInt ∧ p1.toInt ≤ 8303
        ·
          refine own_go (fun t k => XS.ifYes X9.here hx rfl (pc0 := 104) (pc' := 133) rfl (hb hby d2_104) rfl (own_bneY q_104) (by decide) (by decide) k) ?_
          show own_End p e below s _ _ _ (T9.setTop (mkF m 133 #[.val (.int p1)] []))
          refine own_go (fun t k => XS.iconst X9.here hx rfl (hb hby d2_133) k) ?_
          show own_End p e below s _ _ _ (T9.setTop (mkF m 134 #[.val (.int p1)] [(.int (0 : Int32))]))
          exact own_retN X9 hx (t := .boolean) hret hlk (by simp) (hb hby d2_134) ⟨own_no (by omega), N10, e10⟩ (by decide) (by decide)
        refine own_go (fun t k => XS.ifNo X9.here hx rfl (hb hby d2_104) rfl (own_bneN q_104) k) ?_
        show own_End p e below s _ _ _ (T9.setTop (mkF m 107 #[.val (.int p1)] []))
        refine own_go (fun t k => XS.iloadN X9.here hx rfl (hb hby d2_107) rfl k) ?_
        show own_End p e below s _ _ _ (T9.setTop (mkF m 108 #[.val (.int p1)] [(.int p1)]))
        refine own_go (fun t k => XS.sipush X9.here hx rfl (hb hby d2_108) k) ?_
        show own_End p e below s _ _ _ (T9.setTop (mkF m 111 #[.val (.int p1)] [(.int (8592 : Int32)), (.int p1)]))
        refine own_go (fun t k => XS.sipush X9.here hx rfl (hb hby d2_111) k) ?_
        show own_End p e below s _ _ _ (T9.setTop (mkF m 114 #[.val (.int p1)] [(.int (11263 : Int32)), (.int (8592 : Int32)), (.int p1)]))
        obtain ⟨v11, T11, L11, X11, hQ11, st11⟩ := own_callS X9 hx hZ (y := (⟨"com/example/frage/frage/xdm/XmlCharactersIsNameStartCharPinLaw", "in", "(III)Z"⟩ : MethodName)) 0 hown (hw _ (List.mem_of_getElem? (i := 20) rfl)) (hw _ (List.mem_of_getElem? (i := 21) rfl)) (hw _ (List.mem_of_getElem? (i := 18) rfl)) (hw _ (List.mem_of_getElem? (i := 22) rfl)) (by decide) (rm3 l Z a0 hw [] p1 (8592 : Int32) (11263 : Int32) h0 n0 Z0 (k2 := 8592) (k3 := 11263) (by decide) (by decide)) e10 (pc := 114) (Ls := #[.val (.int p1)]) [(.int p1), (.int (8592 : Int32)), (.int (11263 : Int32))] [] (by rw [hml]; rfl) rfl rfl (lenOf pd_III_Z rfl) (Nat.le_of_eq rfl) (hb hby d2_114) (by decide) (by decide) (by decide) (by decide)
        obtain ⟨rfl, Nc12, e12⟩ := hQ11
        have N12 := Fr.app N10 Nc12
        refine own_go st11 ?_
        show own_End p e below s _ _ _ (T11.setTop (mkF m 117 #[.val (.int p1)] [(.int (if 8592 ≤ p1.toInt ∧ p1.toInt ≤ 11263 then 1 else 0))]))
        by_cases q_117 : 8592 ≤ p1.toInt ∧ p1.toInt ≤ 11263
        ·
          refine own_go (fun t k => XS.ifYes X11.here hx rfl (pc0 := 117) (pc' := 133) rfl (hb hby d2_117) rfl (own_bneY q_117) (by decide) (by decide) k) ?_
          show own_End p e below s _ _ _ (T11.setTop (mkF m 133 #[.val (.int p1)] []))
          refine own_go (fun t k => XS.iconst X11.here hx rfl (hb hby d2_133) k) ?_
          show own_End p e below s _ _ _ (T11.setTop (mkF m 134 #[.val (.int p1)] [(.int (0 : Int32))]))
          exact own_retN X11 hx (t := .boolean) hret hlk (by simp) (hb hby d2_134) ⟨own_no (by omega), N12, e12⟩ (by decide) (by decide)
        refine own_go (fun t k => XS.ifNo X11.here hx rfl (hb hby d2_117) rfl (own_bneN q_117) k) ?_
        show own_End p e below s _ _ _ (T11.setTop (mkF m 120 #[.val (.int p1)] []))
        refine own_go (fun t k => XS.iloadN X11.here hx rfl (hb hby d2_120) rfl k) ?_
        show own_End p e below s _ _ _ (T11.setTop (mkF m 121 #[.val (.int p1)] [(.int p1)]))
        refine own_go (fun t k => XS.sipush X11.here hx rfl (hb hby d2_121) k) ?_
        show own_End p e below s _ _ _ (T11.setTop (mkF m 124 #[.val (.int p1)] [(.int (12272 : Int32)), (.int p1)]))
        refine own_go (fun t k => XS.sipush X11.here hx rfl (hb hby d2_124) k) ?_
        show own_End p e below s _ _ _ (T11.setTop (mkF m 127 #[.val (.int p1)] [(.int (12288 : Int32)), (.int (12272 : Int32)), (.int p1)]))
        obtain ⟨v13, T13, L13, X13, hQ13, st13⟩ := own_callS X11 hx hZ (y := (⟨"com/example/frage/frage/xdm/XmlCharactersIsNameStartCharPinLaw", "in", "(III)Z"⟩ : MethodName)) 0 hown (hw _ (List.mem_of_getElem? (i := 20) rfl)) (hw _ (List.mem_of_getElem? (i := 21) rfl)) (hw _ (List.mem_of_getElem? (i := 18) rfl)) (hw _ (List.mem_of_getElem? (i := 22) rfl)) (by decide) (rm3 l Z a0 hw [] p1 (12272 : Int32) (12288 : Int32) h0 n0 Z0 (k2 := 12272) (k3 := 12288) (by decide) (by decide)) e12 (pc := 127) (Ls := #[.val (.int p1)]) [(.int p1), (.int (12272 : Int32)), (.int (12288 : Int32))] [] (by rw [hml]; rfl) rfl rfl (lenOf pd_III_Z rfl) (Nat.le_of_eq rfl) (hb hby d2_127) (by decide) (by decide) (by decide) (by decide)
        obtain ⟨rfl, Nc14, e14⟩ := hQ13
        have N14 := Fr.app N12 Nc14
        refine own_go st13 ?_
        show own_End p e below s _ _ _ (T13.setTop (mkF m 130 #[.val (.int p1)] [(.int (if 12272 ≤ p1.toInt ∧ p1.toInt ≤ 12288 then 1 else 0))]))
        by_cases q_130 : ¬ (12272 ≤ p1.toInt ∧ p1.toInt ≤ 12288)
        ·
          refine own_go (fun t k => XS.ifYes X13.here hx rfl (pc0 := 130) (pc' := 135) rfl (hb hby d2_130) rfl (own_beqY q_130) (by decide) (by decide) k) ?_
          show own_End p e below s _ _ _ (T13.setTop (mkF m 135 #[.val (.int p1)] []))
          refine own_go (fun t k => XS.iloadN X13.here hx rfl (hb hby d2_135) rfl k) ?_
          show own_End p e below s _ _ _ (T13.setTop (mkF m 136 #[.val (.int p1)] [(.int p1)]))
          refine own_go (X13.ldcInt (own := "com/example/frage/frage/xdm/XmlCharactersIsNameStartCharPinLaw") (index := 14) (v := 55296) hx hown (mvT hZ (hw _ (List.mem_of_getElem? (i := 23) rfl))) (g := (mkF m 136 #[.val (.int p1)] [(.int p1)])) rfl (hb hby d2_136)) ?_
          show own_End p e below s _ _ _ (T13.setTop (mkF m 138 #[.val (.int p1)] [(.int (55296 : Int32)), (.int p1)]))
          refine own_go (X13.ldcInt (own := "com/example/frage/frage/xdm/XmlCharactersIsNameStartCharPinLaw") (index := 15) (v := 63743) hx hown (mvT hZ (hw _ (List.mem_of_getElem? (i := 24) rfl))) (g := (mkF m 138 #[.val (.int p1)] [(.int (55296 : Int32)), (.int p1)])) rfl (hb hby d2_138)) ?_
          show own_End p e below s _ _ _ (T13.setTop (mkF m 140 #[.val (.int p1)] [(.int (63743 : Int32)), (.int (55296 : Int32)), (.int p1)]))
          obtain ⟨v15, T15, L15, X15, hQ15, st15⟩ := own_callS X13 hx hZ (y := (⟨"com/example/frage/frage/xdm/XmlCharactersIsNameStartCharPinLaw", "in", "(III)Z"⟩ : MethodName)) 0 hown (hw _ (List.mem_of_getElem? (i := 20) rfl)) (hw _ (List.mem_of_getElem? (i := 21) rfl)) (hw _ (List.mem_of_getElem? (i := 18) rfl)) (hw _ (List.mem_of_getElem? (i := 22) rfl)) (by decide) (rm3 l Z a0 hw [] p1 (55296 : Int32) (63743 : Int32) h0 n0 Z0 (k2 := 55296) (k3 := 63743) (by decide) (by decide)) e14 (pc := 140) (Ls := #[.val (.int p1)]) [(.int p1), (.int (55296 : Int32)), (.int (63743 : Int32))] [] (by rw [hml]; rfl) rfl rfl (lenOf pd_III_Z rfl) (Nat.le_of_eq rfl) (hb hby d2_140) (by decide) (by decide) (by decide) (by decide)
          obtain ⟨rfl, Nc16, e16⟩ := hQ15
          have N16 := Fr.app N14 Nc16
          refine own_go st15 ?_
          show own_End p e below s _ _ _ (T15.setTop (mkF m 143 #[.val (.int p1)] [(.int (if 55296 ≤ p1.toInt ∧ p1.toInt ≤ 63743 then 1 else 0))]))
          by_cases q_143 : 55296 ≤ p1.toInt ∧ p1.toInt ≤ 63743
          ·
            refine own_go (fun t k => XS.ifYes X15.here hx rfl (pc0 := 143) (pc' := 168) rfl (hb hby d2_143) rfl (own_bneY q_143) (by decide) (by decide) k) ?_
            show own_End p e below s _ _ _ (T15.setTop (mkF m 168 #[.val (.int p1)] []))
            refine own_go (fun t k => XS.iconst X15.here hx rfl (hb hby d2_168) k) ?_
            show own_End p e below s _ _ _ (T15.setTop (mkF m 169 #[.val (.int p1)] [(.int (0 : Int32))]))
            exact own_retN X15 hx (t := .boolean) hret hlk (by simp) (hb hby d2_169) ⟨own_no (by omega), N16, e16⟩ (by decide) (by decide)
          refine own_go (fun t k => XS.ifNo X15.here hx rfl (hb hby d2_143) rfl (own_bneN q_143) k) ?_
          show own_End p e below s _ _ _ (T15.setTop (mkF m 146 #[.val (.int p1)] []))
          refine own_go (fun t k => XS.iloadN X15.here hx rfl (hb hby d2_146) rfl k) ?_
          show own_End p e below s _ _ _ (T15.setTop (mkF m 147 #[.val (.int p1)] [(.int p1)]))
          refine own_go (X15.ldcInt (own := "com/example/frage/frage/xdm/XmlCharactersIsNameStartCharPinLaw") (index := 16) (v := 64976) hx hown (mvT hZ (hw _ (List.mem_of_getElem? (i := 25) rfl))) (g := (mkF m 147 #[.val (.int p1)] [(.int p1)])) rfl (hb hby d2_147)) ?_
          show own_End p e below s _ _ _ (T15.setTop (mkF m 149 #[.val (.int p1)] [(.int (64976 : Int32)), (.int p1)]))
          refine own_go (X15.ldcInt (own := "com/example/frage/frage/xdm/XmlCharactersIsNameStartCharPinLaw") (index := 17) (v := 65007) hx hown (mvT hZ (hw _ (List.mem_of_getElem? (i := 26) rfl))) (g := (mkF m 149 #[.val (.int p1)] [(.int (64976 : Int32)), (.int p1)])) rfl (hb hby d2_149)) ?_
          show own_End p e below s _ _ _ (T15.setTop (mkF m 151 #[.val (.int p1)] [(.int (65007 : Int32)), (.int (64976 : Int32)), (.int p1)]))
          obtain ⟨v17, T17, L17, X17, hQ17, st17⟩ := own_callS X15 hx hZ (y := (⟨"com/example/frage/frage/xdm/XmlCharactersIsNameStartCharPinLaw", "in", "(III)Z"⟩ : MethodName)) 0 hown (hw _ (List.mem_of_getElem? (i := 20) rfl)) (hw _ (List.mem_of_getElem? (i := 21) rfl)) (hw _ (List.mem_of_getElem? (i := 18) rfl)) (hw _ (List.mem_of_getElem? (i := 22) rfl)) (by decide) (rm3 l Z a0 hw [] p1 (64976 : Int32) (65007 : Int32) h0 n0 Z0 (k2 := 64976) (k3 := 65007) (by decide) (by decide)) e16 (pc := 151) (Ls := #[.val (.int p1)]) [(.int p1), (.int (64976 : Int32)), (.int (65007 : Int32))] [] (by rw [hml]; rfl) rfl rfl (lenOf pd_III_Z rfl) (Nat.le_of_eq rfl) (hb hby d2_151) (by decide) (by decide) (by decide) (by decide)
          obtain ⟨rfl, Nc18, e18⟩ := hQ17
          have N18 := Fr.app N16 Nc18
          refine own_go st17 ?_
          show own_End p e below s _ _ _ (T17.setTop (mkF m 154 #[.val (.int p1)] [(.int (if 64976 ≤ p1.toInt ∧ p1.toInt ≤ 65007 then 1 else 0))]))
          by_cases q_154 : 64976 ≤ p1.toInt ∧ p1.toInt ≤ 65007
          ·
            refine own_go (fun t k => XS.ifYes X17.here hx rfl (pc0 := 154) (pc' := 168) rfl (hb hby d2_154) rfl (own_bneY q_154) (by decide) (by decide) k) ?_
            show own_End p e below s _ _ _ (T17.setTop (mkF m 168 #[.val (.int p1)] []))
            refine own_go (fun t k => XS.iconst X17.here hx rfl (hb hby d2_168) k) ?_
            show own_End p e below s _ _ _ (T17.setTop (mkF m 169 #[.val (.int p1)] [(.int (0 : Int32))]))
            exact own_retN X17 hx (t := .boolean) hret hlk (by simp) (hb hby d2_169) ⟨own_no (by omega), N18, e18⟩ (by decide) (by decide)
          refine own_go (fun t k => XS.ifNo X17.here hx rfl (hb hby d2_154) rfl (own_bneN q_154) k) ?_
          show own_End p e below s _ _ _ (T17.setTop (mkF m 157 #[.val (.int p1)] []))
          refine own_go (fun t k => XS.iloadN X17.here hx rfl (hb hby d2_157) rfl k) ?_
          show own_End p e below s _ _ _ (T17.setTop (mkF m 158 #[.val (.int p1)] [(.int p1)]))
          refine own_go (X17.ldcInt (own := "com/example/frage/frage/xdm/XmlCharactersIsNameStartCharPinLaw") (index := 18) (v := 65534) hx hown (mvT hZ (hw _ (List.mem_of_getElem? (i := 27) rfl))) (g := (mkF m 158 #[.val (.int p1)] [(.int p1)])) rfl (hb hby d2_158)) ?_
          show own_End p e below s _ _ _ (T17.setTop (mkF m 160 #[.val (.int p1)] [(.int (65534 : Int32)), (.int p1)]))
          refine own_go (X17.ldcInt (own := "com/example/frage/frage/xdm/XmlCharactersIsNameStartCharPinLaw") (index := 19) (v := 65535) hx hown (mvT hZ (hw _ (List.mem_of_getElem? (i := 28) rfl))) (g := (mkF m 160 #[.val (.int p1)] [(.int (65534 : Int32)), (.int p1)])) rfl (hb hby d2_160)) ?_
          show own_End p e below s _ _ _ (T17.setTop (mkF m 162 #[.val (.int p1)] [(.int (65535 : Int32)), (.int (65534 : Int32)), (.int p1)]))
          obtain ⟨v19, T19, L19, X19, hQ19, st19⟩ := own_callS X17 hx hZ (y := (⟨"com/example/frage/frage/xdm/XmlCharactersIsNameStartCharPinLaw", "in", "(III)Z"⟩ : MethodName)) 0 hown (hw _ (List.mem_of_getElem? (i := 20) rfl)) (hw _ (List.mem_of_getElem? (i := 21) rfl)) (hw _ (List.mem_of_getElem? (i := 18) rfl)) (hw _ (List.mem_of_getElem? (i := 22) rfl)) (by decide) (rm3 l Z a0 hw [] p1 (65534 : Int32) (65535 : Int32) h0 n0 Z0 (k2 := 65534) (k3 := 65535) (by decide) (by decide)) e18 (pc := 162) (Ls := #[.val (.int p1)]) [(.int p1), (.int (65534 : Int32)), (.int (65535 : Int32))] [] (by rw [hml]; rfl) rfl rfl (lenOf pd_III_Z rfl) (Nat.le_of_eq rfl) (hb hby d2_162) (by decide) (by decide) (by decide) (by decide)
          obtain ⟨rfl, Nc20, e20⟩ := hQ19
          have N20 := Fr.app N18 Nc20
          refine own_go st19 ?_
          show own_End p e below s _ _ _ (T19.setTop (mkF m 165 #[.val (.int p1)] [(.int (if 65534 ≤ p1.toInt ∧ p1.toInt ≤ 65535 then 1 else 0))]))
          by_cases q_165 : ¬ (65534 ≤ p1.toInt ∧ p1.toInt ≤ 65535)
          ·
            refine own_go (fun t k => XS.ifYes X19.here hx rfl (pc0 := 165) (pc' := 170) rfl (hb hby d2_165) rfl (own_beqY q_165) (by decide) (by decide) k) ?_
            show own_End p e below s _ _ _ (T19.setTop (mkF m 170 #[.val (.int p1)] []))
            refine own_go (fun t k => XS.iconst X19.here hx rfl (hb hby d2_170) k) ?_
            show own_End p e below s _ _ _ (T19.setTop (mkF m 171 #[.val (.int p1)] [(.int (1 : Int32))]))
            exact own_retN X19 hx (t := .boolean) hret hlk (by simp) (hb hby d2_171) ⟨own_yes (by omega), N20, e20⟩ (by decide) (by decide)
          refine own_go (fun t k => XS.ifNo X19.here hx rfl (hb hby d2_165) rfl (own_beqN q_165) k) ?_
          show own_End p e below s _ _ _ (T19.setTop (mkF m 168 #[.val (.int p1)] []))
          refine own_go (fun t k => XS.iconst X19.here hx rfl (hb hby d2_168) k) ?_
          show own_End p e below s _ _ _ (T19.setTop (mkF m 169 #[.val (.int p1)] [(.int (0 : Int32))]))
          exact own_retN X19 hx (t := .boolean) hret hlk (by simp) (hb hby d2_169) ⟨own_no (by omega), N20, e20⟩ (by decide) (by decide)
        refine own_go (fun t k => XS.ifNo X13.here hx rfl (hb hby d2_130) rfl (own_beqN q_130) k) ?_
        show own_End p e below s _ _ _ (T13.setTop (mkF m 133 #[.val (.int p1)] []))
        refine own_go (fun t k => XS.iconst X13.here hx rfl (hb hby d2_133) k) ?_
        show own_End p e below s _ _ _ (T13.setTop (mkF m 134 #[.val (.int p1)] [(.int (0 : Int32))]))
        exact own_retN X13 hx (t := .boolean) hret hlk (by simp) (hb hby d2_134) ⟨own_no (by omega), N14, e14⟩ (by decide) (by decide)
      refine own_go (fun t k => XS.icmpNo X5.here hx rfl (hb hby d2_76) rfl (own_neN (k := 894) (by decide) q_76) k) ?_
      show own_End p e below s _ _ _ (T5.setTop (mkF m 79 #[.val (.int p1)] []))
      refine own_go (fun t k => XS.iconst X5.here hx rfl (hb hby d2_79) k) ?_
      show own_End p e below s _ _ _ (T5.setTop (mkF m 80 #[.val (.int p1)] [(.int (0 : Int32))]))
      exact own_retN X5 hx (t := .boolean) hret hlk (by simp) (hb hby d2_80) ⟨own_no (by omega), N6, e6⟩ (by decide) (by decide)
    refine own_go (fun t k => XS.icmpNo X3.here hx rfl (hb hby d2_54) rfl (own_neN (k := 247) (by decide) q_54) k) ?_
    show own_End p e below s _ _ _ (T3.setTop (mkF m 57 #[.val (.int p1)] []))
    refine own_go (fun t k => XS.iconst X3.here hx rfl (hb hby d2_57) k) ?_
    show own_End p e below s _ _ _ (T3.setTop (mkF m 58 #[.val (.int p1)] [(.int (0 : Int32))]))
    exact own_retN X3 hx (t := .boolean) hret hlk (by simp) (hb hby d2_58) ⟨own_no (by omega), N4, e4⟩ (by decide) (by decide)
  refine own_go (fun t k => XS.icmpNo X0.here hx rfl (hb hby d2_9) rfl (own_leN (k := 983039) (by decide) q_9) k) ?_
  show own_End p e below s _ _ _ (s0.setTop (mkF m 12 #[.val (.int p1)] []))
  refine own_go (fun t k => XS.iconst X0.here hx rfl (hb hby d2_12) k) ?_
  show own_End p e below s _ _ _ (s0.setTop (mkF m 13 #[.val (.int p1)] [(.int (0 : Int32))]))
  exact own_retN X0 hx (t := .boolean) hret hlk (by simp) (hb hby d2_13) ⟨own_no (by omega), N0, e0⟩ (by decide) (by decide)
theorem own_ix (x n : Int32) (hn : 0 < n.toInt) : 0 ≤ ((x &&& 2147483647) % n).toInt ∧ ((x &&& 2147483647) % n).toInt < n.toInt := by
  have h1 := (c_and x 2147483647 (by decide)).1
  have h2 := (c_iremV (x &&& 2147483647) n).1 h1 hn
  exact ⟨h2.1, h2.2.1⟩
set_option maxRecDepth 65536 in
set_option maxHeartbeats 40000000 in
theorem rm0 (l : Launch) (Z : State) (a0 : Array Value) (hw : ∀ d ∈ tables_1, d.before a0 Z = true) (ws : List Jvm.Cond) (p1 : Int32) (p2 : Int32) (p3 : Int32) (h0 : Heap) (n0 : Nat) (Z0 : n0 ≤ h0.size)  :
    own_Met l x code maxLocals ret ws room_1 #[(.int p1), (.int p2), (.int p3)] Z h0 (fun v h L => v = some (.int 1) ∧ Fr n0 L) := by
  refine own_body (plainFor_of_name pn_XmlCharactersIsNameStartCharPinLaw) ?_
  intro p e s m below meth c s0 X0 hx hby hml hret hlk hown hnm hZ e0
  replace hown : s.vm.findClass "com/example/frage/frage/xdm/XmlCharactersIsNameStartCharPinLaw" = some m.cls := hown
  have N0 := Fr.nil n0
  have ef : entryFrame m #[(.int p1), (.int p2), (.int p3)] maxLocals = (mkF m 0 #[.val (.int p1), .val (.int p2), .val (.int p3), .unset, .unset, .unset, .unset, .unset, .unset] []) := by first | (simp [entryFrame, mkF, argsToLocals, Value.category, maxLocals]; done) | rfl
  rw [ef]
  show own_End p e below s _ _ _ (s0.setTop (mkF m 0 #[.val (.int p1), .val (.int p2), .val (.int p3), .unset, .unset, .unset, .unset, .unset, .unset] []))
  refine own_go (fun t k => XS.bipush X0.here hx rfl (hb hby at_0) k) ?_
  show own_End p e below s _ _ _ (s0.setTop (mkF m 2 #[.val (.int p1), .val (.int p2), .val (.int p3), .unset, .unset, .unset, .unset, .unset, .unset] [(.int (30 : Int32))]))
  obtain ⟨T21, h21, k21, X21, e21, E21, A21, st21⟩ := newP X0 hx hZ (hw _ (List.mem_of_getElem? (i := 0) rfl)) e0 (g := (mkF m 2 #[.val (.int p1), .val (.int p2), .val (.int p3), .unset, .unset, .unset, .unset, .unset, .unset] [(.int (30 : Int32))])) rfl (hb hby at_2) rfl (by decide) (cap := 30) (by decide) (by decide) (by decide) (by decide)
  obtain ⟨b21, gb21⟩ : ∃ z, z = h0.size := ⟨_, rfl⟩
  rw [← gb21] at A21 st21
  have A21a := own_A.of (h' := h21) A21 (j := 30) (by decide) (by decide)
  have nb21 : n0 ≤ b21 := by rw [gb21]; exact Z0
  have Z21 : n0 ≤ h21.size := Nat.le_trans Z0 E21.1
  refine own_go st21 ?_
  show own_End p e below s _ _ _ (T21.setTop (mkF m 4 #[.val (.int p1), .val (.int p2), .val (.int p3), .unset, .unset, .unset, .unset, .unset, .unset] [(.ref b21)]))
  refine own_go (fun t k => XS.dup X21.here hx rfl (hb hby at_4) rfl rfl k) ?_
  show own_End p e below s _ _ _ (T21.setTop (mkF m 5 #[.val (.int p1), .val (.int p2), .val (.int p3), .unset, .unset, .unset, .unset, .unset, .unset] [(.ref b21), (.ref b21)]))
  refine own_go (fun t k => XS.iconst X21.here hx rfl (hb hby at_5) k) ?_
  show own_End p e below s _ _ _ (T21.setTop (mkF m 6 #[.val (.int p1), .val (.int p2), .val (.int p3), .unset, .unset, .unset, .unset, .unset, .unset] [(.int (0 : Int32)), (.ref b21), (.ref b21)]))
  refine own_go (fun t k => XS.bipush X21.here hx rfl (hb hby at_6) k) ?_
  show own_End p e below s _ _ _ (T21.setTop (mkF m 8 #[.val (.int p1), .val (.int p2), .val (.int p3), .unset, .unset, .unset, .unset, .unset, .unset] [(.int (58 : Int32)), (.int (0 : Int32)), (.ref b21), (.ref b21)]))
  obtain ⟨T22, h22, X22, e22, W22, A22, st22⟩ := own_stI X21 hx hZ e21 A21a (j := (0 : Int32)) (x := (58 : Int32)) (by decide) (by decide) (pc := 8) (Ls := #[.val (.int p1), .val (.int p2), .val (.int p3), .unset, .unset, .unset, .unset, .unset, .unset]) (rest := [(.ref b21)]) (hb hby at_8)
  have N22 := Fr.snoc X22 N0 nb21
  have Z22 : n0 ≤ h22.size := by rw [W22.size]; exact Z21
  refine own_go st22 ?_
  show own_End p e below s _ _ _ (T22.setTop (mkF m 9 #[.val (.int p1), .val (.int p2), .val (.int p3), .unset, .unset, .unset, .unset, .unset, .unset] [(.ref b21)]))
  refine own_go (fun t k => XS.dup X22.here hx rfl (hb hby at_9) rfl rfl k) ?_
  show own_End p e below s _ _ _ (T22.setTop (mkF m 10 #[.val (.int p1), .val (.int p2), .val (.int p3), .unset, .unset, .unset, .unset, .unset, .unset] [(.ref b21), (.ref b21)]))
  refine own_go (fun t k => XS.iconst X22.here hx rfl (hb hby at_10) k) ?_
  show own_End p e below s _ _ _ (T22.setTop (mkF m 11 #[.val (.int p1), .val (.int p2), .val (.int p3), .unset, .unset, .unset, .unset, .unset, .unset] [(.int (1 : Int32)), (.ref b21), (.ref b21)]))
  refine own_go (fun t k => XS.bipush X22.here hx rfl (hb hby at_11) k) ?_
  show own_End p e below s _ _ _ (T22.setTop (mkF m 13 #[.val (.int p1), .val (.int p2), .val (.int p3), .unset, .unset, .unset, .unset, .unset, .unset] [(.int (65 : Int32)), (.int (1 : Int32)), (.ref b21), (.ref b21)]))
  obtain ⟨T24, h24, X24, e24, W24, A24, st24⟩ := own_stI X22 hx hZ e22 A22 (j := (1 : Int32)) (x := (65 : Int32)) (by decide) (by decide) (pc := 13) (Ls := #[.val (.int p1), .val (.int p2), .val (.int p3), .unset, .unset, .unset, .unset, .unset, .unset]) (rest := [(.ref b21)]) (hb hby at_13)
  have N24 := Fr.snoc X24 N22 nb21
  have Z24 : n0 ≤ h24.size := by rw [W24.size]; exact Z22
  refine own_go st24 ?_
  show own_End p e below s _ _ _ (T24.setTop (mkF m 14 #[.val (.int p1), .val (.int p2), .val (.int p3), .unset, .unset, .unset, .unset, .unset, .unset] [(.ref b21)]))
  refine own_go (fun t k => XS.dup X24.here hx rfl (hb hby at_14) rfl rfl k) ?_
  show own_End p e below s _ _ _ (T24.setTop (mkF m 15 #[.val (.int p1), .val (.int p2), .val (.int p3), .unset, .unset, .unset, .unset, .unset, .unset] [(.ref b21), (.ref b21)]))
  refine own_go (fun t k => XS.iconst X24.here hx rfl (hb hby at_15) k) ?_
  show own_End p e below s _ _ _ (T24.setTop (mkF m 16 #[.val (.int p1), .val (.int p2), .val (.int p3), .unset, .unset, .unset, .unset, .unset, .unset] [(.int (2 : Int32)), (.ref b21), (.ref b21)]))
  refine own_go (fun t k => XS.bipush X24.here hx rfl (hb hby at_16) k) ?_
  show own_End p e below s _ _ _ (T24.setTop (mkF m 18 #[.val (.int p1), .val (.int p2), .val (.int p3), .unset, .unset, .unset, .unset, .unset, .unset] [(.int (90 : Int32)), (.int (2 : Int32)), (.ref b21), (.ref b21)]))
  obtain ⟨T26, h26, X26, e26, W26, A26, st26⟩ := own_stI X24 hx hZ e24 A24 (j := (2 : Int32)) (x := (90 : Int32)) (by decide) (by decide) (pc := 18) (Ls := #[.val (.int p1), .val (.int p2), .val (.int p3), .unset, .unset, .unset, .unset, .unset, .unset]) (rest := [(.ref b21)]) (hb hby at_18)
  have N26 := Fr.snoc X26 N24 nb21
  have Z26 : n0 ≤ h26.size := by rw [W26.size]; exact Z24
  refine own_go st26 ?_
  show own_End p e below s _ _ _ (T26.setTop (mkF m 19 #[.val (.int p1), .val (.int p2), .val (.int p3), .unset, .unset, .unset, .unset, .unset, .unset] [(.ref b21)]))
  refine own_go (fun t k => XS.dup X26.here hx rfl (hb hby at_19) rfl rfl k) ?_
  show own_End p e below s _ _ _ (T26.setTop (mkF m 20 #[.val (.int p1), .val (.int p2), .val (.int p3), .unset, .unset, .unset, .unset, .unset, .unset] [(.ref b21), (.ref b21)]))
  refine own_go (fun t k => XS.iconst X26.here hx rfl (hb hby at_20) k) ?_
  show own_End p e below s _ _ _ (T26.setTop (mkF m 21 #[.val (.int p1), .val (.int p2), .val (.int p3), .unset, .unset, .unset, .unset, .unset, .unset] [(.int (3 : Int32)), (.ref b21), (.ref b21)]))
  refine own_go (fun t k => XS.bipush X26.here hx rfl (hb hby at_21) k) ?_
  show own_End p e below s _ _ _ (T26.setTop (mkF m 23 #[.val (.int p1), .val (.int p2), .val (.int p3), .unset, .unset, .unset, .unset, .unset, .unset] [(.int (95 : Int32)), (.int (3 : Int32)), (.ref b21), (.ref b21)]))
  obtain ⟨T28, h28, X28, e28, W28, A28, st28⟩ := own_stI X26 hx hZ e26 A26 (j := (3 : Int32)) (x := (95 : Int32)) (by decide) (by decide) (pc := 23) (Ls := #[.val (.int p1), .val (.int p2), .val (.int p3), .unset, .unset, .unset, .unset, .unset, .unset]) (rest := [(.ref b21)]) (hb hby at_23)
  have N28 := Fr.snoc X28 N26 nb21
  have Z28 : n0 ≤ h28.size := by rw [W28.size]; exact Z26
  refine own_go st28 ?_
  show own_End p e below s _ _ _ (T28.setTop (mkF m 24 #[.val (.int p1), .val (.int p2), .val (.int p3), .unset, .unset, .unset, .unset, .unset, .unset] [(.ref b21)]))
  refine own_go (fun t k => XS.dup X28.here hx rfl (hb hby at_24) rfl rfl k) ?_
  show own_End p e below s _ _ _ (T28.setTop (mkF m 25 #[.val (.int p1), .val (.int p2), .val (.int p3), .unset, .unset, .unset, .unset, .unset, .unset] [(.ref b21), (.ref b21)]))
  refine own_go (fun t k => XS.iconst X28.here hx rfl (hb hby at_25) k) ?_
  show own_End p e below s _ _ _ (T28.setTop (mkF m 26 #[.val (.int p1), .val (.int p2), .val (.int p3), .unset, .unset, .unset, .unset, .unset, .unset] [(.int (4 : Int32)), (.ref b21), (.ref b21)]))
  refine own_go (fun t k => XS.bipush X28.here hx rfl (hb hby at_26) k) ?_
  show own_End p e below s _ _ _ (T28.setTop (mkF m 28 #[.val (.int p1), .val (.int p2), .val (.int p3), .unset, .unset, .unset, .unset, .unset, .unset] [(.int (97 : Int32)), (.int (4 : Int32)), (.ref b21), (.ref b21)]))
  obtain ⟨T30, h30, X30, e30, W30, A30, st30⟩ := own_stI X28 hx hZ e28 A28 (j := (4 : Int32)) (x := (97 : Int32)) (by decide) (by decide) (pc := 28) (Ls := #[.val (.int p1), .val (.int p2), .val (.int p3), .unset, .unset, .unset, .unset, .unset, .unset]) (rest := [(.ref b21)]) (hb hby at_28)
  have N30 := Fr.snoc X30 N28 nb21
  have Z30 : n0 ≤ h30.size := by rw [W30.size]; exact Z28
  refine own_go st30 ?_
  show own_End p e below s _ _ _ (T30.setTop (mkF m 29 #[.val (.int p1), .val (.int p2), .val (.int p3), .unset, .unset, .unset, .unset, .unset, .unset] [(.ref b21)]))
  refine own_go (fun t k => XS.dup X30.here hx rfl (hb hby at_29) rfl rfl k) ?_
  show own_End p e below s _ _ _ (T30.setTop (mkF m 30 #[.val (.int p1), .val (.int p2), .val (.int p3), .unset, .unset, .unset, .unset, .unset, .unset] [(.ref b21), (.ref b21)]))
  refine own_go (fun t k => XS.iconst X30.here hx rfl (hb hby at_30) k) ?_
  show own_End p e below s _ _ _ (T30.setTop (mkF m 31 #[.val (.int p1), .val (.int p2), .val (.int p3), .unset, .unset, .unset, .unset, .unset, .unset] [(.int (5 : Int32)), (.ref b21), (.ref b21)]))
  refine own_go (fun t k => XS.bipush X30.here hx rfl (hb hby at_31) k) ?_
  show own_End p e below s _ _ _ (T30.setTop (mkF m 33 #[.val (.int p1), .val (.int p2), .val (.int p3), .unset, .unset, .unset, .unset, .unset, .unset] [(.int (122 : Int32)), (.int (5 : Int32)), (.ref b21), (.ref b21)]))
  obtain ⟨T32, h32, X32, e32, W32, A32, st32⟩ := own_stI X30 hx hZ e30 A30 (j := (5 : Int32)) (x := (122 : Int32)) (by decide) (by decide) (pc := 33) (Ls := #[.val (.int p1), .val (.int p2), .val (.int p3), .unset, .unset, .unset, .unset, .unset, .unset]) (rest := [(.ref b21)]) (hb hby at_33)
  have N32 := Fr.snoc X32 N30 nb21
  have Z32 : n0 ≤ h32.size := by rw [W32.size]; exact Z30
  refine own_go st32 ?_
  show own_End p e below s _ _ _ (T32.setTop (mkF m 34 #[.val (.int p1), .val (.int p2), .val (.int p3), .unset, .unset, .unset, .unset, .unset, .unset] [(.ref b21)]))
  refine own_go (fun t k => XS.dup X32.here hx rfl (hb hby at_34) rfl rfl k) ?_
  show own_End p e below s _ _ _ (T32.setTop (mkF m 35 #[.val (.int p1), .val (.int p2), .val (.int p3), .unset, .unset, .unset, .unset, .unset, .unset] [(.ref b21), (.ref b21)]))
  refine own_go (fun t k => XS.bipush X32.here hx rfl (hb hby at_35) k) ?_
  show own_End p e below s _ _ _ (T32.setTop (mkF m 37 #[.val (.int p1), .val (.int p2), .val (.int p3), .unset, .unset, .unset, .unset, .unset, .unset] [(.int (6 : Int32)), (.ref b21), (.ref b21)]))
  refine own_go (fun t k => XS.sipush X32.here hx rfl (hb hby at_37) k) ?_
  show own_End p e below s _ _ _ (T32.setTop (mkF m 40 #[.val (.int p1), .val (.int p2), .val (.int p3), .unset, .unset, .unset, .unset, .unset, .unset] [(.int (192 : Int32)), (.int (6 : Int32)), (.ref b21), (.ref b21)]))
  obtain ⟨T34, h34, X34, e34, W34, A34, st34⟩ := own_stI X32 hx hZ e32 A32 (j := (6 : Int32)) (x := (192 : Int32)) (by decide) (by decide) (pc := 40) (Ls := #[.val (.int p1), .val (.int p2), .val (.int p3), .unset, .unset, .unset, .unset, .unset, .unset]) (rest := [(.ref b21)]) (hb hby at_40)
  have N34 := Fr.snoc X34 N32 nb21
  have Z34 : n0 ≤ h34.size := by rw [W34.size]; exact Z32
  refine own_go st34 ?_
  show own_End p e below s _ _ _ (T34.setTop (mkF m 41 #[.val (.int p1), .val (.int p2), .val (.int p3), .unset, .unset, .unset, .unset, .unset, .unset] [(.ref b21)]))
  refine own_go (fun t k => XS.dup X34.here hx rfl (hb hby at_41) rfl rfl k) ?_
  show own_End p e below s _ _ _ (T34.setTop (mkF m 42 #[.val (.int p1), .val (.int p2), .val (.int p3), .unset, .unset, .unset, .unset, .unset, .unset] [(.ref b21), (.ref b21)]))
  refine own_go (fun t k => XS.bipush X34.here hx rfl (hb hby at_42) k) ?_
  show own_End p e below s _ _ _ (T34.setTop (mkF m 44 #[.val (.int p1), .val (.int p2), .val (.int p3), .unset, .unset, .unset, .unset, .unset, .unset] [(.int (7 : Int32)), (.ref b21), (.ref b21)]))
  refine own_go (fun t k => XS.sipush X34.here hx rfl (hb hby at_44) k) ?_
  show own_End p e below s _ _ _ (T34.setTop (mkF m 47 #[.val (.int p1), .val (.int p2), .val (.int p3), .unset, .unset, .unset, .unset, .unset, .unset] [(.int (214 : Int32)), (.int (7 : Int32)), (.ref b21), (.ref b21)]))
  obtain ⟨T36, h36, X36, e36, W36, A36, st36⟩ := own_stI X34 hx hZ e34 A34 (j := (7 : Int32)) (x := (214 : Int32)) (by decide) (by decide) (pc := 47) (Ls := #[.val (.int p1), .val (.int p2), .val (.int p3), .unset, .unset, .unset, .unset, .unset, .unset]) (rest := [(.ref b21)]) (hb hby at_47)
  have N36 := Fr.snoc X36 N34 nb21
  have Z36 : n0 ≤ h36.size := by rw [W36.size]; exact Z34
  refine own_go st36 ?_
  show own_End p e below s _ _ _ (T36.setTop (mkF m 48 #[.val (.int p1), .val (.int p2), .val (.int p3), .unset, .unset, .unset, .unset, .unset, .unset] [(.ref b21)]))
  refine own_go (fun t k => XS.dup X36.here hx rfl (hb hby at_48) rfl rfl k) ?_
  show own_End p e below s _ _ _ (T36.setTop (mkF m 49 #[.val (.int p1), .val (.int p2), .val (.int p3), .unset, .unset, .unset, .unset, .unset, .unset] [(.ref b21), (.ref b21)]))
  refine own_go (fun t k => XS.bipush X36.here hx rfl (hb hby at_49) k) ?_
  show own_End p e below s _ _ _ (T36.setTop (mkF m 51 #[.val (.int p1), .val (.int p2), .val (.int p3), .unset, .unset, .unset, .unset, .unset, .unset] [(.int (8 : Int32)), (.ref b21), (.ref b21)]))
  refine own_go (fun t k => XS.sipush X36.here hx rfl (hb hby at_51) k) ?_
  show own_End p e below s _ _ _ (T36.setTop (mkF m 54 #[.val (.int p1), .val (.int p2), .val (.int p3), .unset, .unset, .unset, .unset, .unset, .unset] [(.int (216 : Int32)), (.int (8 : Int32)), (.ref b21), (.ref b21)]))
  obtain ⟨T38, h38, X38, e38, W38, A38, st38⟩ := own_stI X36 hx hZ e36 A36 (j := (8 : Int32)) (x := (216 : Int32)) (by decide) (by decide) (pc := 54) (Ls := #[.val (.int p1), .val (.int p2), .val (.int p3), .unset, .unset, .unset, .unset, .unset, .unset]) (rest := [(.ref b21)]) (hb hby at_54)
  have N38 := Fr.snoc X38 N36 nb21
  have Z38 : n0 ≤ h38.size := by rw [W38.size]; exact Z36
  refine own_go st38 ?_
  show own_End p e below s _ _ _ (T38.setTop (mkF m 55 #[.val (.int p1), .val (.int p2), .val (.int p3), .unset, .unset, .unset, .unset, .unset, .unset] [(.ref b21)]))
  refine own_go (fun t k => XS.dup X38.here hx rfl (hb hby at_55) rfl rfl k) ?_
  show own_End p e below s _ _ _ (T38.setTop (mkF m 56 #[.val (.int p1), .val (.int p2), .val (.int p3), .unset, .unset, .unset, .unset, .unset, .unset] [(.ref b21), (.ref b21)]))
  refine own_go (fun t k => XS.bipush X38.here hx rfl (hb hby at_56) k) ?_
  show own_End p e below s _ _ _ (T38.setTop (mkF m 58 #[.val (.int p1), .val (.int p2), .val (.int p3), .unset, .unset, .unset, .unset, .unset, .unset] [(.int (9 : Int32)), (.ref b21), (.ref b21)]))
  refine own_go (fun t k => XS.sipush X38.here hx rfl (hb hby at_58) k) ?_
  show own_End p e below s _ _ _ (T38.setTop (mkF m 61 #[.val (.int p1), .val (.int p2), .val (.int p3), .unset, .unset, .unset, .unset, .unset, .unset] [(.int (246 : Int32)), (.int (9 : Int32)), (.ref b21), (.ref b21)]))
  obtain ⟨T40, h40, X40, e40, W40, A40, st40⟩ := own_stI X38 hx hZ e38 A38 (j := (9 : Int32)) (x := (246 : Int32)) (by decide) (by decide) (pc := 61) (Ls := #[.val (.int p1), .val (.int p2), .val (.int p3), .unset, .unset, .unset, .unset, .unset, .unset]) (rest := [(.ref b21)]) (hb hby at_61)
  have N40 := Fr.snoc X40 N38 nb21
  have Z40 : n0 ≤ h40.size := by rw [W40.size]; exact Z38
  refine own_go st40 ?_
  show own_End p e below s _ _ _ (T40.setTop (mkF m 62 #[.val (.int p1), .val (.int p2), .val (.int p3), .unset, .unset, .unset, .unset, .unset, .unset] [(.ref b21)]))
  refine own_go (fun t k => XS.dup X40.here hx rfl (hb hby at_62) rfl rfl k) ?_
  show own_End p e below s _ _ _ (T40.setTop (mkF m 63 #[.val (.int p1), .val (.int p2), .val (.int p3), .unset, .unset, .unset, .unset, .unset, .unset] [(.ref b21), (.ref b21)]))
  refine own_go (fun t k => XS.bipush X40.here hx rfl (hb hby at_63) k) ?_
  show own_End p e below s _ _ _ (T40.setTop (mkF m 65 #[.val (.int p1), .val (.int p2), .val (.int p3), .unset, .unset, .unset, .unset, .unset, .unset] [(.int (10 : Int32)), (.ref b21), (.ref b21)]))
  refine own_go (fun t k => XS.sipush X40.here hx rfl (hb hby at_65) k) ?_
  show own_End p e below s _ _ _ (T40.setTop (mkF m 68 #[.val (.int p1), .val (.int p2), .val (.int p3), .unset, .unset, .unset, .unset, .unset, .unset] [(.int (248 : Int32)), (.int (10 : Int32)), (.ref b21), (.ref b21)]))
  obtain ⟨T42, h42, X42, e42, W42, A42, st42⟩ := own_stI X40 hx hZ e40 A40 (j := (10 : Int32)) (x := (248 : Int32)) (by decide) (by decide) (pc := 68) (Ls := #[.val (.int p1), .val (.int p2), .val (.int p3), .unset, .unset, .unset, .unset, .unset, .unset]) (rest := [(.ref b21)]) (hb hby at_68)
  have N42 := Fr.snoc X42 N40 nb21
  have Z42 : n0 ≤ h42.size := by rw [W42.size]; exact Z40
  refine own_go st42 ?_
  show own_End p e below s _ _ _ (T42.setTop (mkF m 69 #[.val (.int p1), .val (.int p2), .val (.int p3), .unset, .unset, .unset, .unset, .unset, .unset] [(.ref b21)]))
  refine own_go (fun t k => XS.dup X42.here hx rfl (hb hby at_69) rfl rfl k) ?_
  show own_End p e below s _ _ _ (T42.setTop (mkF m 70 #[.val (.int p1), .val (.int p2), .val (.int p3), .unset, .unset, .unset, .unset, .unset, .unset] [(.ref b21), (.ref b21)]))
  refine own_go (fun t k => XS.bipush X42.here hx rfl (hb hby at_70) k) ?_
  show own_End p e below s _ _ _ (T42.setTop (mkF m 72 #[.val (.int p1), .val (.int p2), .val (.int p3), .unset, .unset, .unset, .unset, .unset, .unset] [(.int (11 : Int32)), (.ref b21), (.ref b21)]))
  refine own_go (fun t k => XS.sipush X42.here hx rfl (hb hby at_72) k) ?_
  show own_End p e below s _ _ _ (T42.setTop (mkF m 75 #[.val (.int p1), .val (.int p2), .val (.int p3), .unset, .unset, .unset, .unset, .unset, .unset] [(.int (767 : Int32)), (.int (11 : Int32)), (.ref b21), (.ref b21)]))
  obtain ⟨T44, h44, X44, e44, W44, A44, st44⟩ := own_stI X42 hx hZ e42 A42 (j := (11 : Int32)) (x := (767 : Int32)) (by decide) (by decide) (pc := 75) (Ls := #[.val (.int p1), .val (.int p2), .val (.int p3), .unset, .unset, .unset, .unset, .unset, .unset]) (rest := [(.ref b21)]) (hb hby at_75)
  have N44 := Fr.snoc X44 N42 nb21
  have Z44 : n0 ≤ h44.size := by rw [W44.size]; exact Z42
  refine own_go st44 ?_
  show own_End p e below s _ _ _ (T44.setTop (mkF m 76 #[.val (.int p1), .val (.int p2), .val (.int p3), .unset, .unset, .unset, .unset, .unset, .unset] [(.ref b21)]))
  refine own_go (fun t k => XS.dup X44.here hx rfl (hb hby at_76) rfl rfl k) ?_
  show own_End p e below s _ _ _ (T44.setTop (mkF m 77 #[.val (.int p1), .val (.int p2), .val (.int p3), .unset, .unset, .unset, .unset, .unset, .unset] [(.ref b21), (.ref b21)]))
  refine own_go (fun t k => XS.bipush X44.here hx rfl (hb hby at_77) k) ?_
  show own_End p e below s _ _ _ (T44.setTop (mkF m 79 #[.val (.int p1), .val (.int p2), .val (.int p3), .unset, .unset, .unset, .unset, .unset, .unset] [(.int (12 : Int32)), (.ref b21), (.ref b21)]))
  refine own_go (fun t k => XS.sipush X44.here hx rfl (hb hby at_79) k) ?_
  show own_End p e below s _ _ _ (T44.setTop (mkF m 82 #[.val (.int p1), .val (.int p2), .val (.int p3), .unset, .unset, .unset, .unset, .unset, .unset] [(.int (880 : Int32)), (.int (12 : Int32)), (.ref b21), (.ref b21)]))
  obtain ⟨T46, h46, X46, e46, W46, A46, st46⟩ := own_stI X44 hx hZ e44 A44 (j := (12 : Int32)) (x := (880 : Int32)) (by decide) (by decide) (pc := 82) (Ls := #[.val (.int p1), .val (.int p2), .val (.int p3), .unset, .unset, .unset, .unset, .unset, .unset]) (rest := [(.ref b21)]) (hb hby at_82)
  have N46 := Fr.snoc X46 N44 nb21
  have Z46 : n0 ≤ h46.size := by rw [W46.size]; exact Z44
  refine own_go st46 ?_
  show own_End p e below s _ _ _ (T46.setTop (mkF m 83 #[.val (.int p1), .val (.int p2), .val (.int p3), .unset, .unset, .unset, .unset, .unset, .unset] [(.ref b21)]))
  refine own_go (fun t k => XS.dup X46.here hx rfl (hb hby at_83) rfl rfl k) ?_
  show own_End p e below s _ _ _ (T46.setTop (mkF m 84 #[.val (.int p1), .val (.int p2), .val (.int p3), .unset, .unset, .unset, .unset, .unset, .unset] [(.ref b21), (.ref b21)]))
  refine own_go (fun t k => XS.bipush X46.here hx rfl (hb hby at_84) k) ?_
  show own_End p e below s _ _ _ (T46.setTop (mkF m 86 #[.val (.int p1), .val (.int p2), .val (.int p3), .unset, .unset, .unset, .unset, .unset, .unset] [(.int (13 : Int32)), (.ref b21), (.ref b21)]))
  refine own_go (fun t k => XS.sipush X46.here hx rfl (hb hby at_86) k) ?_
  show own_End p e below s _ _ _ (T46.setTop (mkF m 89 #[.val (.int p1), .val (.int p2), .val (.int p3), .unset, .unset, .unset, .unset, .unset, .unset] [(.int (893 : Int32)), (.int (13 : Int32)), (.ref b21), (.ref b21)]))
  obtain ⟨T48, h48, X48, e48, W48, A48, st48⟩ := own_stI X46 hx hZ e46 A46 (j := (13 : Int32)) (x := (893 : Int32)) (by decide) (by decide) (pc := 89) (Ls := #[.val (.int p1), .val (.int p2), .val (.int p3), .unset, .unset, .unset, .unset, .unset, .unset]) (rest := [(.ref b21)]) (hb hby at_89)
  have N48 := Fr.snoc X48 N46 nb21
  have Z48 : n0 ≤ h48.size := by rw [W48.size]; exact Z46
  refine own_go st48 ?_
  show own_End p e below s _ _ _ (T48.setTop (mkF m 90 #[.val (.int p1), .val (.int p2), .val (.int p3), .unset, .unset, .unset, .unset, .unset, .unset] [(.ref b21)]))
  refine own_go (fun t k => XS.dup X48.here hx rfl (hb hby at_90) rfl rfl k) ?_
  show own_End p e below s _ _ _ (T48.setTop (mkF m 91 #[.val (.int p1), .val (.int p2), .val (.int p3), .unset, .unset, .unset, .unset, .unset, .unset] [(.ref b21), (.ref b21)]))
  refine own_go (fun t k => XS.bipush X48.here hx rfl (hb hby at_91) k) ?_
  show own_End p e below s _ _ _ (T48.setTop (mkF m 93 #[.val (.int p1), .val (.int p2), .val (.int p3), .unset, .unset, .unset, .unset, .unset, .unset] [(.int (14 : Int32)), (.ref b21), (.ref b21)]))
  refine own_go (fun t k => XS.sipush X48.here hx rfl (hb hby at_93) k) ?_
  show own_End p e below s _ _ _ (T48.setTop (mkF m 96 #[.val (.int p1), .val (.int p2), .val (.int p3), .unset, .unset, .unset, .unset, .unset, .unset] [(.int (895 : Int32)), (.int (14 : Int32)), (.ref b21), (.ref b21)]))
  obtain ⟨T50, h50, X50, e50, W50, A50, st50⟩ := own_stI X48 hx hZ e48 A48 (j := (14 : Int32)) (x := (895 : Int32)) (by decide) (by decide) (pc := 96) (Ls := #[.val (.int p1), .val (.int p2), .val (.int p3), .unset, .unset, .unset, .unset, .unset, .unset]) (rest := [(.ref b21)]) (hb hby at_96)
  have N50 := Fr.snoc X50 N48 nb21
  have Z50 : n0 ≤ h50.size := by rw [W50.size]; exact Z48
  refine own_go st50 ?_
  show own_End p e below s _ _ _ (T50.setTop (mkF m 97 #[.val (.int p1), .val (.int p2), .val (.int p3), .unset, .unset, .unset, .unset, .unset, .unset] [(.ref b21)]))
  refine own_go (fun t k => XS.dup X50.here hx rfl (hb hby at_97) rfl rfl k) ?_
  show own_End p e below s _ _ _ (T50.setTop (mkF m 98 #[.val (.int p1), .val (.int p2), .val (.int p3), .unset, .unset, .unset, .unset, .unset, .unset] [(.ref b21), (.ref b21)]))
  refine own_go (fun t k => XS.bipush X50.here hx rfl (hb hby at_98) k) ?_
  show own_End p e below s _ _ _ (T50.setTop (mkF m 100 #[.val (.int p1), .val (.int p2), .val (.int p3), .unset, .unset, .unset, .unset, .unset, .unset] [(.int (15 : Int32)), (.ref b21), (.ref b21)]))
  refine own_go (fun t k => XS.sipush X50.here hx rfl (hb hby at_100) k) ?_
  show own_End p e below s _ _ _ (T50.setTop (mkF m 103 #[.val (.int p1), .val (.int p2), .val (.int p3), .unset, .unset, .unset, .unset, .unset, .unset] [(.int (8191 : Int32)), (.int (15 : Int32)), (.ref b21), (.ref b21)]))
  obtain ⟨T52, h52, X52, e52, W52, A52, st52⟩ := own_stI X50 hx hZ e50 A50 (j := (15 : Int32)) (x := (8191 : Int32)) (by decide) (by decide) (pc := 103) (Ls := #[.val (.int p1), .val (.int p2), .val (.int p3), .unset, .unset, .unset, .unset, .unset, .unset]) (rest := [(.ref b21)]) (hb hby at_103)
  have N52 := Fr.snoc X52 N50 nb21
  have Z52 : n0 ≤ h52.size := by rw [W52.size]; exact Z50
  refine own_go st52 ?_
  show own_End p e below s _ _ _ (T52.setTop (mkF m 104 #[.val (.int p1), .val (.int p2), .val (.int p3), .unset, .unset, .unset, .unset, .unset, .unset] [(.ref b21)]))
  refine own_go (fun t k => XS.dup X52.here hx rfl (hb hby at_104) rfl rfl k) ?_
  show own_End p e below s _ _ _ (T52.setTop (mkF m 105 #[.val (.int p1), .val (.int p2), .val (.int p3), .unset, .unset, .unset, .unset, .unset, .unset] [(.ref b21), (.ref b21)]))
  refine own_go (fun t k => XS.bipush X52.here hx rfl (hb hby at_105) k) ?_
  show own_End p e below s _ _ _ (T52.setTop (mkF m 107 #[.val (.int p1), .val (.int p2), .val (.int p3), .unset, .unset, .unset, .unset, .unset, .unset] [(.int (16 : Int32)), (.ref b21), (.ref b21)]))
  refine own_go (fun t k => XS.sipush X52.here hx rfl (hb hby at_107) k) ?_
  show own_End p e below s _ _ _ (T52.setTop (mkF m 110 #[.val (.int p1), .val (.int p2), .val (.int p3), .unset, .unset, .unset, .unset, .unset, .unset] [(.int (8204 : Int32)), (.int (16 : Int32)), (.ref b21), (.ref b21)]))
  obtain ⟨T54, h54, X54, e54, W54, A54, st54⟩ := own_stI X52 hx hZ e52 A52 (j := (16 : Int32)) (x := (8204 : Int32)) (by decide) (by decide) (pc := 110) (Ls := #[.val (.int p1), .val (.int p2), .val (.int p3), .unset, .unset, .unset, .unset, .unset, .unset]) (rest := [(.ref b21)]) (hb hby at_110)
  have N54 := Fr.snoc X54 N52 nb21
  have Z54 : n0 ≤ h54.size := by rw [W54.size]; exact Z52
  refine own_go st54 ?_
  show own_End p e below s _ _ _ (T54.setTop (mkF m 111 #[.val (.int p1), .val (.int p2), .val (.int p3), .unset, .unset, .unset, .unset, .unset, .unset] [(.ref b21)]))
  refine own_go (fun t k => XS.dup X54.here hx rfl (hb hby at_111) rfl rfl k) ?_
  show own_End p e below s _ _ _ (T54.setTop (mkF m 112 #[.val (.int p1), .val (.int p2), .val (.int p3), .unset, .unset, .unset, .unset, .unset, .unset] [(.ref b21), (.ref b21)]))
  refine own_go (fun t k => XS.bipush X54.here hx rfl (hb hby at_112) k) ?_
  show own_End p e below s _ _ _ (T54.setTop (mkF m 114 #[.val (.int p1), .val (.int p2), .val (.int p3), .unset, .unset, .unset, .unset, .unset, .unset] [(.int (17 : Int32)), (.ref b21), (.ref b21)]))
  refine own_go (fun t k => XS.sipush X54.here hx rfl (hb hby at_114) k) ?_
  show own_End p e below s _ _ _ (T54.setTop (mkF m 117 #[.val (.int p1), .val (.int p2), .val (.int p3), .unset, .unset, .unset, .unset, .unset, .unset] [(.int (8205 : Int32)), (.int (17 : Int32)), (.ref b21), (.ref b21)]))
  obtain ⟨T56, h56, X56, e56, W56, A56, st56⟩ := own_stI X54 hx hZ e54 A54 (j := (17 : Int32)) (x := (8205 : Int32)) (by decide) (by decide) (pc := 117) (Ls := #[.val (.int p1), .val (.int p2), .val (.int p3), .unset, .unset, .unset, .unset, .unset, .unset]) (rest := [(.ref b21)]) (hb hby at_117)
  have N56 := Fr.snoc X56 N54 nb21
  have Z56 : n0 ≤ h56.size := by rw [W56.size]; exact Z54
  refine own_go st56 ?_
  show own_End p e below s _ _ _ (T56.setTop (mkF m 118 #[.val (.int p1), .val (.int p2), .val (.int p3), .unset, .unset, .unset, .unset, .unset, .unset] [(.ref b21)]))
  refine own_go (fun t k => XS.dup X56.here hx rfl (hb hby at_118) rfl rfl k) ?_
  show own_End p e below s _ _ _ (T56.setTop (mkF m 119 #[.val (.int p1), .val (.int p2), .val (.int p3), .unset, .unset, .unset, .unset, .unset, .unset] [(.ref b21), (.ref b21)]))
  refine own_go (fun t k => XS.bipush X56.here hx rfl (hb hby at_119) k) ?_
  show own_End p e below s _ _ _ (T56.setTop (mkF m 121 #[.val (.int p1), .val (.int p2), .val (.int p3), .unset, .unset, .unset, .unset, .unset, .unset] [(.int (18 : Int32)), (.ref b21), (.ref b21)]))
  refine own_go (fun t k => XS.sipush X56.here hx rfl (hb hby at_121) k) ?_
  show own_End p e below s _ _ _ (T56.setTop (mkF m 124 #[.val (.int p1), .val (.int p2), .val (.int p3), .unset, .unset, .unset, .unset, .unset, .unset] [(.int (8304 : Int32)), (.int (18 : Int32)), (.ref b21), (.ref b21)]))
  obtain ⟨T58, h58, X58, e58, W58, A58, st58⟩ := own_stI X56 hx hZ e56 A56 (j := (18 : Int32)) (x := (8304 : Int32)) (by decide) (by decide) (pc := 124) (Ls := #[.val (.int p1), .val (.int p2), .val (.int p3), .unset, .unset, .unset, .unset, .unset, .unset]) (rest := [(.ref b21)]) (hb hby at_124)
  have N58 := Fr.snoc X58 N56 nb21
  have Z58 : n0 ≤ h58.size := by rw [W58.size]; exact Z56
  refine own_go st58 ?_
  show own_End p e below s _ _ _ (T58.setTop (mkF m 125 #[.val (.int p1), .val (.int p2), .val (.int p3), .unset, .unset, .unset, .unset, .unset, .unset] [(.ref b21)]))
  refine own_go (fun t k => XS.dup X58.here hx rfl (hb hby at_125) rfl rfl k) ?_
  show own_End p e below s _ _ _ (T58.setTop (mkF m 126 #[.val (.int p1), .val (.int p2), .val (.int p3), .unset, .unset, .unset, .unset, .unset, .unset] [(.ref b21), (.ref b21)]))
  refine own_go (fun t k => XS.bipush X58.here hx rfl (hb hby at_126) k) ?_
  show own_End p e below s _ _ _ (T58.setTop (mkF m 128 #[.val (.int p1), .val (.int p2), .val (.int p3), .unset, .unset, .unset, .unset, .unset, .unset] [(.int (19 : Int32)), (.ref b21), (.ref b21)]))
  refine own_go (fun t k => XS.sipush X58.here hx rfl (hb hby at_128) k) ?_
  show own_End p e below s _ _ _ (T58.setTop (mkF m 131 #[.val (.int p1), .val (.int p2), .val (.int p3), .unset, .unset, .unset, .unset, .unset, .unset] [(.int (8591 : Int32)), (.int (19 : Int32)), (.ref b21), (.ref b21)]))
  obtain ⟨T60, h60, X60, e60, W60, A60, st60⟩ := own_stI X58 hx hZ e58 A58 (j := (19 : Int32)) (x := (8591 : Int32)) (by decide) (by decide) (pc := 131) (Ls := #[.val (.int p1), .val (.int p2), .val (.int p3), .unset, .unset, .unset, .unset, .unset, .unset]) (rest := [(.ref b21)]) (hb hby at_131)
  have N60 := Fr.snoc X60 N58 nb21
  have Z60 : n0 ≤ h60.size := by rw [W60.size]; exact Z58
  refine own_go st60 ?_
  show own_End p e below s _ _ _ (T60.setTop (mkF m 132 #[.val (.int p1), .val (.int p2), .val (.int p3), .unset, .unset, .unset, .unset, .unset, .unset] [(.ref b21)]))
  refine own_go (fun t k => XS.dup X60.here hx rfl (hb hby at_132) rfl rfl k) ?_
  show own_End p e below s _ _ _ (T60.setTop (mkF m 133 #[.val (.int p1), .val (.int p2), .val (.int p3), .unset, .unset, .unset, .unset, .unset, .unset] [(.ref b21), (.ref b21)]))
  refine own_go (fun t k => XS.bipush X60.here hx rfl (hb hby at_133) k) ?_
  show own_End p e below s _ _ _ (T60.setTop (mkF m 135 #[.val (.int p1), .val (.int p2), .val (.int p3), .unset, .unset, .unset, .unset, .unset, .unset] [(.int (20 : Int32)), (.ref b21), (.ref b21)]))
  refine own_go (fun t k => XS.sipush X60.here hx rfl (hb hby at_135) k) ?_
  show own_End p e below s _ _ _ (T60.setTop (mkF m 138 #[.val (.int p1), .val (.int p2), .val (.int p3), .unset, .unset, .unset, .unset, .unset, .unset] [(.int (11264 : Int32)), (.int (20 : Int32)), (.ref b21), (.ref b21)]))
  obtain ⟨T62, h62, X62, e62, W62, A62, st62⟩ := own_stI X60 hx hZ e60 A60 (j := (20 : Int32)) (x := (11264 : Int32)) (by decide) (by decide) (pc := 138) (Ls := #[.val (.int p1), .val (.int p2), .val (.int p3), .unset, .unset, .unset, .unset, .unset, .unset]) (rest := [(.ref b21)]) (hb hby at_138)
  have N62 := Fr.snoc X62 N60 nb21
  have Z62 : n0 ≤ h62.size := by rw [W62.size]; exact Z60
  refine own_go st62 ?_
  show own_End p e below s _ _ _ (T62.setTop (mkF m 139 #[.val (.int p1), .val (.int p2), .val (.int p3), .unset, .unset, .unset, .unset, .unset, .unset] [(.ref b21)]))
  refine own_go (fun t k => XS.dup X62.here hx rfl (hb hby at_139) rfl rfl k) ?_
  show own_End p e below s _ _ _ (T62.setTop (mkF m 140 #[.val (.int p1), .val (.int p2), .val (.int p3), .unset, .unset, .unset, .unset, .unset, .unset] [(.ref b21), (.ref b21)]))
  refine own_go (fun t k => XS.bipush X62.here hx rfl (hb hby at_140) k) ?_
  show own_End p e below s _ _ _ (T62.setTop (mkF m 142 #[.val (.int p1), .val (.int p2), .val (.int p3), .unset, .unset, .unset, .unset, .unset, .unset] [(.int (21 : Int32)), (.ref b21), (.ref b21)]))
  refine own_go (fun t k => XS.sipush X62.here hx rfl (hb hby at_142) k) ?_
  show own_End p e below s _ _ _ (T62.setTop (mkF m 145 #[.val (.int p1), .val (.int p2), .val (.int p3), .unset, .unset, .unset, .unset, .unset, .unset] [(.int (12271 : Int32)), (.int (21 : Int32)), (.ref b21), (.ref b21)]))
  obtain ⟨T64, h64, X64, e64, W64, A64, st64⟩ := own_stI X62 hx hZ e62 A62 (j := (21 : Int32)) (x := (12271 : Int32)) (by decide) (by decide) (pc := 145) (Ls := #[.val (.int p1), .val (.int p2), .val (.int p3), .unset, .unset, .unset, .unset, .unset, .unset]) (rest := [(.ref b21)]) (hb hby at_145)
  have N64 := Fr.snoc X64 N62 nb21
  have Z64 : n0 ≤ h64.size := by rw [W64.size]; exact Z62
  refine own_go st64 ?_
  show own_End p e below s _ _ _ (T64.setTop (mkF m 146 #[.val (.int p1), .val (.int p2), .val (.int p3), .unset, .unset, .unset, .unset, .unset, .unset] [(.ref b21)]))
  refine own_go (fun t k => XS.dup X64.here hx rfl (hb hby at_146) rfl rfl k) ?_
  show own_End p e below s _ _ _ (T64.setTop (mkF m 147 #[.val (.int p1), .val (.int p2), .val (.int p3), .unset, .unset, .unset, .unset, .unset, .unset] [(.ref b21), (.ref b21)]))
  refine own_go (fun t k => XS.bipush X64.here hx rfl (hb hby at_147) k) ?_
  show own_End p e below s _ _ _ (T64.setTop (mkF m 149 #[.val (.int p1), .val (.int p2), .val (.int p3), .unset, .unset, .unset, .unset, .unset, .unset] [(.int (22 : Int32)), (.ref b21), (.ref b21)]))
  refine own_go (fun t k => XS.sipush X64.here hx rfl (hb hby at_149) k) ?_
  show own_End p e below s _ _ _ (T64.setTop (mkF m 152 #[.val (.int p1), .val (.int p2), .val (.int p3), .unset, .unset, .unset, .unset, .unset, .unset] [(.int (12289 : Int32)), (.int (22 : Int32)), (.ref b21), (.ref b21)]))
  obtain ⟨T66, h66, X66, e66, W66, A66, st66⟩ := own_stI X64 hx hZ e64 A64 (j := (22 : Int32)) (x := (12289 : Int32)) (by decide) (by decide) (pc := 152) (Ls := #[.val (.int p1), .val (.int p2), .val (.int p3), .unset, .unset, .unset, .unset, .unset, .unset]) (rest := [(.ref b21)]) (hb hby at_152)
  have N66 := Fr.snoc X66 N64 nb21
  have Z66 : n0 ≤ h66.size := by rw [W66.size]; exact Z64
  refine own_go st66 ?_
  show own_End p e below s _ _ _ (T66.setTop (mkF m 153 #[.val (.int p1), .val (.int p2), .val (.int p3), .unset, .unset, .unset, .unset, .unset, .unset] [(.ref b21)]))
  refine own_go (fun t k => XS.dup X66.here hx rfl (hb hby at_153) rfl rfl k) ?_
  show own_End p e below s _ _ _ (T66.setTop (mkF m 154 #[.val (.int p1), .val (.int p2), .val (.int p3), .unset, .unset, .unset, .unset, .unset, .unset] [(.ref b21), (.ref b21)]))
  refine own_go (fun t k => XS.bipush X66.here hx rfl (hb hby at_154) k) ?_
  show own_End p e below s _ _ _ (T66.setTop (mkF m 156 #[.val (.int p1), .val (.int p2), .val (.int p3), .unset, .unset, .unset, .unset, .unset, .unset] [(.int (23 : Int32)), (.ref b21), (.ref b21)]))
  refine own_go (X66.ldcInt (own := "com/example/frage/frage/xdm/XmlCharactersIsNameStartCharPinLaw") (index := 20) (v := 55295) hx hown (mvT hZ (hw _ (List.mem_of_getElem? (i := 1) rfl))) (g := (mkF m 156 #[.val (.int p1), .val (.int p2), .val (.int p3), .unset, .unset, .unset, .unset, .unset, .unset] [(.int (23 : Int32)), (.ref b21), (.ref b21)])) rfl (hb hby at_156)) ?_
  show own_End p e below s _ _ _ (T66.setTop (mkF m 158 #[.val (.int p1), .val (.int p2), .val (.int p3), .unset, .unset, .unset, .unset, .unset, .unset] [(.int (55295 : Int32)), (.int (23 : Int32)), (.ref b21), (.ref b21)]))
  obtain ⟨T68, h68, X68, e68, W68, A68, st68⟩ := own_stI X66 hx hZ e66 A66 (j := (23 : Int32)) (x := (55295 : Int32)) (by decide) (by decide) (pc := 158) (Ls := #[.val (.int p1), .val (.int p2), .val (.int p3), .unset, .unset, .unset, .unset, .unset, .unset]) (rest := [(.ref b21)]) (hb hby at_158)
  have N68 := Fr.snoc X68 N66 nb21
  have Z68 : n0 ≤ h68.size := by rw [W68.size]; exact Z66
  refine own_go st68 ?_
  show own_End p e below s _ _ _ (T68.setTop (mkF m 159 #[.val (.int p1), .val (.int p2), .val (.int p3), .unset, .unset, .unset, .unset, .unset, .unset] [(.ref b21)]))
  refine own_go (fun t k => XS.dup X68.here hx rfl (hb hby at_159) rfl rfl k) ?_
  show own_End p e below s _ _ _ (T68.setTop (mkF m 160 #[.val (.int p1), .val (.int p2), .val (.int p3), .unset, .unset, .unset, .unset, .unset, .unset] [(.ref b21), (.ref b21)]))
  refine own_go (fun t k => XS.bipush X68.here hx rfl (hb hby at_160) k) ?_
  show own_End p e below s _ _ _ (T68.setTop (mkF m 162 #[.val (.int p1), .val (.int p2), .val (.int p3), .unset, .unset, .unset, .unset, .unset, .unset] [(.int (24 : Int32)), (.ref b21), (.ref b21)]))
  refine own_go (X68.ldcInt (own := "com/example/frage/frage/xdm/XmlCharactersIsNameStartCharPinLaw") (index := 21) (v := 63744) hx hown (mvT hZ (hw _ (List.mem_of_getElem? (i := 2) rfl))) (g := (mkF m 162 #[.val (.int p1), .val (.int p2), .val (.int p3), .unset, .unset, .unset, .unset, .unset, .unset] [(.int (24 : Int32)), (.ref b21), (.ref b21)])) rfl (hb hby at_162)) ?_
  show own_End p e below s _ _ _ (T68.setTop (mkF m 164 #[.val (.int p1), .val (.int p2), .val (.int p3), .unset, .unset, .unset, .unset, .unset, .unset] [(.int (63744 : Int32)), (.int (24 : Int32)), (.ref b21), (.ref b21)]))
  obtain ⟨T70, h70, X70, e70, W70, A70, st70⟩ := own_stI X68 hx hZ e68 A68 (j := (24 : Int32)) (x := (63744 : Int32)) (by decide) (by decide) (pc := 164) (Ls := #[.val (.int p1), .val (.int p2), .val (.int p3), .unset, .unset, .unset, .unset, .unset, .unset]) (rest := [(.ref b21)]) (hb hby at_164)
  have N70 := Fr.snoc X70 N68 nb21
  have Z70 : n0 ≤ h70.size := by rw [W70.size]; exact Z68
  refine own_go st70 ?_
  show own_End p e below s _ _ _ (T70.setTop (mkF m 165 #[.val (.int p1), .val (.int p2), .val (.int p3), .unset, .unset, .unset, .unset, .unset, .unset] [(.ref b21)]))
  refine own_go (fun t k => XS.dup X70.here hx rfl (hb hby at_165) rfl rfl k) ?_
  show own_End p e below s _ _ _ (T70.setTop (mkF m 166 #[.val (.int p1), .val (.int p2), .val (.int p3), .unset, .unset, .unset, .unset, .unset, .unset] [(.ref b21), (.ref b21)]))
  refine own_go (fun t k => XS.bipush X70.here hx rfl (hb hby at_166) k) ?_
  show own_End p e below s _ _ _ (T70.setTop (mkF m 168 #[.val (.int p1), .val (.int p2), .val (.int p3), .unset, .unset, .unset, .unset, .unset, .unset] [(.int (25 : Int32)), (.ref b21), (.ref b21)]))
  refine own_go (X70.ldcInt (own := "com/example/frage/frage/xdm/XmlCharactersIsNameStartCharPinLaw") (index := 22) (v := 64975) hx hown (mvT hZ (hw _ (List.mem_of_getElem? (i := 3) rfl))) (g := (mkF m 168 #[.val (.int p1), .val (.int p2), .val (.int p3), .unset, .unset, .unset, .unset, .unset, .unset] [(.int (25 : Int32)), (.ref b21), (.ref b21)])) rfl (hb hby at_168)) ?_
  show own_End p e below s _ _ _ (T70.setTop (mkF m 170 #[.val (.int p1), .val (.int p2), .val (.int p3), .unset, .unset, .unset, .unset, .unset, .unset] [(.int (64975 : Int32)), (.int (25 : Int32)), (.ref b21), (.ref b21)]))
  obtain ⟨T72, h72, X72, e72, W72, A72, st72⟩ := own_stI X70 hx hZ e70 A70 (j := (25 : Int32)) (x := (64975 : Int32)) (by decide) (by decide) (pc := 170) (Ls := #[.val (.int p1), .val (.int p2), .val (.int p3), .unset, .unset, .unset, .unset, .unset, .unset]) (rest := [(.ref b21)]) (hb hby at_170)
  have N72 := Fr.snoc X72 N70 nb21
  have Z72 : n0 ≤ h72.size := by rw [W72.size]; exact Z70
  refine own_go st72 ?_
  show own_End p e below s _ _ _ (T72.setTop (mkF m 171 #[.val (.int p1), .val (.int p2), .val (.int p3), .unset, .unset, .unset, .unset, .unset, .unset] [(.ref b21)]))
  refine own_go (fun t k => XS.dup X72.here hx rfl (hb hby at_171) rfl rfl k) ?_
  show own_End p e below s _ _ _ (T72.setTop (mkF m 172 #[.val (.int p1), .val (.int p2), .val (.int p3), .unset, .unset, .unset, .unset, .unset, .unset] [(.ref b21), (.ref b21)]))
  refine own_go (fun t k => XS.bipush X72.here hx rfl (hb hby at_172) k) ?_
  show own_End p e below s _ _ _ (T72.setTop (mkF m 174 #[.val (.int p1), .val (.int p2), .val (.int p3), .unset, .unset, .unset, .unset, .unset, .unset] [(.int (26 : Int32)), (.ref b21), (.ref b21)]))
  refine own_go (X72.ldcInt (own := "com/example/frage/frage/xdm/XmlCharactersIsNameStartCharPinLaw") (index := 23) (v := 65008) hx hown (mvT hZ (hw _ (List.mem_of_getElem? (i := 4) rfl))) (g := (mkF m 174 #[.val (.int p1), .val (.int p2), .val (.int p3), .unset, .unset, .unset, .unset, .unset, .unset] [(.int (26 : Int32)), (.ref b21), (.ref b21)])) rfl (hb hby at_174)) ?_
  show own_End p e below s _ _ _ (T72.setTop (mkF m 176 #[.val (.int p1), .val (.int p2), .val (.int p3), .unset, .unset, .unset, .unset, .unset, .unset] [(.int (65008 : Int32)), (.int (26 : Int32)), (.ref b21), (.ref b21)]))
  obtain ⟨T74, h74, X74, e74, W74, A74, st74⟩ := own_stI X72 hx hZ e72 A72 (j := (26 : Int32)) (x := (65008 : Int32)) (by decide) (by decide) (pc := 176) (Ls := #[.val (.int p1), .val (.int p2), .val (.int p3), .unset, .unset, .unset, .unset, .unset, .unset]) (rest := [(.ref b21)]) (hb hby at_176)
  have N74 := Fr.snoc X74 N72 nb21
  have Z74 : n0 ≤ h74.size := by rw [W74.size]; exact Z72
  refine own_go st74 ?_
  show own_End p e below s _ _ _ (T74.setTop (mkF m 177 #[.val (.int p1), .val (.int p2), .val (.int p3), .unset, .unset, .unset, .unset, .unset, .unset] [(.ref b21)]))
  refine own_go (fun t k => XS.dup X74.here hx rfl (hb hby at_177) rfl rfl k) ?_
  show own_End p e below s _ _ _ (T74.setTop (mkF m 178 #[.val (.int p1), .val (.int p2), .val (.int p3), .unset, .unset, .unset, .unset, .unset, .unset] [(.ref b21), (.ref b21)]))
  refine own_go (fun t k => XS.bipush X74.here hx rfl (hb hby at_178) k) ?_
  show own_End p e below s _ _ _ (T74.setTop (mkF m 180 #[.val (.int p1), .val (.int p2), .val (.int p3), .unset, .unset, .unset, .unset, .unset, .unset] [(.int (27 : Int32)), (.ref b21), (.ref b21)]))
  refine own_go (X74.ldcInt (own := "com/example/frage/frage/xdm/XmlCharactersIsNameStartCharPinLaw") (index := 24) (v := 65533) hx hown (mvT hZ (hw _ (List.mem_of_getElem? (i := 5) rfl))) (g := (mkF m 180 #[.val (.int p1), .val (.int p2), .val (.int p3), .unset, .unset, .unset, .unset, .unset, .unset] [(.int (27 : Int32)), (.ref b21), (.ref b21)])) rfl (hb hby at_180)) ?_
  show own_End p e below s _ _ _ (T74.setTop (mkF m 182 #[.val (.int p1), .val (.int p2), .val (.int p3), .unset, .unset, .unset, .unset, .unset, .unset] [(.int (65533 : Int32)), (.int (27 : Int32)), (.ref b21), (.ref b21)]))
  obtain ⟨T76, h76, X76, e76, W76, A76, st76⟩ := own_stI X74 hx hZ e74 A74 (j := (27 : Int32)) (x := (65533 : Int32)) (by decide) (by decide) (pc := 182) (Ls := #[.val (.int p1), .val (.int p2), .val (.int p3), .unset, .unset, .unset, .unset, .unset, .unset]) (rest := [(.ref b21)]) (hb hby at_182)
  have N76 := Fr.snoc X76 N74 nb21
  have Z76 : n0 ≤ h76.size := by rw [W76.size]; exact Z74
  refine own_go st76 ?_
  show own_End p e below s _ _ _ (T76.setTop (mkF m 183 #[.val (.int p1), .val (.int p2), .val (.int p3), .unset, .unset, .unset, .unset, .unset, .unset] [(.ref b21)]))
  refine own_go (fun t k => XS.dup X76.here hx rfl (hb hby at_183) rfl rfl k) ?_
  show own_End p e below s _ _ _ (T76.setTop (mkF m 184 #[.val (.int p1), .val (.int p2), .val (.int p3), .unset, .unset, .unset, .unset, .unset, .unset] [(.ref b21), (.ref b21)]))
  refine own_go (fun t k => XS.bipush X76.here hx rfl (hb hby at_184) k) ?_
  show own_End p e below s _ _ _ (T76.setTop (mkF m 186 #[.val (.int p1), .val (.int p2), .val (.int p3), .unset, .unset, .unset, .unset, .unset, .unset] [(.int (28 : Int32)), (.ref b21), (.ref b21)]))
  refine own_go (X76.ldcInt (own := "com/example/frage/frage/xdm/XmlCharactersIsNameStartCharPinLaw") (index := 25) (v := 65536) hx hown (mvT hZ (hw _ (List.mem_of_getElem? (i := 6) rfl))) (g := (mkF m 186 #[.val (.int p1), .val (.int p2), .val (.int p3), .unset, .unset, .unset, .unset, .unset, .unset] [(.int (28 : Int32)), (.ref b21), (.ref b21)])) rfl (hb hby at_186)) ?_
  show own_End p e below s _ _ _ (T76.setTop (mkF m 188 #[.val (.int p1), .val (.int p2), .val (.int p3), .unset, .unset, .unset, .unset, .unset, .unset] [(.int (65536 : Int32)), (.int (28 : Int32)), (.ref b21), (.ref b21)]))
  obtain ⟨T78, h78, X78, e78, W78, A78, st78⟩ := own_stI X76 hx hZ e76 A76 (j := (28 : Int32)) (x := (65536 : Int32)) (by decide) (by decide) (pc := 188) (Ls := #[.val (.int p1), .val (.int p2), .val (.int p3), .unset, .unset, .unset, .unset, .unset, .unset]) (rest := [(.ref b21)]) (hb hby at_188)
  have N78 := Fr.snoc X78 N76 nb21
  have Z78 : n0 ≤ h78.size := by rw [W78.size]; exact Z76
  refine own_go st78 ?_
  show own_End p e below s _ _ _ (T78.setTop (mkF m 189 #[.val (.int p1), .val (.int p2), .val (.int p3), .unset, .unset, .unset, .unset, .unset, .unset] [(.ref b21)]))
  refine own_go (fun t k => XS.dup X78.here hx rfl (hb hby at_189) rfl rfl k) ?_
  show own_End p e below s _ _ _ (T78.setTop (mkF m 190 #[.val (.int p1), .val (.int p2), .val (.int p3), .unset, .unset, .unset, .unset, .unset, .unset] [(.ref b21), (.ref b21)]))
  refine own_go (fun t k => XS.bipush X78.here hx rfl (hb hby at_190) k) ?_
  show own_End p e below s _ _ _ (T78.setTop (mkF m 192 #[.val (.int p1), .val (.int p2), .val (.int p3), .unset, .unset, .unset, .unset, .unset, .unset] [(.int (29 : Int32)), (.ref b21), (.ref b21)]))
  refine own_go (X78.ldcInt (own := "com/example/frage/frage/xdm/XmlCharactersIsNameStartCharPinLaw") (index := 7) (v := 983039) hx hown (mvT hZ (hw _ (List.mem_of_getElem? (i := 7) rfl))) (g := (mkF m 192 #[.val (.int p1), .val (.int p2), .val (.int p3), .unset, .unset, .unset, .unset, .unset, .unset] [(.int (29 : Int32)), (.ref b21), (.ref b21)])) rfl (hb hby at_192)) ?_
  show own_End p e below s _ _ _ (T78.setTop (mkF m 194 #[.val (.int p1), .val (.int p2), .val (.int p3), .unset, .unset, .unset, .unset, .unset, .unset] [(.int (983039 : Int32)), (.int (29 : Int32)), (.ref b21), (.ref b21)]))
  obtain ⟨T80, h80, X80, e80, W80, A80, st80⟩ := own_stI X78 hx hZ e78 A78 (j := (29 : Int32)) (x := (983039 : Int32)) (by decide) (by decide) (pc := 194) (Ls := #[.val (.int p1), .val (.int p2), .val (.int p3), .unset, .unset, .unset, .unset, .unset, .unset]) (rest := [(.ref b21)]) (hb hby at_194)
  have N80 := Fr.snoc X80 N78 nb21
  have Z80 : n0 ≤ h80.size := by rw [W80.size]; exact Z78
  refine own_go st80 ?_
  show own_End p e below s _ _ _ (T80.setTop (mkF m 195 #[.val (.int p1), .val (.int p2), .val (.int p3), .unset, .unset, .unset, .unset, .unset, .unset] [(.ref b21)]))
  refine own_go (fun t k => XS.astoreN X80.here hx rfl (hb hby at_195) rfl rfl (l' := #[.val (.int p1), .val (.int p2), .val (.int p3), .val (.ref b21), .unset, .unset, .unset, .unset, .unset]) rfl k) ?_
  show own_End p e below s _ _ _ (T80.setTop (mkF m 196 #[.val (.int p1), .val (.int p2), .val (.int p3), .val (.ref b21), .unset, .unset, .unset, .unset, .unset] []))
  refine own_go (fun t k => XS.iloadN X80.here hx rfl (hb hby at_196) rfl k) ?_
  show own_End p e below s _ _ _ (T80.setTop (mkF m 197 #[.val (.int p1), .val (.int p2), .val (.int p3), .val (.ref b21), .unset, .unset, .unset, .unset, .unset] [(.int p2)]))
  refine own_go (X80.ldcInt (own := "com/example/frage/frage/xdm/XmlCharactersIsNameStartCharPinLaw") (index := 26) (v := 2147483647) hx hown (mvT hZ (hw _ (List.mem_of_getElem? (i := 8) rfl))) (g := (mkF m 197 #[.val (.int p1), .val (.int p2), .val (.int p3), .val (.ref b21), .unset, .unset, .unset, .unset, .unset] [(.int p2)])) rfl (hb hby at_197)) ?_
  show own_End p e below s _ _ _ (T80.setTop (mkF m 199 #[.val (.int p1), .val (.int p2), .val (.int p3), .val (.ref b21), .unset, .unset, .unset, .unset, .unset] [(.int (2147483647 : Int32)), (.int p2)]))
  refine own_go (fun t k => XS.iand X80.here hx rfl (hb hby at_199) rfl k) ?_
  show own_End p e below s _ _ _ (T80.setTop (mkF m 200 #[.val (.int p1), .val (.int p2), .val (.int p3), .val (.ref b21), .unset, .unset, .unset, .unset, .unset] [(.int (p2 &&& (2147483647 : Int32)))]))
  refine own_go (fun t k => XS.bipush X80.here hx rfl (hb hby at_200) k) ?_
  show own_End p e below s _ _ _ (T80.setTop (mkF m 202 #[.val (.int p1), .val (.int p2), .val (.int p3), .val (.ref b21), .unset, .unset, .unset, .unset, .unset] [(.int (30 : Int32)), (.int (p2 &&& (2147483647 : Int32)))]))
  refine own_go (fun t k => XS.irem X80.here hx rfl (hb hby at_202) rfl (by decide) k) ?_
  show own_End p e below s _ _ _ (T80.setTop (mkF m 203 #[.val (.int p1), .val (.int p2), .val (.int p3), .val (.ref b21), .unset, .unset, .unset, .unset, .unset] [(.int ((p2 &&& (2147483647 : Int32)) - ((p2 &&& (2147483647 : Int32)) / (30 : Int32)) * (30 : Int32)))]))
  rw [irem_eq_mod (p2 &&& (2147483647 : Int32)) (30 : Int32)]
  show own_End p e below s _ _ _ (T80.setTop (mkF m 203 #[.val (.int p1), .val (.int p2), .val (.int p3), .val (.ref b21), .unset, .unset, .unset, .unset, .unset] [(.int ((p2 &&& (2147483647 : Int32)) % (30 : Int32)))]))
  obtain ⟨ix82, qix82⟩ : ∃ z : Int32, z = ((p2 &&& (2147483647 : Int32)) % (30 : Int32)) := ⟨_, rfl⟩
  rw [← qix82]
  show own_End p e below s _ _ _ (T80.setTop (mkF m 203 #[.val (.int p1), .val (.int p2), .val (.int p3), .val (.ref b21), .unset, .unset, .unset, .unset, .unset] [(.int ix82)]))
  have rix : 0 ≤ ix82.toInt ∧ ix82.toInt < 30 := by rw [qix82]; exact own_ix p2 30 (by decide)
  refine own_go (fun t k => XS.istore X80.here hx rfl (hb hby at_203) rfl (l' := #[.val (.int p1), .val (.int p2), .val (.int p3), .val (.ref b21), .val (.int ix82), .unset, .unset, .unset, .unset]) rfl k) ?_
  show own_End p e below s _ _ _ (T80.setTop (mkF m 205 #[.val (.int p1), .val (.int p2), .val (.int p3), .val (.ref b21), .val (.int ix82), .unset, .unset, .unset, .unset] []))
  refine own_go (fun t k => XS.iloadN X80.here hx rfl (hb hby at_205) rfl k) ?_
  show own_End p e below s _ _ _ (T80.setTop (mkF m 206 #[.val (.int p1), .val (.int p2), .val (.int p3), .val (.ref b21), .val (.int ix82), .unset, .unset, .unset, .unset] [(.int p3)]))
  refine own_go (X80.ldcInt (own := "com/example/frage/frage/xdm/XmlCharactersIsNameStartCharPinLaw") (index := 26) (v := 2147483647) hx hown (mvT hZ (hw _ (List.mem_of_getElem? (i := 8) rfl))) (g := (mkF m 206 #[.val (.int p1), .val (.int p2), .val (.int p3), .val (.ref b21), .val (.int ix82), .unset, .unset, .unset, .unset] [(.int p3)])) rfl (hb hby at_206)) ?_
  show own_End p e below s _ _ _ (T80.setTop (mkF m 208 #[.val (.int p1), .val (.int p2), .val (.int p3), .val (.ref b21), .val (.int ix82), .unset, .unset, .unset, .unset] [(.int (2147483647 : Int32)), (.int p3)]))
  refine own_go (fun t k => XS.iand X80.here hx rfl (hb hby at_208) rfl k) ?_
  show own_End p e below s _ _ _ (T80.setTop (mkF m 209 #[.val (.int p1), .val (.int p2), .val (.int p3), .val (.ref b21), .val (.int ix82), .unset, .unset, .unset, .unset] [(.int (p3 &&& (2147483647 : Int32)))]))
  refine own_go (fun t k => XS.iconst X80.here hx rfl (hb hby at_209) k) ?_
  show own_End p e below s _ _ _ (T80.setTop (mkF m 210 #[.val (.int p1), .val (.int p2), .val (.int p3), .val (.ref b21), .val (.int ix82), .unset, .unset, .unset, .unset] [(.int (5 : Int32)), (.int (p3 &&& (2147483647 : Int32)))]))
  refine own_go (fun t k => XS.irem X80.here hx rfl (hb hby at_210) rfl (by decide) k) ?_
  show own_End p e below s _ _ _ (T80.setTop (mkF m 211 #[.val (.int p1), .val (.int p2), .val (.int p3), .val (.ref b21), .val (.int ix82), .unset, .unset, .unset, .unset] [(.int ((p3 &&& (2147483647 : Int32)) - ((p3 &&& (2147483647 : Int32)) / (5 : Int32)) * (5 : Int32)))]))
  rw [irem_eq_mod (p3 &&& (2147483647 : Int32)) (5 : Int32)]
  show own_End p e below s _ _ _ (T80.setTop (mkF m 211 #[.val (.int p1), .val (.int p2), .val (.int p3), .val (.ref b21), .val (.int ix82), .unset, .unset, .unset, .unset] [(.int ((p3 &&& (2147483647 : Int32)) % (5 : Int32)))]))
  refine own_go (fun t k => XS.iconst X80.here hx rfl (hb hby at_211) k) ?_
  show own_End p e below s _ _ _ (T80.setTop (mkF m 212 #[.val (.int p1), .val (.int p2), .val (.int p3), .val (.ref b21), .val (.int ix82), .unset, .unset, .unset, .unset] [(.int (2 : Int32)), (.int ((p3 &&& (2147483647 : Int32)) % (5 : Int32)))]))
  refine own_go (fun t k => XS.isub X80.here hx rfl (hb hby at_212) rfl k) ?_
  show own_End p e below s _ _ _ (T80.setTop (mkF m 213 #[.val (.int p1), .val (.int p2), .val (.int p3), .val (.ref b21), .val (.int ix82), .unset, .unset, .unset, .unset] [(.int (((p3 &&& (2147483647 : Int32)) % (5 : Int32)) - (2 : Int32)))]))
  refine own_go (fun t k => XS.istore X80.here hx rfl (hb hby at_213) rfl (l' := #[.val (.int p1), .val (.int p2), .val (.int p3), .val (.ref b21), .val (.int ix82), .val (.int (((p3 &&& (2147483647 : Int32)) % (5 : Int32)) - (2 : Int32))), .unset, .unset, .unset]) rfl k) ?_
  show own_End p e below s _ _ _ (T80.setTop (mkF m 215 #[.val (.int p1), .val (.int p2), .val (.int p3), .val (.ref b21), .val (.int ix82), .val (.int (((p3 &&& (2147483647 : Int32)) % (5 : Int32)) - (2 : Int32))), .unset, .unset, .unset] []))
  refine own_go (fun t k => XS.aloadN X80.here hx rfl (hb hby at_215) rfl rfl k) ?_
  show own_End p e below s _ _ _ (T80.setTop (mkF m 216 #[.val (.int p1), .val (.int p2), .val (.int p3), .val (.ref b21), .val (.int ix82), .val (.int (((p3 &&& (2147483647 : Int32)) % (5 : Int32)) - (2 : Int32))), .unset, .unset, .unset] [(.ref b21)]))
  refine own_go (fun t k => XS.iload X80.here hx rfl (hb hby at_216) rfl k) ?_
  show own_End p e below s _ _ _ (T80.setTop (mkF m 218 #[.val (.int p1), .val (.int p2), .val (.int p3), .val (.ref b21), .val (.int ix82), .val (.int (((p3 &&& (2147483647 : Int32)) % (5 : Int32)) - (2 : Int32))), .unset, .unset, .unset] [(.int ix82), (.ref b21)]))
  obtain ⟨x83, st83⟩ := own_ldI X80 hx hZ e80 A80 (j := ix82) (by omega) (by omega) (pc := 218) (Ls := #[.val (.int p1), .val (.int p2), .val (.int p3), .val (.ref b21), .val (.int ix82), .val (.int (((p3 &&& (2147483647 : Int32)) % (5 : Int32)) - (2 : Int32))), .unset, .unset, .unset]) (rest := []) (hb hby at_218)
  refine own_go st83 ?_
  show own_End p e below s _ _ _ (T80.setTop (mkF m 219 #[.val (.int p1), .val (.int p2), .val (.int p3), .val (.ref b21), .val (.int ix82), .val (.int (((p3 &&& (2147483647 : Int32)) % (5 : Int32)) - (2 : Int32))), .unset, .unset, .unset] [(.int x83)]))
  refine own_go (fun t k => XS.iload X80.here hx rfl (hb hby at_219) rfl k) ?_
  show own_End p e below s _ _ _ (T80.setTop (mkF m 221 #[.val (.int p1), .val (.int p2), .val (.int p3), .val (.ref b21), .val (.int ix82), .val (.int (((p3 &&& (2147483647 : Int32)) % (5 : Int32)) - (2 : Int32))), .unset, .unset, .unset] [(.int (((p3 &&& (2147483647 : Int32)) % (5 : Int32)) - (2 : Int32))), (.int x83)]))
  refine own_go (fun t k => XS.iadd X80.here hx rfl (hb hby at_221) rfl k) ?_
  show own_End p e below s _ _ _ (T80.setTop (mkF m 222 #[.val (.int p1), .val (.int p2), .val (.int p3), .val (.ref b21), .val (.int ix82), .val (.int (((p3 &&& (2147483647 : Int32)) % (5 : Int32)) - (2 : Int32))), .unset, .unset, .unset] [(.int (x83 + (((p3 &&& (2147483647 : Int32)) % (5 : Int32)) - (2 : Int32))))]))
  obtain ⟨c84, qc84⟩ : ∃ z : Int32, z = (x83 + (((p3 &&& (2147483647 : Int32)) % (5 : Int32)) - (2 : Int32))) := ⟨_, rfl⟩
  rw [← qc84]
  show own_End p e below s _ _ _ (T80.setTop (mkF m 222 #[.val (.int p1), .val (.int p2), .val (.int p3), .val (.ref b21), .val (.int ix82), .val (.int (((p3 &&& (2147483647 : Int32)) % (5 : Int32)) - (2 : Int32))), .unset, .unset, .unset] [(.int c84)]))
  refine own_go (fun t k => XS.istore X80.here hx rfl (hb hby at_222) rfl (l' := #[.val (.int p1), .val (.int p2), .val (.int p3), .val (.ref b21), .val (.int ix82), .val (.int (((p3 &&& (2147483647 : Int32)) % (5 : Int32)) - (2 : Int32))), .val (.int c84), .unset, .unset]) rfl k) ?_
  show own_End p e below s _ _ _ (T80.setTop (mkF m 224 #[.val (.int p1), .val (.int p2), .val (.int p3), .val (.ref b21), .val (.int ix82), .val (.int (((p3 &&& (2147483647 : Int32)) % (5 : Int32)) - (2 : Int32))), .val (.int c84), .unset, .unset] []))
  refine own_go (fun t k => XS.iloadN X80.here hx rfl (hb hby at_224) rfl k) ?_
  show own_End p e below s _ _ _ (T80.setTop (mkF m 225 #[.val (.int p1), .val (.int p2), .val (.int p3), .val (.ref b21), .val (.int ix82), .val (.int (((p3 &&& (2147483647 : Int32)) % (5 : Int32)) - (2 : Int32))), .val (.int c84), .unset, .unset] [(.int p1)]))
  obtain ⟨v85, T85, L85, X85, hQ85, st85⟩ := own_callS X80 hx hZ (y := (⟨"com/example/frage/frage/xdm/XmlCharacters", "isNameStartChar", "(I)Z"⟩ : MethodName)) 0 hown (hw _ (List.mem_of_getElem? (i := 9) rfl)) (hw _ (List.mem_of_getElem? (i := 10) rfl)) (hw _ (List.mem_of_getElem? (i := 11) rfl)) (hw _ (List.mem_of_getElem? (i := 12) rfl)) (by decide) (rm1 l Z a0 hw [] p1 h80 n0 Z80) e80 (pc := 225) (Ls := #[.val (.int p1), .val (.int p2), .val (.int p3), .val (.ref b21), .val (.int ix82), .val (.int (((p3 &&& (2147483647 : Int32)) % (5 : Int32)) - (2 : Int32))), .val (.int c84), .unset, .unset]) [(.int p1)] [] (by rw [hml]; rfl) rfl rfl (lenOf pd_I_Z rfl) (Nat.le_of_eq rfl) (hb hby at_225) (by decide) (by decide) (by decide) (by decide)
  obtain ⟨rfl, Nc86, e86⟩ := hQ85
  have N86 := Fr.app N80 Nc86
  refine own_go st85 ?_
  show own_End p e below s _ _ _ (T85.setTop (mkF m 228 #[.val (.int p1), .val (.int p2), .val (.int p3), .val (.ref b21), .val (.int ix82), .val (.int (((p3 &&& (2147483647 : Int32)) % (5 : Int32)) - (2 : Int32))), .val (.int c84), .unset, .unset] [(.int (if own_ns p1.toInt then 1 else 0))]))
  refine own_go (fun t k => XS.iloadN X85.here hx rfl (hb hby at_228) rfl k) ?_
  show own_End p e below s _ _ _ (T85.setTop (mkF m 229 #[.val (.int p1), .val (.int p2), .val (.int p3), .val (.ref b21), .val (.int ix82), .val (.int (((p3 &&& (2147483647 : Int32)) % (5 : Int32)) - (2 : Int32))), .val (.int c84), .unset, .unset] [(.int p1), (.int (if own_ns p1.toInt then 1 else 0))]))
  obtain ⟨v87, T87, L87, X87, hQ87, st87⟩ := own_callS X85 hx hZ (y := (⟨"com/example/frage/frage/xdm/XmlCharactersIsNameStartCharPinLaw", "ref", "(I)Z"⟩ : MethodName)) 1 hown (hw _ (List.mem_of_getElem? (i := 16) rfl)) (hw _ (List.mem_of_getElem? (i := 17) rfl)) (hw _ (List.mem_of_getElem? (i := 18) rfl)) (hw _ (List.mem_of_getElem? (i := 19) rfl)) (by decide) (rm2 l Z a0 hw [] p1 h80 n0 Z80) e86 (pc := 229) (Ls := #[.val (.int p1), .val (.int p2), .val (.int p3), .val (.ref b21), .val (.int ix82), .val (.int (((p3 &&& (2147483647 : Int32)) % (5 : Int32)) - (2 : Int32))), .val (.int c84), .unset, .unset]) [(.int p1)] [(.int (if own_ns p1.toInt then 1 else 0))] (by rw [hml]; rfl) rfl rfl (lenOf pd_I_Z rfl) (Nat.le_of_eq rfl) (hb hby at_229) (by decide) (by decide) (by decide) (by decide)
  obtain ⟨rfl, Nc88, e88⟩ := hQ87
  have N88 := Fr.app N86 Nc88
  refine own_go st87 ?_
  show own_End p e below s _ _ _ (T87.setTop (mkF m 232 #[.val (.int p1), .val (.int p2), .val (.int p3), .val (.ref b21), .val (.int ix82), .val (.int (((p3 &&& (2147483647 : Int32)) % (5 : Int32)) - (2 : Int32))), .val (.int c84), .unset, .unset] [(.int (if own_ns p1.toInt then 1 else 0)), (.int (if own_ns p1.toInt then 1 else 0))]))
  refine own_go (fun t k => XS.icmpNo X87.here hx rfl (hb hby at_232) rfl (teq rfl).2 k) ?_
  show own_End p e below s _ _ _ (T87.setTop (mkF m 235 #[.val (.int p1), .val (.int p2), .val (.int p3), .val (.ref b21), .val (.int ix82), .val (.int (((p3 &&& (2147483647 : Int32)) % (5 : Int32)) - (2 : Int32))), .val (.int c84), .unset, .unset] []))
  refine own_go (fun t k => XS.iconst X87.here hx rfl (hb hby at_235) k) ?_
  show own_End p e below s _ _ _ (T87.setTop (mkF m 236 #[.val (.int p1), .val (.int p2), .val (.int p3), .val (.ref b21), .val (.int ix82), .val (.int (((p3 &&& (2147483647 : Int32)) % (5 : Int32)) - (2 : Int32))), .val (.int c84), .unset, .unset] [(.int (1 : Int32))]))
  refine own_go (fun t k => XS.goto X87.here hx rfl (pc0 := 236) (pc' := 240) rfl (hb hby at_236) (by decide) (by decide) k) ?_
  show own_End p e below s _ _ _ (T87.setTop (mkF m 240 #[.val (.int p1), .val (.int p2), .val (.int p3), .val (.ref b21), .val (.int ix82), .val (.int (((p3 &&& (2147483647 : Int32)) % (5 : Int32)) - (2 : Int32))), .val (.int c84), .unset, .unset] [(.int (1 : Int32))]))
  refine own_go (fun t k => XS.istore X87.here hx rfl (hb hby at_240) rfl (l' := #[.val (.int p1), .val (.int p2), .val (.int p3), .val (.ref b21), .val (.int ix82), .val (.int (((p3 &&& (2147483647 : Int32)) % (5 : Int32)) - (2 : Int32))), .val (.int c84), .val (.int (1 : Int32)), .unset]) rfl k) ?_
  show own_End p e below s _ _ _ (T87.setTop (mkF m 242 #[.val (.int p1), .val (.int p2), .val (.int p3), .val (.ref b21), .val (.int ix82), .val (.int (((p3 &&& (2147483647 : Int32)) % (5 : Int32)) - (2 : Int32))), .val (.int c84), .val (.int (1 : Int32)), .unset] []))
  refine own_go (fun t k => XS.iload X87.here hx rfl (hb hby at_242) rfl k) ?_
  show own_End p e below s _ _ _ (T87.setTop (mkF m 244 #[.val (.int p1), .val (.int p2), .val (.int p3), .val (.ref b21), .val (.int ix82), .val (.int (((p3 &&& (2147483647 : Int32)) % (5 : Int32)) - (2 : Int32))), .val (.int c84), .val (.int (1 : Int32)), .unset] [(.int c84)]))
  obtain ⟨v89, T89, L89, X89, hQ89, st89⟩ := own_callS X87 hx hZ (y := (⟨"com/example/frage/frage/xdm/XmlCharacters", "isNameStartChar", "(I)Z"⟩ : MethodName)) 0 hown (hw _ (List.mem_of_getElem? (i := 9) rfl)) (hw _ (List.mem_of_getElem? (i := 10) rfl)) (hw _ (List.mem_of_getElem? (i := 11) rfl)) (hw _ (List.mem_of_getElem? (i := 12) rfl)) (by decide) (rm1 l Z a0 hw [] c84 h80 n0 Z80) e88 (pc := 244) (Ls := #[.val (.int p1), .val (.int p2), .val (.int p3), .val (.ref b21), .val (.int ix82), .val (.int (((p3 &&& (2147483647 : Int32)) % (5 : Int32)) - (2 : Int32))), .val (.int c84), .val (.int (1 : Int32)), .unset]) [(.int c84)] [] (by rw [hml]; rfl) rfl rfl (lenOf pd_I_Z rfl) (Nat.le_of_eq rfl) (hb hby at_244) (by decide) (by decide) (by decide) (by decide)
  obtain ⟨rfl, Nc90, e90⟩ := hQ89
  have N90 := Fr.app N88 Nc90
  refine own_go st89 ?_
  show own_End p e below s _ _ _ (T89.setTop (mkF m 247 #[.val (.int p1), .val (.int p2), .val (.int p3), .val (.ref b21), .val (.int ix82), .val (.int (((p3 &&& (2147483647 : Int32)) % (5 : Int32)) - (2 : Int32))), .val (.int c84), .val (.int (1 : Int32)), .unset] [(.int (if own_ns c84.toInt then 1 else 0))]))
  refine own_go (fun t k => XS.iload X89.here hx rfl (hb hby at_247) rfl k) ?_
  show own_End p e below s _ _ _ (T89.setTop (mkF m 249 #[.val (.int p1), .val (.int p2), .val (.int p3), .val (.ref b21), .val (.int ix82), .val (.int (((p3 &&& (2147483647 : Int32)) % (5 : Int32)) - (2 : Int32))), .val (.int c84), .val (.int (1 : Int32)), .unset] [(.int c84), (.int (if own_ns c84.toInt then 1 else 0))]))
  obtain ⟨v91, T91, L91, X91, hQ91, st91⟩ := own_callS X89 hx hZ (y := (⟨"com/example/frage/frage/xdm/XmlCharactersIsNameStartCharPinLaw", "ref", "(I)Z"⟩ : MethodName)) 1 hown (hw _ (List.mem_of_getElem? (i := 16) rfl)) (hw _ (List.mem_of_getElem? (i := 17) rfl)) (hw _ (List.mem_of_getElem? (i := 18) rfl)) (hw _ (List.mem_of_getElem? (i := 19) rfl)) (by decide) (rm2 l Z a0 hw [] c84 h80 n0 Z80) e90 (pc := 249) (Ls := #[.val (.int p1), .val (.int p2), .val (.int p3), .val (.ref b21), .val (.int ix82), .val (.int (((p3 &&& (2147483647 : Int32)) % (5 : Int32)) - (2 : Int32))), .val (.int c84), .val (.int (1 : Int32)), .unset]) [(.int c84)] [(.int (if own_ns c84.toInt then 1 else 0))] (by rw [hml]; rfl) rfl rfl (lenOf pd_I_Z rfl) (Nat.le_of_eq rfl) (hb hby at_249) (by decide) (by decide) (by decide) (by decide)
  obtain ⟨rfl, Nc92, e92⟩ := hQ91
  have N92 := Fr.app N90 Nc92
  refine own_go st91 ?_
  show own_End p e below s _ _ _ (T91.setTop (mkF m 252 #[.val (.int p1), .val (.int p2), .val (.int p3), .val (.ref b21), .val (.int ix82), .val (.int (((p3 &&& (2147483647 : Int32)) % (5 : Int32)) - (2 : Int32))), .val (.int c84), .val (.int (1 : Int32)), .unset] [(.int (if own_ns c84.toInt then 1 else 0)), (.int (if own_ns c84.toInt then 1 else 0))]))
  refine own_go (fun t k => XS.icmpNo X91.here hx rfl (hb hby at_252) rfl (teq rfl).2 k) ?_
  show own_End p e below s _ _ _ (T91.setTop (mkF m 255 #[.val (.int p1), .val (.int p2), .val (.int p3), .val (.ref b21), .val (.int ix82), .val (.int (((p3 &&& (2147483647 : Int32)) % (5 : Int32)) - (2 : Int32))), .val (.int c84), .val (.int (1 : Int32)), .unset] []))
  refine own_go (fun t k => XS.iconst X91.here hx rfl (hb hby at_255) k) ?_
  show own_End p e below s _ _ _ (T91.setTop (mkF m 256 #[.val (.int p1), .val (.int p2), .val (.int p3), .val (.ref b21), .val (.int ix82), .val (.int (((p3 &&& (2147483647 : Int32)) % (5 : Int32)) - (2 : Int32))), .val (.int c84), .val (.int (1 : Int32)), .unset] [(.int (1 : Int32))]))
  refine own_go (fun t k => XS.goto X91.here hx rfl (pc0 := 256) (pc' := 260) rfl (hb hby at_256) (by decide) (by decide) k) ?_
  show own_End p e below s _ _ _ (T91.setTop (mkF m 260 #[.val (.int p1), .val (.int p2), .val (.int p3), .val (.ref b21), .val (.int ix82), .val (.int (((p3 &&& (2147483647 : Int32)) % (5 : Int32)) - (2 : Int32))), .val (.int c84), .val (.int (1 : Int32)), .unset] [(.int (1 : Int32))]))
  refine own_go (fun t k => XS.istore X91.here hx rfl (hb hby at_260) rfl (l' := #[.val (.int p1), .val (.int p2), .val (.int p3), .val (.ref b21), .val (.int ix82), .val (.int (((p3 &&& (2147483647 : Int32)) % (5 : Int32)) - (2 : Int32))), .val (.int c84), .val (.int (1 : Int32)), .val (.int (1 : Int32))]) rfl k) ?_
  show own_End p e below s _ _ _ (T91.setTop (mkF m 262 #[.val (.int p1), .val (.int p2), .val (.int p3), .val (.ref b21), .val (.int ix82), .val (.int (((p3 &&& (2147483647 : Int32)) % (5 : Int32)) - (2 : Int32))), .val (.int c84), .val (.int (1 : Int32)), .val (.int (1 : Int32))] []))
  refine own_go (fun t k => XS.iload X91.here hx rfl (hb hby at_262) rfl k) ?_
  show own_End p e below s _ _ _ (T91.setTop (mkF m 264 #[.val (.int p1), .val (.int p2), .val (.int p3), .val (.ref b21), .val (.int ix82), .val (.int (((p3 &&& (2147483647 : Int32)) % (5 : Int32)) - (2 : Int32))), .val (.int c84), .val (.int (1 : Int32)), .val (.int (1 : Int32))] [(.int (1 : Int32))]))
  refine own_go (fun t k => XS.ifNo X91.here hx rfl (hb hby at_264) rfl rfl k) ?_
  show own_End p e below s _ _ _ (T91.setTop (mkF m 267 #[.val (.int p1), .val (.int p2), .val (.int p3), .val (.ref b21), .val (.int ix82), .val (.int (((p3 &&& (2147483647 : Int32)) % (5 : Int32)) - (2 : Int32))), .val (.int c84), .val (.int (1 : Int32)), .val (.int (1 : Int32))] []))
  refine own_go (fun t k => XS.iload X91.here hx rfl (hb hby at_267) rfl k) ?_
  show own_End p e below s _ _ _ (T91.setTop (mkF m 269 #[.val (.int p1), .val (.int p2), .val (.int p3), .val (.ref b21), .val (.int ix82), .val (.int (((p3 &&& (2147483647 : Int32)) % (5 : Int32)) - (2 : Int32))), .val (.int c84), .val (.int (1 : Int32)), .val (.int (1 : Int32))] [(.int (1 : Int32))]))
  refine own_go (fun t k => XS.ifNo X91.here hx rfl (hb hby at_269) rfl rfl k) ?_
  show own_End p e below s _ _ _ (T91.setTop (mkF m 272 #[.val (.int p1), .val (.int p2), .val (.int p3), .val (.ref b21), .val (.int ix82), .val (.int (((p3 &&& (2147483647 : Int32)) % (5 : Int32)) - (2 : Int32))), .val (.int c84), .val (.int (1 : Int32)), .val (.int (1 : Int32))] []))
  refine own_go (fun t k => XS.iconst X91.here hx rfl (hb hby at_272) k) ?_
  show own_End p e below s _ _ _ (T91.setTop (mkF m 273 #[.val (.int p1), .val (.int p2), .val (.int p3), .val (.ref b21), .val (.int ix82), .val (.int (((p3 &&& (2147483647 : Int32)) % (5 : Int32)) - (2 : Int32))), .val (.int c84), .val (.int (1 : Int32)), .val (.int (1 : Int32))] [(.int (1 : Int32))]))
  refine own_go (fun t k => XS.goto X91.here hx rfl (pc0 := 273) (pc' := 277) rfl (hb hby at_273) (by decide) (by decide) k) ?_
  show own_End p e below s _ _ _ (T91.setTop (mkF m 277 #[.val (.int p1), .val (.int p2), .val (.int p3), .val (.ref b21), .val (.int ix82), .val (.int (((p3 &&& (2147483647 : Int32)) % (5 : Int32)) - (2 : Int32))), .val (.int c84), .val (.int (1 : Int32)), .val (.int (1 : Int32))] [(.int (1 : Int32))]))
  exact own_retN X91 hx (t := .boolean) hret hlk (by simp) (hb hby at_277) ⟨rfl, N92⟩ (by decide) (by decide)
set_option maxRecDepth 65536 in
set_option maxHeartbeats 40000000 in
theorem comes_1 {Post : Tables → Env → Array Value → State → Outcome → State → Prop} (hpost : ∀ tb e args s v u, (limb_1_1.after args s (.returned v) u = true ∧ limb_1_2.after args s (.returned v) u = true ∧ True) → FrameEnd s (.returned v) u (Jvm.fieldLocs frame_1_writes args s ++ Jvm.arrayLocs frame_1_arrays args s ++ Jvm.staticLocs frame_1_statics s) 16 128 → Post tb e args s (.returned v) u) :
    ArmFor flags0 classFile x code maxLocals ret World_1 tables_1 room_1 Calls_1 rest_1 Pre_1 Post := by
  intro l hfl _ _ p e ha hc hk s m args below hf hA hF happ hP
  obtain ⟨hcalls, hrest, hpre⟩ := hP
  obtain ⟨-, -, -, hnamed, -, -, -, hat⟩ := (Spec.applies_iff hf).mp happ
  obtain ⟨hg, hn⟩ := and_e (Cond.before_iff.mp (show (Jvm.Cond.and given_1 narrow_1).before args s = true from hpre))
  obtain ⟨g0, r0⟩ := and_e hg
  obtain ⟨g1, r1⟩ := and_e r0
  obtain ⟨g2, r2⟩ := and_e r1
  obtain ⟨w0, w1, w2, rfl⟩ : ∃ w0 w1 w2 : Value, args = #[w0, w1, w2] := by
    have hs : args.size = 3 := by simpa [Cond.value, given_1] using g0
    obtain ⟨L⟩ := args
    match L, hs with
    | [w0, w1, w2], _ => exact ⟨w0, w1, w2, rfl⟩
  have hw := fun d (hd : d ∈ tables_1) => atoms_spec (ws := Jvm.Cond.code x code maxLocals ret :: tables_1) hat d (List.mem_cons_of_mem _ hd)
  have hfit : Fit s := fun {y c} hc i hi => by
    obtain ⟨ha, rfl⟩ := Array.getElem?_eq_some_iff.mp hc
    have q := List.all_eq_true.mp ((Array.all_eq_true_iff_forall_mem.mp hF) _ (Array.getElem_mem ha)) i (List.mem_range.mpr hi)
    simpa [Array.getElem?_eq_getElem hi] using q
  obtain ⟨i0, ei0⟩ := is_v g1
  obtain rfl : w0 = (.int i0) := Option.some.inj ei0
  obtain ⟨i1, ei1⟩ := is_v g2
  obtain rfl : w1 = (.int i1) := Option.some.inj ei1
  obtain ⟨i2, ei2⟩ := is_v r2
  obtain rfl : w2 = (.int i2) := Option.some.inj ei2
  obtain ⟨n, o, h1, h2, h3, _, L, rfl, ⟨rfl, N⟩, hq⟩ := rm0 l s _ hw tables_1 i0 i1 i2 s.heap s.heap.size (Nat.le_refl _)  p e ha hc hk s m _ below hf ((Spec.applies_iff_loose hf).mp happ).1 ⟨rfl, State.Warmed39.refl s, rfl⟩ trivial
  refine ⟨n, _, h1, h2, h3, hpost _ _ _ _ _ _ ⟨Cond.after_iff.mpr rfl, Cond.after_iff.mpr (eq_i res_at (Term.int_eval (1)) rfl), trivial⟩ ⟨hq.1, hq.2.1, (hq.2.2.sift fun y hy => Or.inr (N y hy)).mono (by decide) (by decide)⟩⟩
theorem main_1_1 : Claimed_1_1 := comes_1 fun _ _ _ _ _ _ h hF => ⟨h.1, hF⟩
theorem main_1_2 : Claimed_1_2 := comes_1 fun _ _ _ _ _ _ h hF => ⟨h.2.1, hF⟩
end Jvm.Pilot.@@N@@
namespace Jvm.Pilot.@@N@@
open Jvm Jvm.ClassFile Sem Op Lib Jvm.Free Jvm.Stand Jvm.Pilot.@@N@@.Jvm.D
/-! MADE BY PROGRAM (witnessworld.py) out of the Statement's table words and the real class files: 9 classes; the members and pool entries that the words name. The judged class is class 1, her method 3. -/
namespace start1
open Jvm.ClassFile
def u (s : String) : CpInfo := .utf8 (stringToUtf16 s)
/-- a pool by its gaps: so many unusable entries, then the entry; so many at the end -/
def gap : Nat → List CpInfo → List CpInfo
  | 0, r => r
  | n + 1, r => .unusable :: gap n r
def poolList (es : List (Nat × CpInfo)) (last : Nat) : List CpInfo := es.foldr (fun e r => gap e.1 (e.2 :: r)) (gap last [])
def pool (es : List (Nat × CpInfo)) (last : Nat) : Array CpInfo := ⟨poolList es last⟩
def fileOf (pool : Array CpInfo) (this : Nat) (attrs : Array Attribute := #[]) (ms : Array MethodInfo := #[]) (fl : Nat := 33) (sup : Nat := 0) (ifs : Array Nat := #[]) (fds : Array FieldInfo := #[]) : ClassFile where
  minorVersion := 0
  majorVersion := 65
  constantPool := pool
  accessFlags := fl
  thisClass := this
  superClass := sup
  interfaces := ifs
  fields := fds
  methods := ms
  attributes := attrs
def plain (name : String) (sup : Option ClassId) : Class where
  name := name
  kind := .ordinary
  loader := none
  accessFlags := 33
  super := sup
  interfaces := #[]
  cf := none
  fields := #[]
  methods := #[]
  instanceTypes := #[]
  staticTypes := #[]
  resolved := #[]
  callSites := []
  init := .initialized
  statics := none
  mirror := none

def pool0 : Array CpInfo := pool [(5, u "<init>"), (0, u "()V"), (1, .class_ 10), (1, u "java/lang/Object")] 113

def k0m0 : Method := { name := "<init>", desc := "()V", sig := { parameters := [], returnType := none }, accessFlags := 1, code := none }
/-- java/lang/Object -/
def k0 : Class := { plain "java/lang/Object" none with
  accessFlags := 33
  interfaces := #[]
  cf := some (fileOf pool0 8 #[] #[{ accessFlags := 1, nameIndex := 5, descriptorIndex := 6, attributes := #[] }] 33 0 #[] #[])
  fields := #[]
  methods := #[k0m0]
  instanceTypes := #[]
  staticTypes := #[]
  resolved := Array.replicate 124 none
  statics := none }

def pool1 : Array CpInfo := pool [(2, .class_ 4), (1, u "java/lang/Object"), (0, u "<init>"), (0, u "()V"), (0, .integer 983039), (0, .methodref 9 10), (0, .class_ 11), (0, .nameAndType 12 13), (0, u "com/example/frage/frage/xdm/XmlCharactersIsNameStartCharPinLaw"), (0, u "in"), (0, u "(III)Z"), (0, .integer 55296), (0, .integer 63743), (0, .integer 64976), (0, .integer 65007), (0, .integer 65534), (0, .integer 65535), (0, .integer 55295), (0, .integer 63744), (0, .integer 64975), (0, .integer 65008), (0, .integer 65533), (0, .integer 65536), (0, .integer 2147483647), (0, .methodref 28 29), (0, .class_ 30), (0, .nameAndType 31 32), (0, u "com/example/frage/frage/xdm/XmlCharacters"), (0, u "isNameStartChar"), (0, u "(I)Z"), (0, .methodref 9 34), (0, .nameAndType 35 32), (0, u "ref"), (3, u "law")] 4

def k1m0 : Method := { name := "<init>", desc := "()V", sig := { parameters := [], returnType := none }, accessFlags := 1, code := none }
def k1c1 : Code := { maxStack := 2, maxLocals := 3, code := method_2_code, exceptionTable := #[], attributes := #[] }
def k1m1 : Method := { name := "in", desc := "(III)Z", sig := { parameters := [.int, .int, .int], returnType := some .boolean }, accessFlags := 10, code := some k1c1 }
def k1c2 : Code := { maxStack := 3, maxLocals := 1, code := method_3_code, exceptionTable := #[], attributes := #[] }
def k1m2 : Method := { name := "ref", desc := "(I)Z", sig := { parameters := [.int], returnType := some .boolean }, accessFlags := 10, code := some k1c2 }
def k1c3 : Code := { maxStack := 4, maxLocals := 9, code := code, exceptionTable := #[], attributes := #[] }
def k1m3 : Method := { name := "law", desc := "(III)Z", sig := { parameters := [.int, .int, .int], returnType := some .boolean }, accessFlags := 9, code := some k1c3 }
/-- com/example/frage/frage/xdm/XmlCharactersIsNameStartCharPinLaw -/
def k1 : Class := { plain "com/example/frage/frage/xdm/XmlCharactersIsNameStartCharPinLaw" (some 0) with
  accessFlags := 49
  interfaces := #[]
  cf := some (fileOf pool1 9 #[] #[{ accessFlags := 1, nameIndex := 5, descriptorIndex := 6, attributes := #[] }, { accessFlags := 10, nameIndex := 12, descriptorIndex := 13, attributes := #[] }, { accessFlags := 10, nameIndex := 35, descriptorIndex := 32, attributes := #[] }, { accessFlags := 9, nameIndex := 39, descriptorIndex := 13, attributes := #[] }] 49 2 #[] #[])
  fields := #[]
  methods := #[k1m0, k1m1, k1m2, k1m3]
  instanceTypes := #[]
  staticTypes := #[]
  resolved := Array.replicate 44 none
  statics := none }

def pool2 : Array CpInfo := pool [(2, .class_ 4), (1, u "java/lang/Object"), (0, u "<init>"), (0, u "()V"), (29, .class_ 38), (1, u "com/example/frage/frage/xdm/XmlCharacters"), (23, .integer 55295), (0, .integer 63744), (0, .integer 64975), (0, .integer 65008), (0, .integer 65533), (0, .integer 65536), (0, .integer 983039), (2, u "isNameStartChar"), (0, u "(I)Z")] 41

def k2m0 : Method := { name := "<init>", desc := "()V", sig := { parameters := [], returnType := none }, accessFlags := 2, code := none }
def k2c1 : Code := { maxStack := 2, maxLocals := 1, code := prog_72_method_7_code, exceptionTable := #[], attributes := #[] }
def k2m1 : Method := { name := "isNameStartChar", desc := "(I)Z", sig := { parameters := [.int], returnType := some .boolean }, accessFlags := 9, code := some k2c1 }
/-- com/example/frage/frage/xdm/XmlCharacters -/
def k2 : Class := { plain "com/example/frage/frage/xdm/XmlCharacters" (some 0) with
  accessFlags := 49
  interfaces := #[]
  cf := some (fileOf pool2 36 #[] #[{ accessFlags := 2, nameIndex := 5, descriptorIndex := 6, attributes := #[] }, { accessFlags := 9, nameIndex := 71, descriptorIndex := 72, attributes := #[] }] 49 2 #[] #[])
  fields := #[]
  methods := #[k2m0, k2m1]
  instanceTypes := #[]
  staticTypes := #[]
  resolved := Array.replicate 114 none
  statics := none }

def pool3 : Array CpInfo := pool [(1, u "java/lang/Cloneable"), (0, .class_ 1), (0, u "java/lang/Object"), (0, .class_ 3)] 3

/-- java/lang/Cloneable -/
def k3 : Class := { plain "java/lang/Cloneable" (some 0) with
  accessFlags := 1537
  interfaces := #[]
  cf := some (fileOf pool3 2 #[] #[] 1537 4 #[] #[])
  fields := #[]
  methods := #[]
  instanceTypes := #[]
  staticTypes := #[]
  resolved := Array.replicate 8 none
  statics := none }

def pool4 : Array CpInfo := pool [(1, u "java/io/Serializable"), (0, .class_ 1), (0, u "java/lang/Object"), (0, .class_ 3)] 3

/-- java/io/Serializable -/
def k4 : Class := { plain "java/io/Serializable" (some 0) with
  accessFlags := 1537
  interfaces := #[]
  cf := some (fileOf pool4 2 #[] #[] 1537 4 #[] #[])
  fields := #[]
  methods := #[]
  instanceTypes := #[]
  staticTypes := #[]
  resolved := Array.replicate 8 none
  statics := none }

/-- the primitive byte -/
def k5 : Class := { plain "byte" none with kind := .primitive 'B', accessFlags := 0x411 }
/-- [B -/
def k6 : Class := { plain "[B" (some 0) with kind := .array 5 .byte, interfaces := #[3, 4], accessFlags := 1041 }

/-- the primitive int -/
def k7 : Class := { plain "int" none with kind := .primitive 'I', accessFlags := 0x411 }
/-- [I -/
def k8 : Class := { plain "[I" (some 0) with kind := .array 7 .int, interfaces := #[3, 4], accessFlags := 1041 }

def heap : Heap := #[]
def classes : Array Class := #[k0, k1, k2, k3, k4, k5, k6, k7, k8]
def interned : List (Array UInt16 × Addr) := []
def slotsUsed : Nat := 0
def theMethod : MethodId := ⟨1, 3⟩
def args0 : Array Value := #[.int 5, .int 3, .int 7]
def aboutOver (below : List Frame) : State where
  vm := { classes := classes, interned := interned.toArray }
  heap := heap
  slotsUsed := slotsUsed
  threads := #[{ frames := .invoking theMethod args0 :: below }]
def below0 : List Frame := [.native { method := ⟨0, 0⟩, args := #[] }]
def about1 : State := aboutOver below0
def p0 : Program := .bare "" "" ""
def e0 : Env := launch0.env 0 0 0
theorem w_frames : about1.frames = Frame.invoking theMethod args0 :: below0 := rfl
set_option maxRecDepth 65536 in
theorem w_args : argsFit about1.vm theMethod args0 = true := by decide +kernel
set_option maxRecDepth 65536 in
theorem w_heap : heapFits about1 = true := by decide +kernel
set_option maxRecDepth 65536 in
theorem w_runnable : about1.curStatus? = some .runnable := by decide +kernel
set_option maxRecDepth 65536 in
theorem w_alone : about1.alone = true := by decide +kernel
set_option maxRecDepth 65536 in
theorem w_named : about1.methodNamed? x = some theMethod := by decide +kernel
set_option maxRecDepth 65536 in
theorem w_hears : about1.hears theMethod below0 = true := by decide +kernel
set_option maxRecDepth 65536 in
theorem w_ripe : about1.ripe theMethod args0 below0 = true := by decide +kernel
theorem w_running : about1.status = .running := rfl
set_option maxRecDepth 65536 in
theorem w_room : about1.hasRoom e0.platform room_1 = true :=
  launch0.hasRoom_least _ room_1 (by decide +kernel) (by decide +kernel) (by decide +kernel) (by decide +kernel) (by decide +kernel) (by decide +kernel)
theorem allAtoms_all (ts : List Jvm.Cond) (a : Array Jvm.Value) (st : Jvm.State) : (allAtoms ts).before a st = ts.all (fun c => c.before a st) := by
  induction ts with
  | nil => rfl
  | cons c t ih =>
    show (Jvm.Cond.and c (allAtoms t)).before a st = _
    rw [Jvm.Cond.before_and, ih, List.all_cons]
def words1 : List Jvm.Cond := Jvm.Cond.code x code maxLocals ret :: tables_1
/-- a 'code' word, met by the world's own term for the bytes: nothing is compared byte by byte -/
theorem code_word {y : MethodName} {bytes : ByteArray} {mx : Nat} {rt : Option FieldType} {a : Array Value} {s : State} {m : MethodId} {meth : Method} {c : Code} (h1 : s.methodNamed? y = some m) (h2 : s.vm.method? m = some meth) (h3 : meth.code = some c) (h4 : c.code = bytes)
    (h5 : (c.maxLocals == mx && c.exceptionTable.isEmpty && decide (c.maxStack ≤ mostOperands) && decide (meth.sig.returnType = rt) && !meth.locks && decide (parseMethodDescriptor y.desc = some meth.sig)) = true) : (Jvm.Cond.code y bytes mx rt).before a s = true := by
  simp only [Bool.and_eq_true, beq_iff_eq, Bool.not_eq_true', decide_eq_true_eq] at h5
  obtain ⟨⟨⟨⟨⟨g1, g2⟩, g3⟩, g4⟩, g5⟩, g6⟩ := h5
  simp [Cond.before, Cond.holds, Cond.value, h1, h2, h3, h4, g1, g2, g3, g4, g5, g6]
def isCode : Jvm.Cond → Bool
  | .code _ _ _ _ => true
  | _ => false
theorem all_split {L : List Jvm.Cond} {P : Jvm.Cond → Bool} (h1 : L.all (fun c => isCode c || P c) = true) (h2 : ∀ c ∈ L.filter isCode, P c = true) : L.all P = true := by
  refine List.all_eq_true.mpr fun c hc => ?_
  have h := List.all_eq_true.mp h1 c hc
  rcases Bool.eq_false_or_eq_true (isCode c) with hi | hi
  · exact h2 c (List.mem_filter.mpr ⟨hc, hi⟩)
  · simpa [hi] using h
set_option maxRecDepth 65536 in
theorem w_c0 : (Jvm.Cond.code x code maxLocals ret).before args0 about1 = true := code_word (m := ⟨1, 3⟩) (meth := k1m3) (c := k1c3) (by decide +kernel) rfl rfl rfl (by decide +kernel)
set_option maxRecDepth 65536 in
theorem w_c1 : (Jvm.Cond.code ({ cls := "com/example/frage/frage/xdm/XmlCharacters", name := "isNameStartChar", desc := "(I)Z" } : Jvm.MethodName) prog_72_method_7_code (1 : Nat) (Option.some Jvm.ClassFile.FieldType.boolean)).before args0 about1 = true := code_word (m := ⟨2, 1⟩) (meth := k2m1) (c := k2c1) (by decide +kernel) rfl rfl rfl (by decide +kernel)
set_option maxRecDepth 65536 in
theorem w_c2 : (Jvm.Cond.code ({ cls := "com/example/frage/frage/xdm/XmlCharactersIsNameStartCharPinLaw", name := "ref", desc := "(I)Z" } : Jvm.MethodName) method_3_code (1 : Nat) (Option.some Jvm.ClassFile.FieldType.boolean)).before args0 about1 = true := code_word (m := ⟨1, 2⟩) (meth := k1m2) (c := k1c2) (by decide +kernel) rfl rfl rfl (by decide +kernel)
set_option maxRecDepth 65536 in
theorem w_c3 : (Jvm.Cond.code ({ cls := "com/example/frage/frage/xdm/XmlCharactersIsNameStartCharPinLaw", name := "in", desc := "(III)Z" } : Jvm.MethodName) method_2_code (3 : Nat) (Option.some Jvm.ClassFile.FieldType.boolean)).before args0 about1 = true := code_word (m := ⟨1, 1⟩) (meth := k1m1) (c := k1c1) (by decide +kernel) rfl rfl rfl (by decide +kernel)
def codes1 : List Jvm.Cond := [Jvm.Cond.code x code maxLocals ret, Jvm.Cond.code ({ cls := "com/example/frage/frage/xdm/XmlCharacters", name := "isNameStartChar", desc := "(I)Z" } : Jvm.MethodName) prog_72_method_7_code (1 : Nat) (Option.some Jvm.ClassFile.FieldType.boolean), Jvm.Cond.code ({ cls := "com/example/frage/frage/xdm/XmlCharactersIsNameStartCharPinLaw", name := "ref", desc := "(I)Z" } : Jvm.MethodName) method_3_code (1 : Nat) (Option.some Jvm.ClassFile.FieldType.boolean), Jvm.Cond.code ({ cls := "com/example/frage/frage/xdm/XmlCharactersIsNameStartCharPinLaw", name := "in", desc := "(III)Z" } : Jvm.MethodName) method_2_code (3 : Nat) (Option.some Jvm.ClassFile.FieldType.boolean)]
set_option maxRecDepth 65536 in
theorem codes_eq : words1.filter isCode = codes1 := rfl
theorem w_codes : ∀ c ∈ words1.filter isCode, c.before args0 about1 = true := by
  rw [codes_eq]
  intro c hc
  simp only [codes1, List.mem_cons, List.not_mem_nil, or_false] at hc
  rcases hc with rfl | rfl | rfl | rfl
  · exact w_c0
  · exact w_c1
  · exact w_c2
  · exact w_c3
set_option maxRecDepth 65536 in
theorem w_t1 : (words1.take 24).all (fun c => isCode c || c.before args0 about1) = true := by decide +kernel
set_option maxRecDepth 65536 in
theorem w_t2 : (words1.drop 24).all (fun c => isCode c || c.before args0 about1) = true := by decide +kernel
theorem w_tables : (allAtoms (Jvm.Cond.code x code maxLocals ret :: tables_1)).before args0 about1 = true := by
  rw [allAtoms_all]
  show words1.all (fun c => c.before args0 about1) = true
  refine all_split ?_ w_codes
  rw [← List.take_append_drop 24 words1, List.all_append, w_t1, w_t2]
  rfl
set_option maxRecDepth 65536 in
theorem w_case : (Jvm.Cond.and given_1 narrow_1).before args0 about1 = true := by decide +kernel
theorem w_applies : (headSpec (Jvm.Cond.code x code maxLocals ret :: tables_1) room_1).applies x e0.platform about1 = true :=
  (Spec.applies_iff w_frames).mpr ⟨w_running, w_runnable, w_alone, w_named, w_hears, w_ripe, w_room, w_tables⟩
theorem atStart : AtStart classFile x code maxLocals ret World_1 tables_1 room_1 Calls_1 rest_1 Pre_1 launch0 p0 e0 about1 theMethod args0 below0 :=
  ⟨lists_1, trivial, launch0.admits_env _ _ _, launch0.least_env, fairChoices_fair.cas, fairChoices_fair.clock, w_frames, w_args, w_heap, w_applies, trivial, trivial, w_case⟩
end start1
theorem witness_1 : WitnessClaimed_1 := ⟨start1.p0, start1.e0, start1.about1, start1.theMethod, start1.args0, start1.below0, start1.atStart⟩
end Jvm.Pilot.@@N@@
