import JvmDerived
import JvmDerived.Pilot.@@N@@Statement
import JvmDerived.Pilot.@@N@@Code
set_option linter.unusedVariables false
set_option linter.unusedSimpArgs false
namespace Jvm.Pilot.@@N@@
open Jvm Jvm.ClassFile Sem Op Lib Jvm.Free Jvm.Stand Jvm.LawKit Jvm.RoadKit Bundle Jvm.Pilot.@@N@@.Jvm.D
/-! own kit, part 1: what a walk still owes, as a predicate on the state it stands at -/
section Own
variable {p : Program} {l : Launch} {e : Env} {R : Room} {s : State} {m : MethodId} {args : Array Value} {below : List Frame} {meth : Method} {c : Code} {T : State} {locs : List Loc} {cells slots : Nat} {Z : State} {a0 : Array Value} {h : Heap} {Q : Option Value → Heap → List Loc → Prop} {kc ks : Nat}
def own_End (p : Program) (e : Env) (below : List Frame) (s : State) (Q : Option Value → Heap → List Loc → Prop) (kc ks : Nat) (A : State) : Prop :=
  ∃ s₂ o, Steps p.tables e below A s₂ ∧ s₂.status = .running ∧ Ended s₂ below o ∧ ∃ v L, o = .returned v ∧ Q v s₂.heap L ∧ FrameEnd s o s₂ L kc ks
theorem own_go {A B : State} (h : ∀ t, Steps p.tables e below B t → Steps p.tables e below A t) (k : own_End p e below s Q kc ks B) : own_End p e below s Q kc ks A := by
  obtain ⟨s₂, o, h1, r⟩ := k
  exact ⟨s₂, o, h _ h1, r⟩
/-- a word on 'what is owed' is shown first and used behind -/
theorem own_join {A : State} (F : (State → Prop) → Prop) (h1 : F (own_End p e below s Q kc ks)) (h2 : F (own_End p e below s Q kc ks) → own_End p e below s Q kc ks A) : own_End p e below s Q kc ks A := h2 h1
abbrev own_Met (l : Launch) (y : MethodName) (bytes : ByteArray) (maxL : Nat) (rt : Option FieldType) (ws : List Jvm.Cond) (rm : Room) (as' : Array Value) (Z : State) (h0 : Heap) (Q : Option Value → Heap → List Loc → Prop) : Prop :=
  MetFree l y (head1 (Jvm.Cond.code y bytes maxL rt :: ws) rm) (fun a U => a = as' ∧ Z.Warmed39 U.vm ∧ U.heap = h0) (fun _ _ _ _ _ => True) (fun _ U o U' => ∃ v L, o = .returned v ∧ Q v U'.heap L ∧ FrameEnd U o U' L rm.cells rm.slots)
theorem own_body {y : MethodName} {bytes : ByteArray} {maxL : Nat} {rt : Option FieldType} {ws : List Jvm.Cond} {rm : Room} {as' : Array Value} {h0 : Heap} (pn : plainFor y = true)
    (body : ∀ (p : Program) (e : Env) (s : State) (m : MethodId) (below : List Frame) (meth : Method) (c : Code) (s₁ : State), Stand p l e rm s m as' below meth c s₁ [] 0 0 → p.tables.exec = Jvm.exec → c.code = bytes → c.maxLocals = maxL → meth.sig.returnType = rt → meth.locks = false → s.vm.findClass y.cls = some m.cls → meth.name = y.name → Z.Warmed39 s.vm → s₁.heap = h0 → own_End p e below s Q rm.cells rm.slots (s₁.setTop (entryFrame m as' maxL))) :
    own_Met l y bytes maxL rt ws rm as' Z h0 Q := by
  refine MetFree.of_bodySF pn hisR ?_
  intro p e s m args below meth c s₁ Bd hml0 hP hK
  obtain ⟨rfl, hZ, hh⟩ := hP
  exact body p e s m below meth c s₁ (Stand.of_body Bd) Bd.exec Bd.bytes hml0 Bd.returns Bd.notSynchronized (findClass_of_methodNamed Bd.named) (name_of_methodNamed Bd.named Bd.method).1 hZ (by rw [← hh, Bd.state]; rfl)
theorem own_retN (X : Stand p l e R s m args below meth c T locs cells slots) (hx : p.tables.exec = Jvm.exec) {t : FieldType} (hret : meth.sig.returnType = some t) (hlk : meth.locks = false) (ht : t = .boolean ∨ t = .byte ∨ t = .char ∨ t = .short) {pc : Nat} {Ls : Array Slot} {z : Int32} {rest : List Value} (hd : decode c.code pc = .ok (.ireturn, 1)) (hq : Q (some (.int (nar t z))) T.heap locs) (h1 : cells ≤ kc) (h2 : slots ≤ ks) :
    own_End p e below s Q kc ks (T.setTop (mkF m pc Ls (.int z :: rest))) := by
  obtain ⟨fs, hr, hrun, hended, hW, hsame⟩ := X.leave (v := some (.int (nar t z))) (fun h => by rw [hret] at h; cases h) hlk
  exact ⟨_, _, retN X hx hret ht hd hr, hrun, hended, _, _, rfl, hq, ⟨_, rfl⟩, hW, hsame.mono h1 h2⟩
theorem own_retI (X : Stand p l e R s m args below meth c T locs cells slots) (hx : p.tables.exec = Jvm.exec) (hret : meth.sig.returnType = some .int) (hlk : meth.locks = false) {pc : Nat} {Ls : Array Slot} {z : Int32} {rest : List Value} (hd : decode c.code pc = .ok (.ireturn, 1)) (hq : Q (some (.int z)) T.heap locs) (h1 : cells ≤ kc) (h2 : slots ≤ ks) :
    own_End p e below s Q kc ks (T.setTop (mkF m pc Ls (.int z :: rest))) := by
  obtain ⟨fs, hr, hrun, hended, hW, hsame⟩ := X.leave (v := some (.int z)) (fun h => by rw [hret] at h; cases h) hlk
  exact ⟨_, _, retOut X hx hret rfl (Or.inl ⟨rfl, Or.inl rfl, z, rfl⟩) hd hr, hrun, hended, _, _, rfl, hq, ⟨_, rfl⟩, hW, hsame.mono h1 h2⟩
theorem own_retJ (X : Stand p l e R s m args below meth c T locs cells slots) (hx : p.tables.exec = Jvm.exec) (hret : meth.sig.returnType = some .long) (hlk : meth.locks = false) {pc : Nat} {Ls : Array Slot} {z : Int64} {rest : List Value} (hd : decode c.code pc = .ok (.lreturn, 1)) (hq : Q (some (.long z)) T.heap locs) (h1 : cells ≤ kc) (h2 : slots ≤ ks) :
    own_End p e below s Q kc ks (T.setTop (mkF m pc Ls (.long z :: rest))) := by
  obtain ⟨fs, hr, hrun, hended, hW, hsame⟩ := X.leave (v := some (.long z)) (fun h => by rw [hret] at h; cases h) hlk
  exact ⟨_, _, retOut X hx hret rfl (Or.inr (Or.inl ⟨rfl, rfl, z, rfl⟩)) hd hr, hrun, hended, _, _, rfl, hq, ⟨_, rfl⟩, hW, hsame.mono h1 h2⟩
theorem own_retA (X : Stand p l e R s m args below meth c T locs cells slots) (hx : p.tables.exec = Jvm.exec) {t : FieldType} (ht : t.isReference = true) (hret : meth.sig.returnType = some t) (hlk : meth.locks = false) {pc : Nat} {Ls : Array Slot} {b : Addr} (hd : decode c.code pc = .ok (.areturn, 1)) (hq : Q (some (.ref b)) T.heap locs) (h1 : cells ≤ kc) (h2 : slots ≤ ks) :
    own_End p e below s Q kc ks (T.setTop (mkF m pc Ls [.ref b])) := by
  obtain ⟨fs, hr, hrun, hended, hW, hsame⟩ := X.leave (v := some (.ref b)) (fun h => by rw [hret] at h; cases h) hlk
  exact ⟨_, _, X.areturnOut hx rfl hret ht hd hr, hrun, hended, _, _, rfl, hq, ⟨_, rfl⟩, hW, hsame.mono h1 h2⟩
theorem own_ret (X : Stand p l e R s m args below meth c T locs cells slots) (hx : p.tables.exec = Jvm.exec) (hret : meth.sig.returnType = none) (hlk : meth.locks = false) {pc : Nat} {Ls : Array Slot} (hd : decode c.code pc = .ok (.return_, 1)) (hq : Q none T.heap locs) (h1 : cells ≤ kc) (h2 : slots ≤ ks) :
    own_End p e below s Q kc ks (T.setTop (mkF m pc Ls [])) := by
  obtain ⟨fs, hr, hrun, hended, hW, hsame⟩ := X.leave (v := none) (fun _ => rfl) hlk
  exact ⟨_, _, X.returnOut hx hret hd hr, hrun, hended, _, _, rfl, hq, ⟨_, rfl⟩, hW, hsame.mono h1 h2⟩
/-! own kit, part 2: calls by a callee's contract -/
theorem own_callS (X : Stand p l e R s m args below meth c T locs cells slots) (hx : p.tables.exec = Jvm.exec) (hZ : Z.Warmed39 s.vm) {own : String} {index : Nat} {y : MethodName} {bytes : ByteArray} {maxL : Nat} {rt : Option FieldType} {rm : Room} {as' : Array Value} {Qc : Option Value → Heap → List Loc → Prop} (W : Nat)
    (hown : s.vm.findClass own = some m.cls) (w1 : (Cond.methodLink own index y).before a0 Z = true) (w2 : (Cond.static y).before a0 Z = true) (w3 : (Cond.initialized y.cls).before a0 Z = true) (w4 : (Cond.code y bytes maxL rt).before a0 Z = true)
    (hy : y.cls ≠ "java/lang/invoke/MethodHandle" ∧ y.cls ≠ "java/lang/invoke/VarHandle") (hM : own_Met l y bytes maxL rt [] rm as' Z h Qc) (eT : T.heap = h)
    {pc : Nat} {Ls : Array Slot} {st : List Value} (argsL rest : List Value) (hsize : Ls.size = c.maxLocals) (hst : st = argsL.reverse ++ rest) (has : argsL.toArray = as') (hlen : ∀ sig, parseMethodDescriptor y.desc = some sig → argsL.length = sig.parameters.length)
    (hW : (rest.map fun v => v.category).sum ≤ W) (hd : decode c.code pc = .ok (.invokestatic index, 3)) (hf : rm.frames + 1 ≤ R.frames) (hl : W + (maxL + 11) + rm.locals ≤ R.locals) (hc : cells + rm.cells ≤ R.cells) (hs : slots + rm.slots ≤ R.slots) :
    ∃ v T' L, Stand p l e R s m args below meth c T' (locs ++ L) (cells + rm.cells) (slots + rm.slots) ∧ Qc v T'.heap L ∧ ∀ t, Steps p.tables e below (T'.setTop (mkF m (pc + 3) Ls (v.toList ++ rest))) t → Steps p.tables e below (T.setTop (mkF m pc Ls st)) t := by
  obtain ⟨v, vm1, ⟨T', L', k', n'⟩, -, X', ⟨L, hQ, l1, y1, z1⟩, st'⟩ := Jvm.LawKit.callS X hx (y := y) hown (mvT hZ w1) (mvT hZ w2) (mvT hZ w3) (mvT hZ w4) hy (backOf (W := W) hM hZ w4 w3 hf hl) (g := mkF m pc Ls st) rfl hsize (argsL := argsL) (rest := rest) hlen hst (by show 2 * 0 + _ ≤ _; omega) hd (fun _ _ => ⟨has, eT, hc, hs⟩)
  dsimp only [Pt.U, Pt.locs, Pt.cells, Pt.slots] at X' l1 y1 z1 st' hQ
  subst l1 y1 z1
  exact ⟨v, T', L, X', hQ, st'⟩
theorem own_callV (X : Stand p l e R s m args below meth c T locs cells slots) (hx : p.tables.exec = Jvm.exec) (hZ : Z.Warmed39 s.vm) {own C : String} {index : Nat} {y : MethodName} {bytes : ByteArray} {maxL : Nat} {rt : Option FieldType} {rm : Room} {as' : Array Value} {Qc : Option Value → Heap → List Loc → Prop} (W : Nat)
    (hown : s.vm.findClass own = some m.cls) (w1 : (Cond.methodLink own index y).before a0 Z = true) (w2 : (Cond.declares y).before a0 Z = true) (w3 : (Cond.selects C y y).before a0 Z = true) (w4 : (Cond.instanceMethod y).before a0 Z = true) (w5 : (Cond.initialized y.cls).before a0 Z = true) (w6 : (Cond.code y bytes maxL rt).before a0 Z = true)
    (hy : y.cls ≠ "java/lang/invoke/MethodHandle" ∧ y.cls ≠ "java/lang/invoke/VarHandle") (hM : own_Met l y bytes maxL rt [] rm as' Z h Qc) (eT : T.heap = h) {b : Addr} (E : Exa Z h b C)
    {pc : Nat} {Ls : Array Slot} {st : List Value} (argsL rest : List Value) (hsize : Ls.size = c.maxLocals) (hst : st = argsL.reverse ++ .ref b :: rest) (has : (.ref b :: argsL).toArray = as') (hlen : ∀ sig, parseMethodDescriptor y.desc = some sig → argsL.length = sig.parameters.length)
    (hW : (rest.map fun v => v.category).sum ≤ W) (hd : decode c.code pc = .ok (.invokevirtual index, 3)) (hf : rm.frames + 1 ≤ R.frames) (hl : W + (maxL + 11) + rm.locals ≤ R.locals) (hc : cells + rm.cells ≤ R.cells) (hs : slots + rm.slots ≤ R.slots) :
    ∃ v T' L, Stand p l e R s m args below meth c T' (locs ++ L) (cells + rm.cells) (slots + rm.slots) ∧ Qc v T'.heap L ∧ ∀ t, Steps p.tables e below (T'.setTop (mkF m (pc + 3) Ls (v.toList ++ rest))) t → Steps p.tables e below (T.setTop (mkF m pc Ls st)) t := by
  obtain ⟨cq, kq, q1, q2, q3⟩ := isOf hZ eT E
  obtain ⟨v, vm1, ⟨T', L', k', n'⟩, -, X', ⟨L, hQ, l1, y1, z1⟩, st'⟩ := X.virtualBack hx (y := y) (z := y) hown (mvT hZ w1) (mvT hZ w2) (notFace_of_selects (args := #[]) (mvT hZ w3)) (mvT hZ w3) (mvT hZ w4) hy (backOf (W := W) hM hZ w6 w5 hf hl) q1 q3 (g := mkF m pc Ls st) rfl hsize (Steps.refl _) (argsL := argsL) (rest := rest) hlen hst (by show 2 * 0 + _ ≤ _; omega) hd (fun _ _ => ⟨has, eT, hc, hs⟩)
  dsimp only [Pt.U, Pt.locs, Pt.cells, Pt.slots] at X' l1 y1 z1 st' hQ
  subst l1 y1 z1
  exact ⟨v, T', L, X', hQ, fun t k => st'.trans k⟩
theorem own_callI (X : Stand p l e R s m args below meth c T locs cells slots) (hx : p.tables.exec = Jvm.exec) (hZ : Z.Warmed39 s.vm) {own : String} {index : Nat} {y : MethodName} {bytes : ByteArray} {maxL : Nat} {rm : Room} {as' : Array Value} {Qc : Option Value → Heap → List Loc → Prop} (W : Nat) (hi : y.name = "<init>")
    (hown : s.vm.findClass own = some m.cls) (w1 : (Cond.methodLink own index y).before a0 Z = true) (w4 : (Cond.instanceMethod y).before a0 Z = true) (w5 : (Cond.initialized y.cls).before a0 Z = true) (w6 : (Cond.code y bytes maxL none).before a0 Z = true)
    (hy : y.cls ≠ "java/lang/invoke/MethodHandle" ∧ y.cls ≠ "java/lang/invoke/VarHandle") (hM : own_Met l y bytes maxL none [] rm as' Z h Qc) (eT : T.heap = h) {b : Addr}
    {pc : Nat} {Ls : Array Slot} {st : List Value} (argsL rest : List Value) (hsize : Ls.size = c.maxLocals) (hst : st = argsL.reverse ++ .ref b :: rest) (has : (.ref b :: argsL).toArray = as') (hlen : ∀ sig, parseMethodDescriptor y.desc = some sig → argsL.length = sig.parameters.length)
    (hW : (rest.map fun v => v.category).sum ≤ W) (hd : decode c.code pc = .ok (.invokespecial index, 3)) (hf : rm.frames + 1 ≤ R.frames) (hl : W + (maxL + 11) + rm.locals ≤ R.locals) (hc : cells + rm.cells ≤ R.cells) (hs : slots + rm.slots ≤ R.slots) :
    ∃ v T' L, Stand p l e R s m args below meth c T' (locs ++ L) (cells + rm.cells) (slots + rm.slots) ∧ Qc v T'.heap L ∧ ∀ t, Steps p.tables e below (T'.setTop (mkF m (pc + 3) Ls (v.toList ++ rest))) t → Steps p.tables e below (T.setTop (mkF m pc Ls st)) t := by
  obtain ⟨v, vm1, ⟨T', L', k', n'⟩, -, X', ⟨L, hQ, l1, y1, z1⟩, st'⟩ := X.specialBack hx (y := y) hi hown (mvT hZ w1) (mvT hZ w4) (mvT hZ w6) hy (backOf (W := W) hM hZ w6 w5 hf hl) (g := mkF m pc Ls st) rfl hsize (Steps.refl _) (a := b) (argsL := argsL) (rest := rest) hlen hst (by show 2 * 0 + _ ≤ _; omega) hd (fun _ _ => ⟨has, eT, hc, hs⟩)
  dsimp only [Pt.U, Pt.locs, Pt.cells, Pt.slots] at X' l1 y1 z1 st' hQ
  subst l1 y1 z1
  exact ⟨v, T', L, X', hQ, fun t k => st'.trans k⟩
/-! own kit, part 3: comparisons, said of the numbers -/
theorem own_ltY {x y : Int32} {k : Int} (hy : y.toInt = k) (q : x.toInt < k) : if_icmp.holds .lt x y = true := (tlt (Int32.lt_iff_toInt_lt.mpr (by omega))).1
theorem own_ltN {x y : Int32} {k : Int} (hy : y.toInt = k) (q : ¬ x.toInt < k) : if_icmp.holds .lt x y = false := (flt (fun z => q (by have := Int32.lt_iff_toInt_lt.mp z; omega))).1
theorem own_geY {x y : Int32} {k : Int} (hy : y.toInt = k) (q : k ≤ x.toInt) : if_icmp.holds .ge x y = true := (flt (fun z => by have := Int32.lt_iff_toInt_lt.mp z; omega)).2.1
theorem own_geN {x y : Int32} {k : Int} (hy : y.toInt = k) (q : ¬ k ≤ x.toInt) : if_icmp.holds .ge x y = false := (tlt (Int32.lt_iff_toInt_lt.mpr (by omega))).2.1
theorem own_gtY {x y : Int32} {k : Int} (hy : y.toInt = k) (q : k < x.toInt) : if_icmp.holds .gt x y = true := (tlt (x := y) (y := x) (Int32.lt_iff_toInt_lt.mpr (by omega))).2.2.1
theorem own_gtN {x y : Int32} {k : Int} (hy : y.toInt = k) (q : ¬ k < x.toInt) : if_icmp.holds .gt x y = false := (flt (x := y) (y := x) (fun z => q (by have := Int32.lt_iff_toInt_lt.mp z; omega))).2.2.1
theorem own_leY {x y : Int32} {k : Int} (hy : y.toInt = k) (q : x.toInt ≤ k) : if_icmp.holds .le x y = true := (flt (x := y) (y := x) (fun z => by have := Int32.lt_iff_toInt_lt.mp z; omega)).2.2.2
theorem own_leN {x y : Int32} {k : Int} (hy : y.toInt = k) (q : ¬ x.toInt ≤ k) : if_icmp.holds .le x y = false := (tlt (x := y) (y := x) (Int32.lt_iff_toInt_lt.mpr (by omega))).2.2.2
theorem own_eqY {x y : Int32} {k : Int} (hy : y.toInt = k) (q : x.toInt = k) : if_icmp.holds .eq x y = true := (teq (Int32.toInt_inj.mp (by omega))).1
theorem own_eqN {x y : Int32} {k : Int} (hy : y.toInt = k) (q : ¬ x.toInt = k) : if_icmp.holds .eq x y = false := (feq (fun z => q (by rw [z]; exact hy))).1
theorem own_neY {x y : Int32} {k : Int} (hy : y.toInt = k) (q : ¬ x.toInt = k) : if_icmp.holds .ne x y = true := (feq (fun z => q (by rw [z]; exact hy))).2
theorem own_neN {x y : Int32} {k : Int} (hy : y.toInt = k) (q : ¬ ¬ x.toInt = k) : if_icmp.holds .ne x y = false := (teq (Int32.toInt_inj.mp (by omega))).2
theorem own_0 {cd : ClassFile.Cond} {x : Int32} {b : Bool} (q : if_icmp.holds cd x 0 = b) : ifCond.holds cd x = b := (if0 cd x).trans q
theorem own_cmp (x y : Int64) : (x.toInt < y.toInt ∧ XT.cmpL x y = -1) ∨ (x.toInt = y.toInt ∧ XT.cmpL x y = 0) ∨ (y.toInt < x.toInt ∧ XT.cmpL x y = 1) := by
  unfold XT.cmpL
  by_cases h1 : y < x
  · exact Or.inr (Or.inr ⟨Int64.lt_iff_toInt_lt.mp h1, if_pos h1⟩)
  · by_cases h2 : x = y
    · exact Or.inr (Or.inl ⟨by rw [h2], by rw [if_neg h1, if_pos h2]⟩)
    · refine Or.inl ⟨?_, by rw [if_neg h1, if_neg h2]⟩
      have q1 : ¬ y.toInt < x.toInt := fun z => h1 (Int64.lt_iff_toInt_lt.mpr z)
      have q2 : ¬ x.toInt = y.toInt := fun z => h2 (Int64.toInt_inj.mp z)
      omega
theorem own_lltY {x y : Int64} {k : Int} (hy : y.toInt = k) (q : x.toInt < k) : ifCond.holds .lt (XT.cmpL x y) = true := by rcases own_cmp x y with ⟨h, e⟩ | ⟨h, e⟩ | ⟨h, e⟩ <;> first | (exfalso; omega) | (rw [e]; decide)
theorem own_lltN {x y : Int64} {k : Int} (hy : y.toInt = k) (q : ¬ x.toInt < k) : ifCond.holds .lt (XT.cmpL x y) = false := by rcases own_cmp x y with ⟨h, e⟩ | ⟨h, e⟩ | ⟨h, e⟩ <;> first | (exfalso; omega) | (rw [e]; decide)
theorem own_lgeY {x y : Int64} {k : Int} (hy : y.toInt = k) (q : k ≤ x.toInt) : ifCond.holds .ge (XT.cmpL x y) = true := by rcases own_cmp x y with ⟨h, e⟩ | ⟨h, e⟩ | ⟨h, e⟩ <;> first | (exfalso; omega) | (rw [e]; decide)
theorem own_lgeN {x y : Int64} {k : Int} (hy : y.toInt = k) (q : ¬ k ≤ x.toInt) : ifCond.holds .ge (XT.cmpL x y) = false := by rcases own_cmp x y with ⟨h, e⟩ | ⟨h, e⟩ | ⟨h, e⟩ <;> first | (exfalso; omega) | (rw [e]; decide)
theorem own_lgtY {x y : Int64} {k : Int} (hy : y.toInt = k) (q : k < x.toInt) : ifCond.holds .gt (XT.cmpL x y) = true := by rcases own_cmp x y with ⟨h, e⟩ | ⟨h, e⟩ | ⟨h, e⟩ <;> first | (exfalso; omega) | (rw [e]; decide)
theorem own_lgtN {x y : Int64} {k : Int} (hy : y.toInt = k) (q : ¬ k < x.toInt) : ifCond.holds .gt (XT.cmpL x y) = false := by rcases own_cmp x y with ⟨h, e⟩ | ⟨h, e⟩ | ⟨h, e⟩ <;> first | (exfalso; omega) | (rw [e]; decide)
theorem own_lleY {x y : Int64} {k : Int} (hy : y.toInt = k) (q : x.toInt ≤ k) : ifCond.holds .le (XT.cmpL x y) = true := by rcases own_cmp x y with ⟨h, e⟩ | ⟨h, e⟩ | ⟨h, e⟩ <;> first | (exfalso; omega) | (rw [e]; decide)
theorem own_lleN {x y : Int64} {k : Int} (hy : y.toInt = k) (q : ¬ x.toInt ≤ k) : ifCond.holds .le (XT.cmpL x y) = false := by rcases own_cmp x y with ⟨h, e⟩ | ⟨h, e⟩ | ⟨h, e⟩ <;> first | (exfalso; omega) | (rw [e]; decide)
theorem own_leqY {x y : Int64} {k : Int} (hy : y.toInt = k) (q : x.toInt = k) : ifCond.holds .eq (XT.cmpL x y) = true := by rcases own_cmp x y with ⟨h, e⟩ | ⟨h, e⟩ | ⟨h, e⟩ <;> first | (exfalso; omega) | (rw [e]; decide)
theorem own_leqN {x y : Int64} {k : Int} (hy : y.toInt = k) (q : ¬ x.toInt = k) : ifCond.holds .eq (XT.cmpL x y) = false := by rcases own_cmp x y with ⟨h, e⟩ | ⟨h, e⟩ | ⟨h, e⟩ <;> first | (exfalso; omega) | (rw [e]; decide)
theorem own_lneY {x y : Int64} {k : Int} (hy : y.toInt = k) (q : ¬ x.toInt = k) : ifCond.holds .ne (XT.cmpL x y) = true := by rcases own_cmp x y with ⟨h, e⟩ | ⟨h, e⟩ | ⟨h, e⟩ <;> first | (exfalso; omega) | (rw [e]; decide)
theorem own_lneN {x y : Int64} {k : Int} (hy : y.toInt = k) (q : ¬ ¬ x.toInt = k) : ifCond.holds .ne (XT.cmpL x y) = false := by rcases own_cmp x y with ⟨h, e⟩ | ⟨h, e⟩ | ⟨h, e⟩ <;> first | (exfalso; omega) | (rw [e]; decide)
theorem own_yes {P : Prop} [Decidable P] (q : P) : (some (Value.int (nar .boolean 1)) : Option Value) = some (.int (if P then 1 else 0)) := by rw [if_pos q]; rfl
theorem own_no {P : Prop} [Decidable P] (q : ¬ P) : (some (Value.int (nar .boolean 0)) : Option Value) = some (.int (if P then 1 else 0)) := by rw [if_neg q]; rfl
theorem own_nyes {P : Prop} [Decidable P] (q : P) : (some (Value.int (nar .boolean 0)) : Option Value) = some (.int (if P then 0 else 1)) := by rw [if_pos q]; rfl
theorem own_nno {P : Prop} [Decidable P] (q : ¬ P) : (some (Value.int (nar .boolean 1)) : Option Value) = some (.int (if P then 0 else 1)) := by rw [if_neg q]; rfl
theorem own_bneY {P : Prop} [Decidable P] (q : P) : ifCond.holds .ne (if P then (1 : Int32) else 0) = true := by rw [if_pos q]; rfl
theorem own_bneN {P : Prop} [Decidable P] (q : ¬ P) : ifCond.holds .ne (if P then (1 : Int32) else 0) = false := by rw [if_neg q]; rfl
theorem own_beqY {P : Prop} [Decidable P] (q : ¬ P) : ifCond.holds .eq (if P then (1 : Int32) else 0) = true := by rw [if_neg q]; rfl
theorem own_beqN {P : Prop} [Decidable P] (q : ¬ ¬ P) : ifCond.holds .eq (if P then (1 : Int32) else 0) = false := by rw [if_pos (Decidable.not_not.mp q)]; rfl
/-! own kit, part 4: an array of which only the kind, the length and 'its places hold values of the kind' is kept -/
def own_A (Z : State) (h : Heap) (a : Addr) (ty : FieldType) (n : Nat) : Prop := ∃ c : Cell, Arr Z h a c ty ∧ c.slots.size = n ∧ ∀ i, i < n → ∃ v, c.slots[i]? = some v ∧ fits ty v = true
theorem own_A.lt {a : Addr} {ty : FieldType} {n : Nat} (A : own_A Z h a ty n) : a < h.size := by obtain ⟨c, A, -⟩ := A; exact A.lt
theorem own_A.of {h' : Heap} {a : Addr} {ty : FieldType} {n : Int32} {k : ClassId} {j : Nat} (A : Arr Z h a (newA k ty n) ty) (q : ¬ n < 0) (hn : n.toNatClampNeg = j) : own_A Z h a ty j := by
  obtain ⟨c, A, -, S, -, H, G⟩ := Arv.new A q
  exact ⟨c, A, S.trans hn, fun i hi => ⟨_, H i (by omega), G i (by omega)⟩⟩
theorem own_A.ext {h' : Heap} {a : Addr} {ty : FieldType} {n : Nat} (A : own_A Z h a ty n) (E : Ext h h') : own_A Z h' a ty n := by obtain ⟨c, A, r⟩ := A; exact ⟨c, A.ext E, r⟩
theorem own_A.other {h' : Heap} {a b : Addr} {ty : FieldType} {n sl : Nat} {v : Value} (A : own_A Z h a ty n) (W : Wr h h' b sl v) (q : a ≠ b) : own_A Z h' a ty n := by obtain ⟨c, A, r⟩ := A; exact ⟨c, A.other W q, r⟩
theorem own_A.set {h' : Heap} {a : Addr} {ty : FieldType} {n j : Nat} {v : Value} (A : own_A Z h a ty n) (W : Wr h h' a j v) (hv : fits ty v = true) : own_A Z h' a ty n := by
  obtain ⟨c, A, S, H⟩ := A
  refine ⟨_, A.same W, by rw [sz_set]; exact S, fun i hi => ?_⟩
  by_cases hij : i = j
  · subst hij
    exact ⟨v, by simp [Cell.setSlot, S, hi], hv⟩
  · obtain ⟨w, h1, h2⟩ := H i hi
    refine ⟨w, ?_, h2⟩
    simp only [Cell.setSlot]
    rw [Array.getElem?_setIfInBounds_ne (fun z => hij z.symm)]
    exact h1
theorem own_inb {c : Cell} {n : Nat} {j : Int32} (S : c.slots.size = n) (h1 : 0 ≤ j.toInt) (h2 : j.toInt < n) : ¬ (j < 0 ∨ c.slots.size ≤ j.toNatClampNeg) := by
  have h3 : ¬ j < 0 := fun z => by have := Int32.lt_iff_toInt_lt.mp z; have e : (0 : Int32).toInt = 0 := rfl; omega
  have := nat_of h3
  rintro (z | z)
  · exact h3 z
  · omega
theorem own_stI (X : Stand p l e R s m args below meth c T locs cells slots) (hx : p.tables.exec = Jvm.exec) (hZ : Z.Warmed39 s.vm) (eT : T.heap = h) {a : Addr} {n : Nat} (A : own_A Z h a .int n) {j x : Int32} (h1 : 0 ≤ j.toInt) (h2 : j.toInt < n) {pc : Nat} {Ls : Array Slot} {rest : List Value} (hd : decode c.code pc = .ok (.iastore, 1)) :
    ∃ T' h', Stand p l e R s m args below meth c T' (locs ++ [⟨a, j.toNatClampNeg⟩]) cells slots ∧ T'.heap = h' ∧ Wr h h' a j.toNatClampNeg (.int x) ∧ own_A Z h' a .int n ∧ ∀ t, Steps p.tables e below (T'.setTop (mkF m (pc + 1) Ls rest)) t → Steps p.tables e below (T.setTop (mkF m pc Ls (.int x :: .int j :: .ref a :: rest))) t := by
  have A0 := A
  obtain ⟨cl, A1, S, H⟩ := A
  obtain ⟨T', h', X', e', W, st⟩ := stI X hx hZ eT A1 (j := j) (x := x) (own_inb S h1 h2) (g := mkF m pc Ls (.int x :: .int j :: .ref a :: rest)) rfl rfl hd
  exact ⟨T', h', X', e', W, A0.set W rfl, st⟩
theorem own_stJ (X : Stand p l e R s m args below meth c T locs cells slots) (hx : p.tables.exec = Jvm.exec) (hZ : Z.Warmed39 s.vm) (eT : T.heap = h) {a : Addr} {n : Nat} (A : own_A Z h a .long n) {j : Int32} {x : Int64} (h1 : 0 ≤ j.toInt) (h2 : j.toInt < n) {pc : Nat} {Ls : Array Slot} {rest : List Value} (hd : decode c.code pc = .ok (.lastore, 1)) :
    ∃ T' h', Stand p l e R s m args below meth c T' (locs ++ [⟨a, j.toNatClampNeg⟩]) cells slots ∧ T'.heap = h' ∧ Wr h h' a j.toNatClampNeg (.long x) ∧ own_A Z h' a .long n ∧ ∀ t, Steps p.tables e below (T'.setTop (mkF m (pc + 1) Ls rest)) t → Steps p.tables e below (T.setTop (mkF m pc Ls (.long x :: .int j :: .ref a :: rest))) t := by
  have A0 := A
  obtain ⟨cl, A1, S, H⟩ := A
  obtain ⟨T', h', X', e', W, st⟩ := stJ X hx hZ eT A1 (j := j) (x := x) (own_inb S h1 h2) (g := mkF m pc Ls (.long x :: .int j :: .ref a :: rest)) rfl rfl hd
  exact ⟨T', h', X', e', W, A0.set W rfl, st⟩
theorem own_ldI (X : Stand p l e R s m args below meth c T locs cells slots) (hx : p.tables.exec = Jvm.exec) (hZ : Z.Warmed39 s.vm) (eT : T.heap = h) {a : Addr} {n : Nat} (A : own_A Z h a .int n) {j : Int32} (h1 : 0 ≤ j.toInt) (h2 : j.toInt < n) {pc : Nat} {Ls : Array Slot} {rest : List Value} (hd : decode c.code pc = .ok (.iaload, 1)) :
    ∃ x : Int32, ∀ t, Steps p.tables e below (T.setTop (mkF m (pc + 1) Ls (.int x :: rest))) t → Steps p.tables e below (T.setTop (mkF m pc Ls (.int j :: .ref a :: rest))) t := by
  obtain ⟨cl, A1, S, H⟩ := A
  have hin := own_inb S h1 h2
  obtain ⟨v, g1, g2⟩ := H j.toNatClampNeg (by rw [← S]; exact Nat.lt_of_not_le fun q => hin (Or.inr q))
  obtain ⟨x, rfl⟩ := fit_I g2 (Or.inl rfl)
  exact ⟨x, fun t k => X.iaload hx (by rw [eT]; exact A1.1) (State.isArrayOf_alike hZ.alike A1.2.1) A1.2.2 hin g1 (g := mkF m pc Ls (.int j :: .ref a :: rest)) rfl rfl hd t k⟩
theorem own_ldJ (X : Stand p l e R s m args below meth c T locs cells slots) (hx : p.tables.exec = Jvm.exec) (hZ : Z.Warmed39 s.vm) (eT : T.heap = h) {a : Addr} {n : Nat} (A : own_A Z h a .long n) {j : Int32} (h1 : 0 ≤ j.toInt) (h2 : j.toInt < n) {pc : Nat} {Ls : Array Slot} {rest : List Value} (hd : decode c.code pc = .ok (.laload, 1)) :
    ∃ x : Int64, ∀ t, Steps p.tables e below (T.setTop (mkF m (pc + 1) Ls (.long x :: rest))) t → Steps p.tables e below (T.setTop (mkF m pc Ls (.int j :: .ref a :: rest))) t := by
  obtain ⟨cl, A1, S, H⟩ := A
  have hin := own_inb S h1 h2
  obtain ⟨v, g1, g2⟩ := H j.toNatClampNeg (by rw [← S]; exact Nat.lt_of_not_le fun q => hin (Or.inr q))
  obtain ⟨x, rfl⟩ := fit_J g2
  exact ⟨x, fun t k => X.laload hx (by rw [eT]; exact A1.1) (State.isArrayOf_alike hZ.alike A1.2.1) A1.2.2 hin g1 (g := mkF m pc Ls (.int j :: .ref a :: rest)) rfl rfl hd t k⟩
theorem own_len (X : Stand p l e R s m args below meth c T locs cells slots) (hx : p.tables.exec = Jvm.exec) (hZ : Z.Warmed39 s.vm) (eT : T.heap = h) {a : Addr} {n : Nat} {ty : FieldType} (A : own_A Z h a ty n) {pc : Nat} {Ls : Array Slot} {rest : List Value} (hd : decode c.code pc = .ok (.arraylength, 1)) :
    ∀ t, Steps p.tables e below (T.setTop (mkF m (pc + 1) Ls (.int n.toInt32 :: rest))) t → Steps p.tables e below (T.setTop (mkF m pc Ls (.ref a :: rest))) t := by
  obtain ⟨cl, A1, S, H⟩ := A
  subst S
  exact fun t k => X.arraylength hx (by rw [eT]; exact A1.1) (State.isArrayOf_alike hZ.alike A1.2.1) (g := mkF m pc Ls (.ref a :: rest)) rfl rfl hd t k
/-! own kit, part 5: an array by the function that tells what its places hold -/
def own_F (Z : State) (h : Heap) (a : Addr) (k : ClassId) (ty : FieldType) (n : Nat) (f : Nat → Value) : Prop := ∃ c : Cell, Arr Z h a c ty ∧ c.cls = k ∧ c.slots.size = n ∧ ∀ i, i < n → c.slots[i]? = some (f i)
def own_up (f : Nat → Value) (j : Nat) (v : Value) : Nat → Value := fun i => if i = j then v else f i
section F
variable {h' : Heap} {a b : Addr} {k : ClassId} {ty : FieldType} {n : Nat} {f : Nat → Value} {j x : Int32} {y : Int64} {i : Nat} {v : Value} {pc : Nat} {Ls : Array Slot} {rest : List Value}
theorem own_F.cong {g : Nat → Value} (F : own_F Z h a k ty n f) (q : ∀ i, i < n → f i = g i) : own_F Z h a k ty n g := by obtain ⟨c, A, r1, r2, r3⟩ := F; exact ⟨c, A, r1, r2, fun i hi => by rw [← q i hi]; exact r3 i hi⟩
theorem own_F.lt (F : own_F Z h a k ty n f) : a < h.size := by obtain ⟨c, A, -⟩ := F; exact A.lt
theorem own_F.ext (F : own_F Z h a k ty n f) (E : Ext h h') : own_F Z h' a k ty n f := by obtain ⟨c, A, r⟩ := F; exact ⟨c, A.ext E, r⟩
theorem own_F.other {sl : Nat} (F : own_F Z h a k ty n f) (W : Wr h h' b sl v) (q : a ≠ b) : own_F Z h' a k ty n f := by obtain ⟨c, A, r⟩ := F; exact ⟨c, A.other W q, r⟩
theorem own_F.keep {ws : List Addr} (F : own_F Z h a k ty n f) (K : Keep h h' ws) (q : a ∉ ws) : own_F Z h' a k ty n f := by obtain ⟨c, A, r⟩ := F; exact ⟨c, ⟨K.2.1 a c A.1 q, A.2⟩, r⟩
theorem own_F.new {z : Int32} (A : Arr Z h a (newA k ty z) ty) (q : ¬ z < 0) (hn : z.toNatClampNeg = n) : own_F Z h a k ty n (fun _ => defaultValue ty) := by
  refine ⟨_, A, rfl, (sz_new _ _ _).trans hn, fun i hi => ?_⟩
  simp [newA, hn, hi]
theorem own_F.set (F : own_F Z h a k ty n f) (W : Wr h h' a i v) : own_F Z h' a k ty n (own_up f i v) := by
  obtain ⟨c, A, q, S, H⟩ := F
  refine ⟨_, A.same W, q, by rw [sz_set]; exact S, fun j hj => ?_⟩
  unfold own_up
  by_cases hij : j = i
  · subst hij
    rw [if_pos rfl]; simp [Cell.setSlot, S, hj]
  · rw [if_neg hij]
    simp only [Cell.setSlot]
    rw [Array.getElem?_setIfInBounds_ne (fun z => hij z.symm)]
    exact H j hj
theorem own_nat (hj : j.toInt = i) : j.toNatClampNeg = i ∧ ¬ j < 0 := by
  have h3 : ¬ j < 0 := fun z => by have := Int32.lt_iff_toInt_lt.mp z; have e : (0 : Int32).toInt = 0 := rfl; omega
  have := nat_of h3
  exact ⟨by omega, h3⟩
theorem own_in {c : Cell} (S : c.slots.size = n) (hj : j.toInt = i) (hi : i < n) : ¬ (j < 0 ∨ c.slots.size ≤ j.toNatClampNeg) := by
  obtain ⟨e1, e2⟩ := own_nat hj
  rintro (z | z)
  · exact e2 z
  · omega
theorem own_fstI (X : Stand p l e R s m args below meth c T locs cells slots) (hx : p.tables.exec = Jvm.exec) (hZ : Z.Warmed39 s.vm) (eT : T.heap = h) (F : own_F Z h a k .int n f) (i : Nat) (hj : j.toInt = i) (hi : i < n) (hd : decode c.code pc = .ok (.iastore, 1)) :
    ∃ T' h', Stand p l e R s m args below meth c T' (locs ++ [⟨a, i⟩]) cells slots ∧ T'.heap = h' ∧ Wr h h' a i (.int x) ∧ own_F Z h' a k .int n (own_up f i (.int x)) ∧ ∀ t, Steps p.tables e below (T'.setTop (mkF m (pc + 1) Ls rest)) t → Steps p.tables e below (T.setTop (mkF m pc Ls (.int x :: .int j :: .ref a :: rest))) t := by
  have F0 := F
  obtain ⟨cl, A, q, S, H⟩ := F
  obtain ⟨T', h', X', e', W, st⟩ := stI X hx hZ eT A (j := j) (x := x) (own_in S hj hi) (g := mkF m pc Ls (.int x :: .int j :: .ref a :: rest)) rfl rfl hd
  rw [(own_nat hj).1] at X' W
  exact ⟨T', h', X', e', W, F0.set W, st⟩
theorem own_fstJ (X : Stand p l e R s m args below meth c T locs cells slots) (hx : p.tables.exec = Jvm.exec) (hZ : Z.Warmed39 s.vm) (eT : T.heap = h) (F : own_F Z h a k .long n f) (i : Nat) (hj : j.toInt = i) (hi : i < n) (hd : decode c.code pc = .ok (.lastore, 1)) :
    ∃ T' h', Stand p l e R s m args below meth c T' (locs ++ [⟨a, i⟩]) cells slots ∧ T'.heap = h' ∧ Wr h h' a i (.long y) ∧ own_F Z h' a k .long n (own_up f i (.long y)) ∧ ∀ t, Steps p.tables e below (T'.setTop (mkF m (pc + 1) Ls rest)) t → Steps p.tables e below (T.setTop (mkF m pc Ls (.long y :: .int j :: .ref a :: rest))) t := by
  have F0 := F
  obtain ⟨cl, A, q, S, H⟩ := F
  obtain ⟨T', h', X', e', W, st⟩ := stJ X hx hZ eT A (j := j) (x := y) (own_in S hj hi) (g := mkF m pc Ls (.long y :: .int j :: .ref a :: rest)) rfl rfl hd
  rw [(own_nat hj).1] at X' W
  exact ⟨T', h', X', e', W, F0.set W, st⟩
theorem own_fstC (X : Stand p l e R s m args below meth c T locs cells slots) (hx : p.tables.exec = Jvm.exec) (hZ : Z.Warmed39 s.vm) (eT : T.heap = h) (F : own_F Z h a k .char n f) (i : Nat) (hj : j.toInt = i) (hi : i < n) (hd : decode c.code pc = .ok (.castore, 1)) :
    ∃ T' h', Stand p l e R s m args below meth c T' (locs ++ [⟨a, i⟩]) cells slots ∧ T'.heap = h' ∧ Wr h h' a i (.int (nar .char x)) ∧ own_F Z h' a k .char n (own_up f i (.int (nar .char x))) ∧ ∀ t, Steps p.tables e below (T'.setTop (mkF m (pc + 1) Ls rest)) t → Steps p.tables e below (T.setTop (mkF m pc Ls (.int x :: .int j :: .ref a :: rest))) t := by
  have F0 := F
  obtain ⟨cl, A, q, S, H⟩ := F
  obtain ⟨T', h', X', e', W, st⟩ := stC X hx hZ eT A (j := j) (x := x) (own_in S hj hi) (g := mkF m pc Ls (.int x :: .int j :: .ref a :: rest)) rfl rfl hd
  rw [(own_nat hj).1] at X' W
  exact ⟨T', h', X', e', W, F0.set W, st⟩
theorem own_fstZ (X : Stand p l e R s m args below meth c T locs cells slots) (hx : p.tables.exec = Jvm.exec) (hZ : Z.Warmed39 s.vm) (eT : T.heap = h) (F : own_F Z h a k .boolean n f) (i : Nat) (hj : j.toInt = i) (hi : i < n) (hd : decode c.code pc = .ok (.bastore, 1)) :
    ∃ T' h', Stand p l e R s m args below meth c T' (locs ++ [⟨a, i⟩]) cells slots ∧ T'.heap = h' ∧ Wr h h' a i (.int (nar .boolean x)) ∧ own_F Z h' a k .boolean n (own_up f i (.int (nar .boolean x))) ∧ ∀ t, Steps p.tables e below (T'.setTop (mkF m (pc + 1) Ls rest)) t → Steps p.tables e below (T.setTop (mkF m pc Ls (.int x :: .int j :: .ref a :: rest))) t := by
  have F0 := F
  obtain ⟨cl, A, q, S, H⟩ := F
  obtain ⟨T', h', X', e', W, st⟩ := stZ X hx hZ eT A (j := j) (x := x) (own_in S hj hi) (g := mkF m pc Ls (.int x :: .int j :: .ref a :: rest)) rfl rfl hd
  rw [(own_nat hj).1] at X' W
  exact ⟨T', h', X', e', W, F0.set W, st⟩
theorem own_fstA (X : Stand p l e R s m args below meth c T locs cells slots) (hx : p.tables.exec = Jvm.exec) (hZ : Z.Warmed39 s.vm) (eT : T.heap = h) (F : own_F Z h a k ty n f) (hty : ty.isReference = true) (O : Sto Z h a v) (i : Nat) (hj : j.toInt = i) (hi : i < n) (hd : decode c.code pc = .ok (.aastore, 1)) :
    ∃ T' h', Stand p l e R s m args below meth c T' (locs ++ [⟨a, i⟩]) cells slots ∧ T'.heap = h' ∧ Wr h h' a i v ∧ own_F Z h' a k ty n (own_up f i v) ∧ ∀ t, Steps p.tables e below (T'.setTop (mkF m (pc + 1) Ls rest)) t → Steps p.tables e below (T.setTop (mkF m pc Ls (v :: .int j :: .ref a :: rest))) t := by
  have F0 := F
  obtain ⟨cl, A, q, S, H⟩ := F
  obtain ⟨T', h', X', e', W, st⟩ := stR X hx hZ eT A (j := j) (v := v) (own_in S hj hi) hty O (g := mkF m pc Ls (v :: .int j :: .ref a :: rest)) rfl rfl hd
  rw [(own_nat hj).1] at X' W
  exact ⟨T', h', X', e', W, F0.set W, st⟩
theorem own_fldI (X : Stand p l e R s m args below meth c T locs cells slots) (hx : p.tables.exec = Jvm.exec) (hZ : Z.Warmed39 s.vm) (eT : T.heap = h) (F : own_F Z h a k .int n f) (i : Nat) (hj : j.toInt = i) (hi : i < n) (hv : f i = v) (hd : decode c.code pc = .ok (.iaload, 1)) :
    ∀ t, Steps p.tables e below (T.setTop (mkF m (pc + 1) Ls (v :: rest))) t → Steps p.tables e below (T.setTop (mkF m pc Ls (.int j :: .ref a :: rest))) t := by
  obtain ⟨cl, A, q, S, H⟩ := F
  exact fun t kk => X.iaload hx (by rw [eT]; exact A.1) (State.isArrayOf_alike hZ.alike A.2.1) A.2.2 (own_in S hj hi) (by rw [(own_nat hj).1, ← hv]; exact H i hi) (g := mkF m pc Ls (.int j :: .ref a :: rest)) rfl rfl hd t kk
theorem own_fldJ (X : Stand p l e R s m args below meth c T locs cells slots) (hx : p.tables.exec = Jvm.exec) (hZ : Z.Warmed39 s.vm) (eT : T.heap = h) (F : own_F Z h a k .long n f) (i : Nat) (hj : j.toInt = i) (hi : i < n) (hv : f i = v) (hd : decode c.code pc = .ok (.laload, 1)) :
    ∀ t, Steps p.tables e below (T.setTop (mkF m (pc + 1) Ls (v :: rest))) t → Steps p.tables e below (T.setTop (mkF m pc Ls (.int j :: .ref a :: rest))) t := by
  obtain ⟨cl, A, q, S, H⟩ := F
  exact fun t kk => X.laload hx (by rw [eT]; exact A.1) (State.isArrayOf_alike hZ.alike A.2.1) A.2.2 (own_in S hj hi) (by rw [(own_nat hj).1, ← hv]; exact H i hi) (g := mkF m pc Ls (.int j :: .ref a :: rest)) rfl rfl hd t kk
theorem own_fldC (X : Stand p l e R s m args below meth c T locs cells slots) (hx : p.tables.exec = Jvm.exec) (hZ : Z.Warmed39 s.vm) (eT : T.heap = h) (F : own_F Z h a k .char n f) (i : Nat) (hj : j.toInt = i) (hi : i < n) (hv : f i = v) (hd : decode c.code pc = .ok (.caload, 1)) :
    ∀ t, Steps p.tables e below (T.setTop (mkF m (pc + 1) Ls (v :: rest))) t → Steps p.tables e below (T.setTop (mkF m pc Ls (.int j :: .ref a :: rest))) t := by
  obtain ⟨cl, A, q, S, H⟩ := F
  exact fun t kk => X.caload hx (by rw [eT]; exact A.1) (State.isArrayOf_alike hZ.alike A.2.1) A.2.2 (own_in S hj hi) (by rw [(own_nat hj).1, ← hv]; exact H i hi) (g := mkF m pc Ls (.int j :: .ref a :: rest)) rfl rfl hd t kk
theorem own_fldZ (X : Stand p l e R s m args below meth c T locs cells slots) (hx : p.tables.exec = Jvm.exec) (hZ : Z.Warmed39 s.vm) (eT : T.heap = h) (F : own_F Z h a k .boolean n f) (i : Nat) (hj : j.toInt = i) (hi : i < n) (hv : f i = v) (hd : decode c.code pc = .ok (.baload, 1)) :
    ∀ t, Steps p.tables e below (T.setTop (mkF m (pc + 1) Ls (v :: rest))) t → Steps p.tables e below (T.setTop (mkF m pc Ls (.int j :: .ref a :: rest))) t := by
  obtain ⟨cl, A, q, S, H⟩ := F
  exact fun t kk => X.baloadBooleans hx (by rw [eT]; exact A.1) (State.isArrayOf_alike hZ.alike A.2.1) A.2.2 (own_in S hj hi) (by rw [(own_nat hj).1, ← hv]; exact H i hi) (g := mkF m pc Ls (.int j :: .ref a :: rest)) rfl rfl hd t kk
theorem own_fldA (X : Stand p l e R s m args below meth c T locs cells slots) (hx : p.tables.exec = Jvm.exec) (hZ : Z.Warmed39 s.vm) (eT : T.heap = h) (F : own_F Z h a k ty n f) (hty : ty.isReference = true) (i : Nat) (hj : j.toInt = i) (hi : i < n) (hv : f i = v) (hd : decode c.code pc = .ok (.aaload, 1)) :
    ∀ t, Steps p.tables e below (T.setTop (mkF m (pc + 1) Ls (v :: rest))) t → Steps p.tables e below (T.setTop (mkF m pc Ls (.int j :: .ref a :: rest))) t := by
  obtain ⟨cl, A, q, S, H⟩ := F
  exact fun t kk => X.aaload hx (by rw [eT]; exact A.1) (State.isArrayOf_alike hZ.alike A.2.1) hty A.2.2 (own_in S hj hi) (by rw [(own_nat hj).1, ← hv]; exact H i hi) (g := mkF m pc Ls (.int j :: .ref a :: rest)) rfl rfl hd t kk
theorem own_flen (X : Stand p l e R s m args below meth c T locs cells slots) (hx : p.tables.exec = Jvm.exec) (hZ : Z.Warmed39 s.vm) (eT : T.heap = h) (F : own_F Z h a k ty n f) (hd : decode c.code pc = .ok (.arraylength, 1)) :
    ∀ t, Steps p.tables e below (T.setTop (mkF m (pc + 1) Ls (.int n.toInt32 :: rest))) t → Steps p.tables e below (T.setTop (mkF m pc Ls (.ref a :: rest))) t := by
  obtain ⟨cl, A, q, S, H⟩ := F
  subst S
  exact fun t kk => X.arraylength hx (by rw [eT]; exact A.1) (State.isArrayOf_alike hZ.alike A.2.1) (g := mkF m pc Ls (.ref a :: rest)) rfl rfl hd t kk
theorem own_F.sto {ty : FieldType} {y : Addr} {C : String} (F : own_F Z h a k (.array ty) n f) (O : OvrA Z k ty C) (E : Exa Z h y C) : Sto Z h a (.ref y) := by
  obtain ⟨c, A, q, -⟩ := F
  exact Sto.ofVA A q O (Ins.self E)
theorem own_up_eq : own_up f i v i = v := if_pos rfl
theorem own_up_ne {j : Nat} (q : j ≠ i) : own_up f i v j = f j := if_neg q
end F
end Own
theorem d1_0 : decode prog_72_method_2_code 0 = .ok (.lload_n 0, 1) := by decide +kernel
theorem d1_1 : decode prog_72_method_2_code 1 = .ok (.ldc2_w 7, 3) := by decide +kernel
theorem d1_4 : decode prog_72_method_2_code 4 = .ok (.lcmp, 1) := by decide +kernel
theorem d1_5 : decode prog_72_method_2_code 5 = .ok (.ifCond .eq 67, 3) := by decide +kernel
theorem d1_8 : decode prog_72_method_2_code 8 = .ok (.lload_n 0, 1) := by decide +kernel
theorem d1_9 : decode prog_72_method_2_code 9 = .ok (.ldc2_w 9, 3) := by decide +kernel
theorem d1_12 : decode prog_72_method_2_code 12 = .ok (.lcmp, 1) := by decide +kernel
theorem d1_13 : decode prog_72_method_2_code 13 = .ok (.ifCond .eq 59, 3) := by decide +kernel
theorem d1_16 : decode prog_72_method_2_code 16 = .ok (.lload_n 0, 1) := by decide +kernel
theorem d1_17 : decode prog_72_method_2_code 17 = .ok (.ldc2_w 11, 3) := by decide +kernel
theorem d1_20 : decode prog_72_method_2_code 20 = .ok (.lcmp, 1) := by decide +kernel
theorem d1_21 : decode prog_72_method_2_code 21 = .ok (.ifCond .eq 51, 3) := by decide +kernel
theorem d1_24 : decode prog_72_method_2_code 24 = .ok (.lload_n 0, 1) := by decide +kernel
theorem d1_25 : decode prog_72_method_2_code 25 = .ok (.ldc2_w 13, 3) := by decide +kernel
theorem d1_28 : decode prog_72_method_2_code 28 = .ok (.lcmp, 1) := by decide +kernel
theorem d1_29 : decode prog_72_method_2_code 29 = .ok (.ifCond .lt 11, 3) := by decide +kernel
theorem d1_32 : decode prog_72_method_2_code 32 = .ok (.lload_n 0, 1) := by decide +kernel
theorem d1_33 : decode prog_72_method_2_code 33 = .ok (.ldc2_w 15, 3) := by decide +kernel
theorem d1_36 : decode prog_72_method_2_code 36 = .ok (.lcmp, 1) := by decide +kernel
theorem d1_37 : decode prog_72_method_2_code 37 = .ok (.ifCond .le 35, 3) := by decide +kernel
theorem d1_40 : decode prog_72_method_2_code 40 = .ok (.lload_n 0, 1) := by decide +kernel
theorem d1_41 : decode prog_72_method_2_code 41 = .ok (.ldc2_w 17, 3) := by decide +kernel
theorem d1_44 : decode prog_72_method_2_code 44 = .ok (.lcmp, 1) := by decide +kernel
theorem d1_45 : decode prog_72_method_2_code 45 = .ok (.ifCond .lt 11, 3) := by decide +kernel
theorem d1_48 : decode prog_72_method_2_code 48 = .ok (.lload_n 0, 1) := by decide +kernel
theorem d1_49 : decode prog_72_method_2_code 49 = .ok (.ldc2_w 19, 3) := by decide +kernel
theorem d1_52 : decode prog_72_method_2_code 52 = .ok (.lcmp, 1) := by decide +kernel
theorem d1_53 : decode prog_72_method_2_code 53 = .ok (.ifCond .le 19, 3) := by decide +kernel
theorem d1_56 : decode prog_72_method_2_code 56 = .ok (.lload_n 0, 1) := by decide +kernel
theorem d1_57 : decode prog_72_method_2_code 57 = .ok (.ldc2_w 21, 3) := by decide +kernel
theorem d1_60 : decode prog_72_method_2_code 60 = .ok (.lcmp, 1) := by decide +kernel
theorem d1_61 : decode prog_72_method_2_code 61 = .ok (.ifCond .lt 15, 3) := by decide +kernel
theorem d1_64 : decode prog_72_method_2_code 64 = .ok (.lload_n 0, 1) := by decide +kernel
theorem d1_65 : decode prog_72_method_2_code 65 = .ok (.ldc2_w 23, 3) := by decide +kernel
theorem d1_68 : decode prog_72_method_2_code 68 = .ok (.lcmp, 1) := by decide +kernel
theorem d1_69 : decode prog_72_method_2_code 69 = .ok (.ifCond .gt 7, 3) := by decide +kernel
theorem d1_72 : decode prog_72_method_2_code 72 = .ok (.iconst 1, 1) := by decide +kernel
theorem d1_73 : decode prog_72_method_2_code 73 = .ok (.goto 4, 3) := by decide +kernel
theorem d1_76 : decode prog_72_method_2_code 76 = .ok (.iconst 0, 1) := by decide +kernel
theorem d1_77 : decode prog_72_method_2_code 77 = .ok (.ireturn, 1) := by decide +kernel
theorem d2_0 : decode method_2_code 0 = .ok (.lload_n 0, 1) := by decide +kernel
theorem d2_1 : decode method_2_code 1 = .ok (.lconst 0, 1) := by decide +kernel
theorem d2_2 : decode method_2_code 2 = .ok (.lcmp, 1) := by decide +kernel
theorem d2_3 : decode method_2_code 3 = .ok (.ifCond .lt 11, 3) := by decide +kernel
theorem d2_6 : decode method_2_code 6 = .ok (.lload_n 0, 1) := by decide +kernel
theorem d2_7 : decode method_2_code 7 = .ok (.ldc2_w 7, 3) := by decide +kernel
theorem d2_10 : decode method_2_code 10 = .ok (.lcmp, 1) := by decide +kernel
theorem d2_11 : decode method_2_code 11 = .ok (.ifCond .le 5, 3) := by decide +kernel
theorem d2_14 : decode method_2_code 14 = .ok (.iconst 0, 1) := by decide +kernel
theorem d2_15 : decode method_2_code 15 = .ok (.ireturn, 1) := by decide +kernel
theorem d2_16 : decode method_2_code 16 = .ok (.lload_n 0, 1) := by decide +kernel
theorem d2_17 : decode method_2_code 17 = .ok (.ldc2_w 9, 3) := by decide +kernel
theorem d2_20 : decode method_2_code 20 = .ok (.lcmp, 1) := by decide +kernel
theorem d2_21 : decode method_2_code 21 = .ok (.ifCond .lt 13, 3) := by decide +kernel
theorem d2_24 : decode method_2_code 24 = .ok (.lload_n 0, 1) := by decide +kernel
theorem d2_25 : decode method_2_code 25 = .ok (.ldc2_w 11, 3) := by decide +kernel
theorem d2_28 : decode method_2_code 28 = .ok (.lcmp, 1) := by decide +kernel
theorem d2_29 : decode method_2_code 29 = .ok (.ifCond .gt 5, 3) := by decide +kernel
theorem d2_32 : decode method_2_code 32 = .ok (.iconst 0, 1) := by decide +kernel
theorem d2_33 : decode method_2_code 33 = .ok (.ireturn, 1) := by decide +kernel
theorem d2_34 : decode method_2_code 34 = .ok (.lload_n 0, 1) := by decide +kernel
theorem d2_35 : decode method_2_code 35 = .ok (.ldc2_w 13, 3) := by decide +kernel
theorem d2_38 : decode method_2_code 38 = .ok (.lcmp, 1) := by decide +kernel
theorem d2_39 : decode method_2_code 39 = .ok (.ifCond .eq 11, 3) := by decide +kernel
theorem d2_42 : decode method_2_code 42 = .ok (.lload_n 0, 1) := by decide +kernel
theorem d2_43 : decode method_2_code 43 = .ok (.ldc2_w 15, 3) := by decide +kernel
theorem d2_46 : decode method_2_code 46 = .ok (.lcmp, 1) := by decide +kernel
theorem d2_47 : decode method_2_code 47 = .ok (.ifCond .ne 5, 3) := by decide +kernel
theorem d2_50 : decode method_2_code 50 = .ok (.iconst 0, 1) := by decide +kernel
theorem d2_51 : decode method_2_code 51 = .ok (.ireturn, 1) := by decide +kernel
theorem d2_52 : decode method_2_code 52 = .ok (.lload_n 0, 1) := by decide +kernel
theorem d2_53 : decode method_2_code 53 = .ok (.ldc2_w 17, 3) := by decide +kernel
theorem d2_56 : decode method_2_code 56 = .ok (.lcmp, 1) := by decide +kernel
theorem d2_57 : decode method_2_code 57 = .ok (.ifCond .ge 33, 3) := by decide +kernel
theorem d2_60 : decode method_2_code 60 = .ok (.lload_n 0, 1) := by decide +kernel
theorem d2_61 : decode method_2_code 61 = .ok (.ldc2_w 19, 3) := by decide +kernel
theorem d2_64 : decode method_2_code 64 = .ok (.lcmp, 1) := by decide +kernel
theorem d2_65 : decode method_2_code 65 = .ok (.ifCond .eq 19, 3) := by decide +kernel
theorem d2_68 : decode method_2_code 68 = .ok (.lload_n 0, 1) := by decide +kernel
theorem d2_69 : decode method_2_code 69 = .ok (.ldc2_w 21, 3) := by decide +kernel
theorem d2_72 : decode method_2_code 72 = .ok (.lcmp, 1) := by decide +kernel
theorem d2_73 : decode method_2_code 73 = .ok (.ifCond .eq 11, 3) := by decide +kernel
theorem d2_76 : decode method_2_code 76 = .ok (.lload_n 0, 1) := by decide +kernel
theorem d2_77 : decode method_2_code 77 = .ok (.ldc2_w 23, 3) := by decide +kernel
theorem d2_80 : decode method_2_code 80 = .ok (.lcmp, 1) := by decide +kernel
theorem d2_81 : decode method_2_code 81 = .ok (.ifCond .ne 7, 3) := by decide +kernel
theorem d2_84 : decode method_2_code 84 = .ok (.iconst 1, 1) := by decide +kernel
theorem d2_85 : decode method_2_code 85 = .ok (.goto 4, 3) := by decide +kernel
theorem d2_88 : decode method_2_code 88 = .ok (.iconst 0, 1) := by decide +kernel
theorem d2_89 : decode method_2_code 89 = .ok (.ireturn, 1) := by decide +kernel
theorem d2_90 : decode method_2_code 90 = .ok (.iconst 1, 1) := by decide +kernel
theorem d2_91 : decode method_2_code 91 = .ok (.ireturn, 1) := by decide +kernel
theorem pd_J_Z : parseMethodDescriptor "(J)Z" = some ⟨[.long], some .boolean⟩ := by decide +kernel
theorem pn_XmlCharacters : plainName "com/example/frage/frage/xdm/XmlCharacters" = true := by first | (simp [plainName, overriddenIn]; done) | decide +kernel
theorem pn_XmlCharactersIsCharacterPinLaw : plainName "com/example/frage/frage/xdm/XmlCharactersIsCharacterPinLaw" = true := by first | (simp [plainName, overriddenIn]; done) | decide +kernel
abbrev own_ch (c : Int) : Prop := c = 9 ∨ c = 10 ∨ c = 13 ∨ (32 ≤ c ∧ c ≤ 55295) ∨ (57344 ≤ c ∧ c ≤ 65533) ∨ (65536 ≤ c ∧ c ≤ 1114111)
set_option maxRecDepth 65536 in
set_option maxHeartbeats 40000000 in
theorem rm1 (l : Launch) (Z : State) (a0 : Array Value) (hw : ∀ d ∈ tables_1, d.before a0 Z = true) (ws : List Jvm.Cond) (p1 : Int64) (h0 : Heap) (n0 : Nat) (Z0 : n0 ≤ h0.size)  :
    own_Met l (⟨"com/example/frage/frage/xdm/XmlCharacters", "isCharacter", "(J)Z"⟩ : MethodName) prog_72_method_2_code 2 (some .boolean) ws ({ frames := 0, cells := 0, slots := 0, locals := 0 } : Room) #[(.long p1)] Z h0 (fun v h L => v = some (.int (if own_ch p1.toInt then 1 else 0)) ∧ Fr n0 L ∧ h = h0) := by
  refine own_body (plainFor_of_name pn_XmlCharacters) ?_
  intro p e s m below meth c s0 X0 hx hby hml hret hlk hown hnm hZ e0
  replace hown : s.vm.findClass "com/example/frage/frage/xdm/XmlCharacters" = some m.cls := hown
  have N0 := Fr.nil n0
  have ef : entryFrame m #[(.long p1)] 2 = (mkF m 0 #[.val (.long p1), .second] []) := by first | (simp [entryFrame, mkF, argsToLocals, Value.category, maxLocals]; done) | rfl
  rw [ef]
  show own_End p e below s _ _ _ (s0.setTop (mkF m 0 #[.val (.long p1), .second] []))
  refine own_join (fun G => ¬ (p1.toInt = 9 ∨ p1.toInt = 10 ∨ p1.toInt = 13 ∨ (32 ≤ p1.toInt ∧ p1.toInt ≤ 55295) ∨ (57344 ≤ p1.toInt ∧ p1.toInt ≤ 65533)) → G (s0.setTop (mkF m 56 #[.val (.long p1), .second] []))) ?_ ?_
  ·
    intro j_56
    show own_End p e below s _ _ _ (s0.setTop (mkF m 56 #[.val (.long p1), .second] []))
    refine own_go (fun t k => XT.lloadN X0.here hx rfl (hb hby d1_56) rfl k) ?_
    show own_End p e below s _ _ _ (s0.setTop (mkF m 57 #[.val (.long p1), .second] [(.long p1)]))
    refine own_go (X0.ldc2Long (own := "com/example/frage/frage/xdm/XmlCharacters") (index := 21) (v := 65536) hx hown (mvT hZ (hw _ (List.mem_of_getElem? (i := 26) rfl))) (g := (mkF m 57 #[.val (.long p1), .second] [(.long p1)])) rfl (hb hby d1_57)) ?_
    show own_End p e below s _ _ _ (s0.setTop (mkF m 60 #[.val (.long p1), .second] [(.long (65536 : Int64)), (.long p1)]))
    refine own_go (fun t k => XT.lcmp X0.here hx rfl (hb hby d1_60) rfl k) ?_
    show own_End p e below s _ _ _ (s0.setTop (mkF m 61 #[.val (.long p1), .second] [(.int (XT.cmpL p1 (65536 : Int64)))]))
    by_cases q_61 : p1.toInt < 65536
    ·
      refine own_go (fun t k => XS.ifYes X0.here hx rfl (pc0 := 61) (pc' := 76) rfl (hb hby d1_61) rfl (own_lltY (k := 65536) (by decide) q_61) (by decide) (by decide) k) ?_
      show own_End p e below s _ _ _ (s0.setTop (mkF m 76 #[.val (.long p1), .second] []))
      refine own_go (fun t k => XS.iconst X0.here hx rfl (hb hby d1_76) k) ?_
      show own_End p e below s _ _ _ (s0.setTop (mkF m 77 #[.val (.long p1), .second] [(.int (0 : Int32))]))
      exact own_retN X0 hx (t := .boolean) hret hlk (by simp) (hb hby d1_77) ⟨own_no (by omega), N0, e0⟩ (by decide) (by decide)
    refine own_go (fun t k => XS.ifNo X0.here hx rfl (hb hby d1_61) rfl (own_lltN (k := 65536) (by decide) q_61) k) ?_
    show own_End p e below s _ _ _ (s0.setTop (mkF m 64 #[.val (.long p1), .second] []))
    refine own_go (fun t k => XT.lloadN X0.here hx rfl (hb hby d1_64) rfl k) ?_
    show own_End p e below s _ _ _ (s0.setTop (mkF m 65 #[.val (.long p1), .second] [(.long p1)]))
    refine own_go (X0.ldc2Long (own := "com/example/frage/frage/xdm/XmlCharacters") (index := 23) (v := 1114111) hx hown (mvT hZ (hw _ (List.mem_of_getElem? (i := 35) rfl))) (g := (mkF m 65 #[.val (.long p1), .second] [(.long p1)])) rfl (hb hby d1_65)) ?_
    show own_End p e below s _ _ _ (s0.setTop (mkF m 68 #[.val (.long p1), .second] [(.long (1114111 : Int64)), (.long p1)]))
    refine own_go (fun t k => XT.lcmp X0.here hx rfl (hb hby d1_68) rfl k) ?_
    show own_End p e below s _ _ _ (s0.setTop (mkF m 69 #[.val (.long p1), .second] [(.int (XT.cmpL p1 (1114111 : Int64)))]))
    by_cases q_69 : 1114111 < p1.toInt
    ·
      refine own_go (fun t k => XS.ifYes X0.here hx rfl (pc0 := 69) (pc' := 76) rfl (hb hby d1_69) rfl (own_lgtY (k := 1114111) (by decide) q_69) (by decide) (by decide) k) ?_
      show own_End p e below s _ _ _ (s0.setTop (mkF m 76 #[.val (.long p1), .second] []))
      refine own_go (fun t k => XS.iconst X0.here hx rfl (hb hby d1_76) k) ?_
      show own_End p e below s _ _ _ (s0.setTop (mkF m 77 #[.val (.long p1), .second] [(.int (0 : Int32))]))
      exact own_retN X0 hx (t := .boolean) hret hlk (by simp) (hb hby d1_77) ⟨own_no (by omega), N0, e0⟩ (by decide) (by decide)
    refine own_go (fun t k => XS.ifNo X0.here hx rfl (hb hby d1_69) rfl (own_lgtN (k := 1114111) (by decide) q_69) k) ?_
    show own_End p e below s _ _ _ (s0.setTop (mkF m 72 #[.val (.long p1), .second] []))
    refine own_go (fun t k => XS.iconst X0.here hx rfl (hb hby d1_72) k) ?_
    show own_End p e below s _ _ _ (s0.setTop (mkF m 73 #[.val (.long p1), .second] [(.int (1 : Int32))]))
    refine own_go (fun t k => XS.goto X0.here hx rfl (pc0 := 73) (pc' := 77) rfl (hb hby d1_73) (by decide) (by decide) k) ?_
    show own_End p e below s _ _ _ (s0.setTop (mkF m 77 #[.val (.long p1), .second] [(.int (1 : Int32))]))
    exact own_retN X0 hx (t := .boolean) hret hlk (by simp) (hb hby d1_77) ⟨own_yes (by omega), N0, e0⟩ (by decide) (by decide)
  intro J_56
  show own_End p e below s _ _ _ (s0.setTop (mkF m 0 #[.val (.long p1), .second] []))
  refine own_join (fun G => ¬ (p1.toInt = 9 ∨ p1.toInt = 10 ∨ p1.toInt = 13 ∨ (32 ≤ p1.toInt ∧ p1.toInt ≤ 55295)) → G (s0.setTop (mkF m 40 #[.val (.long p1), .second] []))) ?_ ?_
  ·
    intro j_40
    show own_End p e below s _ _ _ (s0.setTop (mkF m 40 #[.val (.long p1), .second] []))
    refine own_go (fun t k => XT.lloadN X0.here hx rfl (hb hby d1_40) rfl k) ?_
    show own_End p e below s _ _ _ (s0.setTop (mkF m 41 #[.val (.long p1), .second] [(.long p1)]))
    refine own_go (X0.ldc2Long (own := "com/example/frage/frage/xdm/XmlCharacters") (index := 17) (v := 57344) hx hown (mvT hZ (hw _ (List.mem_of_getElem? (i := 25) rfl))) (g := (mkF m 41 #[.val (.long p1), .second] [(.long p1)])) rfl (hb hby d1_41)) ?_
    show own_End p e below s _ _ _ (s0.setTop (mkF m 44 #[.val (.long p1), .second] [(.long (57344 : Int64)), (.long p1)]))
    refine own_go (fun t k => XT.lcmp X0.here hx rfl (hb hby d1_44) rfl k) ?_
    show own_End p e below s _ _ _ (s0.setTop (mkF m 45 #[.val (.long p1), .second] [(.int (XT.cmpL p1 (57344 : Int64)))]))
    by_cases q_45 : p1.toInt < 57344
    ·
      refine own_go (fun t k => XS.ifYes X0.here hx rfl (pc0 := 45) (pc' := 56) rfl (hb hby d1_45) rfl (own_lltY (k := 57344) (by decide) q_45) (by decide) (by decide) k) ?_
      show own_End p e below s _ _ _ (s0.setTop (mkF m 56 #[.val (.long p1), .second] []))
      exact J_56 (by omega)
    refine own_go (fun t k => XS.ifNo X0.here hx rfl (hb hby d1_45) rfl (own_lltN (k := 57344) (by decide) q_45) k) ?_
    show own_End p e below s _ _ _ (s0.setTop (mkF m 48 #[.val (.long p1), .second] []))
    refine own_go (fun t k => XT.lloadN X0.here hx rfl (hb hby d1_48) rfl k) ?_
    show own_End p e below s _ _ _ (s0.setTop (mkF m 49 #[.val (.long p1), .second] [(.long p1)]))
    refine own_go (X0.ldc2Long (own := "com/example/frage/frage/xdm/XmlCharacters") (index := 19) (v := 65533) hx hown (mvT hZ (hw _ (List.mem_of_getElem? (i := 34) rfl))) (g := (mkF m 49 #[.val (.long p1), .second] [(.long p1)])) rfl (hb hby d1_49)) ?_
    show own_End p e below s _ _ _ (s0.setTop (mkF m 52 #[.val (.long p1), .second] [(.long (65533 : Int64)), (.long p1)]))
    refine own_go (fun t k => XT.lcmp X0.here hx rfl (hb hby d1_52) rfl k) ?_
    show own_End p e below s _ _ _ (s0.setTop (mkF m 53 #[.val (.long p1), .second] [(.int (XT.cmpL p1 (65533 : Int64)))]))
    by_cases q_53 : p1.toInt ≤ 65533
    ·
      refine own_go (fun t k => XS.ifYes X0.here hx rfl (pc0 := 53) (pc' := 72) rfl (hb hby d1_53) rfl (own_lleY (k := 65533) (by decide) q_53) (by decide) (by decide) k) ?_
      show own_End p e below s _ _ _ (s0.setTop (mkF m 72 #[.val (.long p1), .second] []))
      refine own_go (fun t k => XS.iconst X0.here hx rfl (hb hby d1_72) k) ?_
      show own_End p e below s _ _ _ (s0.setTop (mkF m 73 #[.val (.long p1), .second] [(.int (1 : Int32))]))
      refine own_go (fun t k => XS.goto X0.here hx rfl (pc0 := 73) (pc' := 77) rfl (hb hby d1_73) (by decide) (by decide) k) ?_
      show own_End p e below s _ _ _ (s0.setTop (mkF m 77 #[.val (.long p1), .second] [(.int (1 : Int32))]))
      exact own_retN X0 hx (t := .boolean) hret hlk (by simp) (hb hby d1_77) ⟨own_yes (by omega), N0, e0⟩ (by decide) (by decide)
    refine own_go (fun t k => XS.ifNo X0.here hx rfl (hb hby d1_53) rfl (own_lleN (k := 65533) (by decide) q_53) k) ?_
    show own_End p e below s _ _ _ (s0.setTop (mkF m 56 #[.val (.long p1), .second] []))
    exact J_56 (by omega)
  intro J_40
  show own_End p e below s _ _ _ (s0.setTop (mkF m 0 #[.val (.long p1), .second] []))
  refine own_go (fun t k => XT.lloadN X0.here hx rfl (hb hby d1_0) rfl k) ?_
  show own_End p e below s _ _ _ (s0.setTop (mkF m 1 #[.val (.long p1), .second] [(.long p1)]))
  refine own_go (X0.ldc2Long (own := "com/example/frage/frage/xdm/XmlCharacters") (index := 7) (v := 9) hx hown (mvT hZ (hw _ (List.mem_of_getElem? (i := 21) rfl))) (g := (mkF m 1 #[.val (.long p1), .second] [(.long p1)])) rfl (hb hby d1_1)) ?_
  show own_End p e below s _ _ _ (s0.setTop (mkF m 4 #[.val (.long p1), .second] [(.long (9 : Int64)), (.long p1)]))
  refine own_go (fun t k => XT.lcmp X0.here hx rfl (hb hby d1_4) rfl k) ?_
  show own_End p e below s _ _ _ (s0.setTop (mkF m 5 #[.val (.long p1), .second] [(.int (XT.cmpL p1 (9 : Int64)))]))
  by_cases q_5 : p1.toInt = 9
  ·
    refine own_go (fun t k => XS.ifYes X0.here hx rfl (pc0 := 5) (pc' := 72) rfl (hb hby d1_5) rfl (own_leqY (k := 9) (by decide) q_5) (by decide) (by decide) k) ?_
    show own_End p e below s _ _ _ (s0.setTop (mkF m 72 #[.val (.long p1), .second] []))
    refine own_go (fun t k => XS.iconst X0.here hx rfl (hb hby d1_72) k) ?_
    show own_End p e below s _ _ _ (s0.setTop (mkF m 73 #[.val (.long p1), .second] [(.int (1 : Int32))]))
    refine own_go (fun t k => XS.goto X0.here hx rfl (pc0 := 73) (pc' := 77) rfl (hb hby d1_73) (by decide) (by decide) k) ?_
    show own_End p e below s _ _ _ (s0.setTop (mkF m 77 #[.val (.long p1), .second] [(.int (1 : Int32))]))
    exact own_retN X0 hx (t := .boolean) hret hlk (by simp) (hb hby d1_77) ⟨own_yes (by omega), N0, e0⟩ (by decide) (by decide)
  refine own_go (fun t k => XS.ifNo X0.here hx rfl (hb hby d1_5) rfl (own_leqN (k := 9) (by decide) q_5) k) ?_
  show own_End p e below s _ _ _ (s0.setTop (mkF m 8 #[.val (.long p1), .second] []))
  refine own_go (fun t k => XT.lloadN X0.here hx rfl (hb hby d1_8) rfl k) ?_
  show own_End p e below s _ _ _ (s0.setTop (mkF m 9 #[.val (.long p1), .second] [(.long p1)]))
  refine own_go (X0.ldc2Long (own := "com/example/frage/frage/xdm/XmlCharacters") (index := 9) (v := 10) hx hown (mvT hZ (hw _ (List.mem_of_getElem? (i := 22) rfl))) (g := (mkF m 9 #[.val (.long p1), .second] [(.long p1)])) rfl (hb hby d1_9)) ?_
  show own_End p e below s _ _ _ (s0.setTop (mkF m 12 #[.val (.long p1), .second] [(.long (10 : Int64)), (.long p1)]))
  refine own_go (fun t k => XT.lcmp X0.here hx rfl (hb hby d1_12) rfl k) ?_
  show own_End p e below s _ _ _ (s0.setTop (mkF m 13 #[.val (.long p1), .second] [(.int (XT.cmpL p1 (10 : Int64)))]))
  by_cases q_13 : p1.toInt = 10
  ·
    refine own_go (fun t k => XS.ifYes X0.here hx rfl (pc0 := 13) (pc' := 72) rfl (hb hby d1_13) rfl (own_leqY (k := 10) (by decide) q_13) (by decide) (by decide) k) ?_
    show own_End p e below s _ _ _ (s0.setTop (mkF m 72 #[.val (.long p1), .second] []))
    refine own_go (fun t k => XS.iconst X0.here hx rfl (hb hby d1_72) k) ?_
    show own_End p e below s _ _ _ (s0.setTop (mkF m 73 #[.val (.long p1), .second] [(.int (1 : Int32))]))
    refine own_go (fun t k => XS.goto X0.here hx rfl (pc0 := 73) (pc' := 77) rfl (hb hby d1_73) (by decide) (by decide) k) ?_
    show own_End p e below s _ _ _ (s0.setTop (mkF m 77 #[.val (.long p1), .second] [(.int (1 : Int32))]))
    exact own_retN X0 hx (t := .boolean) hret hlk (by simp) (hb hby d1_77) ⟨own_yes (by omega), N0, e0⟩ (by decide) (by decide)
  refine own_go (fun t k => XS.ifNo X0.here hx rfl (hb hby d1_13) rfl (own_leqN (k := 10) (by decide) q_13) k) ?_
  show own_End p e below s _ _ _ (s0.setTop (mkF m 16 #[.val (.long p1), .second] []))
  refine own_go (fun t k => XT.lloadN X0.here hx rfl (hb hby d1_16) rfl k) ?_
  show own_End p e below s _ _ _ (s0.setTop (mkF m 17 #[.val (.long p1), .second] [(.long p1)]))
  refine own_go (X0.ldc2Long (own := "com/example/frage/frage/xdm/XmlCharacters") (index := 11) (v := 13) hx hown (mvT hZ (hw _ (List.mem_of_getElem? (i := 23) rfl))) (g := (mkF m 17 #[.val (.long p1), .second] [(.long p1)])) rfl (hb hby d1_17)) ?_
  show own_End p e below s _ _ _ (s0.setTop (mkF m 20 #[.val (.long p1), .second] [(.long (13 : Int64)), (.long p1)]))
  refine own_go (fun t k => XT.lcmp X0.here hx rfl (hb hby d1_20) rfl k) ?_
  show own_End p e below s _ _ _ (s0.setTop (mkF m 21 #[.val (.long p1), .second] [(.int (XT.cmpL p1 (13 : Int64)))]))
  by_cases q_21 : p1.toInt = 13
  ·
    refine own_go (fun t k => XS.ifYes X0.here hx rfl (pc0 := 21) (pc' := 72) rfl (hb hby d1_21) rfl (own_leqY (k := 13) (by decide) q_21) (by decide) (by decide) k) ?_
    show own_End p e below s _ _ _ (s0.setTop (mkF m 72 #[.val (.long p1), .second] []))
    refine own_go (fun t k => XS.iconst X0.here hx rfl (hb hby d1_72) k) ?_
    show own_End p e below s _ _ _ (s0.setTop (mkF m 73 #[.val (.long p1), .second] [(.int (1 : Int32))]))
    refine own_go (fun t k => XS.goto X0.here hx rfl (pc0 := 73) (pc' := 77) rfl (hb hby d1_73) (by decide) (by decide) k) ?_
    show own_End p e below s _ _ _ (s0.setTop (mkF m 77 #[.val (.long p1), .second] [(.int (1 : Int32))]))
    exact own_retN X0 hx (t := .boolean) hret hlk (by simp) (hb hby d1_77) ⟨own_yes (by omega), N0, e0⟩ (by decide) (by decide)
  refine own_go (fun t k => XS.ifNo X0.here hx rfl (hb hby d1_21) rfl (own_leqN (k := 13) (by decide) q_21) k) ?_
  show own_End p e below s _ _ _ (s0.setTop (mkF m 24 #[.val (.long p1), .second] []))
  refine own_go (fun t k => XT.lloadN X0.here hx rfl (hb hby d1_24) rfl k) ?_
  show own_End p e below s _ _ _ (s0.setTop (mkF m 25 #[.val (.long p1), .second] [(.long p1)]))
  refine own_go (X0.ldc2Long (own := "com/example/frage/frage/xdm/XmlCharacters") (index := 13) (v := 32) hx hown (mvT hZ (hw _ (List.mem_of_getElem? (i := 24) rfl))) (g := (mkF m 25 #[.val (.long p1), .second] [(.long p1)])) rfl (hb hby d1_25)) ?_
  show own_End p e below s _ _ _ (s0.setTop (mkF m 28 #[.val (.long p1), .second] [(.long (32 : Int64)), (.long p1)]))
  refine own_go (fun t k => XT.lcmp X0.here hx rfl (hb hby d1_28) rfl k) ?_
  show own_End p e below s _ _ _ (s0.setTop (mkF m 29 #[.val (.long p1), .second] [(.int (XT.cmpL p1 (32 : Int64)))]))
  by_cases q_29 : p1.toInt < 32
  ·
    refine own_go (fun t k => XS.ifYes X0.here hx rfl (pc0 := 29) (pc' := 40) rfl (hb hby d1_29) rfl (own_lltY (k := 32) (by decide) q_29) (by decide) (by decide) k) ?_
    show own_End p e below s _ _ _ (s0.setTop (mkF m 40 #[.val (.long p1), .second] []))
    exact J_40 (by omega)
  refine own_go (fun t k => XS.ifNo X0.here hx rfl (hb hby d1_29) rfl (own_lltN (k := 32) (by decide) q_29) k) ?_
  show own_End p e below s _ _ _ (s0.setTop (mkF m 32 #[.val (.long p1), .second] []))
  refine own_go (fun t k => XT.lloadN X0.here hx rfl (hb hby d1_32) rfl k) ?_
  show own_End p e below s _ _ _ (s0.setTop (mkF m 33 #[.val (.long p1), .second] [(.long p1)]))
  refine own_go (X0.ldc2Long (own := "com/example/frage/frage/xdm/XmlCharacters") (index := 15) (v := 55295) hx hown (mvT hZ (hw _ (List.mem_of_getElem? (i := 33) rfl))) (g := (mkF m 33 #[.val (.long p1), .second] [(.long p1)])) rfl (hb hby d1_33)) ?_
  show own_End p e below s _ _ _ (s0.setTop (mkF m 36 #[.val (.long p1), .second] [(.long (55295 : Int64)), (.long p1)]))
  refine own_go (fun t k => XT.lcmp X0.here hx rfl (hb hby d1_36) rfl k) ?_
  show own_End p e below s _ _ _ (s0.setTop (mkF m 37 #[.val (.long p1), .second] [(.int (XT.cmpL p1 (55295 : Int64)))]))
  by_cases q_37 : p1.toInt ≤ 55295
  ·
    refine own_go (fun t k => XS.ifYes X0.here hx rfl (pc0 := 37) (pc' := 72) rfl (hb hby d1_37) rfl (own_lleY (k := 55295) (by decide) q_37) (by decide) (by decide) k) ?_
    show own_End p e below s _ _ _ (s0.setTop (mkF m 72 #[.val (.long p1), .second] []))
    refine own_go (fun t k => XS.iconst X0.here hx rfl (hb hby d1_72) k) ?_
    show own_End p e below s _ _ _ (s0.setTop (mkF m 73 #[.val (.long p1), .second] [(.int (1 : Int32))]))
    refine own_go (fun t k => XS.goto X0.here hx rfl (pc0 := 73) (pc' := 77) rfl (hb hby d1_73) (by decide) (by decide) k) ?_
    show own_End p e below s _ _ _ (s0.setTop (mkF m 77 #[.val (.long p1), .second] [(.int (1 : Int32))]))
    exact own_retN X0 hx (t := .boolean) hret hlk (by simp) (hb hby d1_77) ⟨own_yes (by omega), N0, e0⟩ (by decide) (by decide)
  refine own_go (fun t k => XS.ifNo X0.here hx rfl (hb hby d1_37) rfl (own_lleN (k := 55295) (by decide) q_37) k) ?_
  show own_End p e below s _ _ _ (s0.setTop (mkF m 40 #[.val (.long p1), .second] []))
  exact J_40 (by omega)
set_option maxRecDepth 65536 in
set_option maxHeartbeats 40000000 in
theorem rm2 (l : Launch) (Z : State) (a0 : Array Value) (hw : ∀ d ∈ tables_1, d.before a0 Z = true) (ws : List Jvm.Cond) (p1 : Int64) (h0 : Heap) (n0 : Nat) (Z0 : n0 ≤ h0.size)  :
    own_Met l (⟨"com/example/frage/frage/xdm/XmlCharactersIsCharacterPinLaw", "ref", "(J)Z"⟩ : MethodName) method_2_code 2 (some .boolean) ws ({ frames := 0, cells := 0, slots := 0, locals := 0 } : Room) #[(.long p1)] Z h0 (fun v h L => v = some (.int (if own_ch p1.toInt then 1 else 0)) ∧ Fr n0 L ∧ h = h0) := by
  refine own_body (plainFor_of_name pn_XmlCharactersIsCharacterPinLaw) ?_
  intro p e s m below meth c s0 X0 hx hby hml hret hlk hown hnm hZ e0
  replace hown : s.vm.findClass "com/example/frage/frage/xdm/XmlCharactersIsCharacterPinLaw" = some m.cls := hown
  have N0 := Fr.nil n0
  have ef : entryFrame m #[(.long p1)] 2 = (mkF m 0 #[.val (.long p1), .second] []) := by first | (simp [entryFrame, mkF, argsToLocals, Value.category, maxLocals]; done) | rfl
  rw [ef]
  show own_End p e below s _ _ _ (s0.setTop (mkF m 0 #[.val (.long p1), .second] []))
  refine own_join (fun G => (0 ≤ p1.toInt ∧ p1.toInt ≤ 1114111 ∧ ¬ (55296 ≤ p1.toInt ∧ p1.toInt ≤ 57343)) → G (s0.setTop (mkF m 34 #[.val (.long p1), .second] []))) ?_ ?_
  ·
    intro j_34
    show own_End p e below s _ _ _ (s0.setTop (mkF m 34 #[.val (.long p1), .second] []))
    refine own_go (fun t k => XT.lloadN X0.here hx rfl (hb hby d2_34) rfl k) ?_
    show own_End p e below s _ _ _ (s0.setTop (mkF m 35 #[.val (.long p1), .second] [(.long p1)]))
    refine own_go (X0.ldc2Long (own := "com/example/frage/frage/xdm/XmlCharactersIsCharacterPinLaw") (index := 13) (v := 65534) hx hown (mvT hZ (hw _ (List.mem_of_getElem? (i := 31) rfl))) (g := (mkF m 35 #[.val (.long p1), .second] [(.long p1)])) rfl (hb hby d2_35)) ?_
    show own_End p e below s _ _ _ (s0.setTop (mkF m 38 #[.val (.long p1), .second] [(.long (65534 : Int64)), (.long p1)]))
    refine own_go (fun t k => XT.lcmp X0.here hx rfl (hb hby d2_38) rfl k) ?_
    show own_End p e below s _ _ _ (s0.setTop (mkF m 39 #[.val (.long p1), .second] [(.int (XT.cmpL p1 (65534 : Int64)))]))
    by_cases q_39 : p1.toInt = 65534
    ·
      refine own_go (fun t k => XS.ifYes X0.here hx rfl (pc0 := 39) (pc' := 50) rfl (hb hby d2_39) rfl (own_leqY (k := 65534) (by decide) q_39) (by decide) (by decide) k) ?_
      show own_End p e below s _ _ _ (s0.setTop (mkF m 50 #[.val (.long p1), .second] []))
      refine own_go (fun t k => XS.iconst X0.here hx rfl (hb hby d2_50) k) ?_
      show own_End p e below s _ _ _ (s0.setTop (mkF m 51 #[.val (.long p1), .second] [(.int (0 : Int32))]))
      exact own_retN X0 hx (t := .boolean) hret hlk (by simp) (hb hby d2_51) ⟨own_no (by omega), N0, e0⟩ (by decide) (by decide)
    refine own_go (fun t k => XS.ifNo X0.here hx rfl (hb hby d2_39) rfl (own_leqN (k := 65534) (by decide) q_39) k) ?_
    show own_End p e below s _ _ _ (s0.setTop (mkF m 42 #[.val (.long p1), .second] []))
    refine own_go (fun t k => XT.lloadN X0.here hx rfl (hb hby d2_42) rfl k) ?_
    show own_End p e below s _ _ _ (s0.setTop (mkF m 43 #[.val (.long p1), .second] [(.long p1)]))
    refine own_go (X0.ldc2Long (own := "com/example/frage/frage/xdm/XmlCharactersIsCharacterPinLaw") (index := 15) (v := 65535) hx hown (mvT hZ (hw _ (List.mem_of_getElem? (i := 10) rfl))) (g := (mkF m 43 #[.val (.long p1), .second] [(.long p1)])) rfl (hb hby d2_43)) ?_
    show own_End p e below s _ _ _ (s0.setTop (mkF m 46 #[.val (.long p1), .second] [(.long (65535 : Int64)), (.long p1)]))
    refine own_go (fun t k => XT.lcmp X0.here hx rfl (hb hby d2_46) rfl k) ?_
    show own_End p e below s _ _ _ (s0.setTop (mkF m 47 #[.val (.long p1), .second] [(.int (XT.cmpL p1 (65535 : Int64)))]))
    by_cases q_47 : ¬ p1.toInt = 65535
    ·
      refine own_go (fun t k => XS.ifYes X0.here hx rfl (pc0 := 47) (pc' := 52) rfl (hb hby d2_47) rfl (own_lneY (k := 65535) (by decide) q_47) (by decide) (by decide) k) ?_
      show own_End p e below s _ _ _ (s0.setTop (mkF m 52 #[.val (.long p1), .second] []))
      refine own_go (fun t k => XT.lloadN X0.here hx rfl (hb hby d2_52) rfl k) ?_
      show own_End p e below s _ _ _ (s0.setTop (mkF m 53 #[.val (.long p1), .second] [(.long p1)]))
      refine own_go (X0.ldc2Long (own := "com/example/frage/frage/xdm/XmlCharactersIsCharacterPinLaw") (index := 17) (v := 32) hx hown (mvT hZ (hw _ (List.mem_of_getElem? (i := 3) rfl))) (g := (mkF m 53 #[.val (.long p1), .second] [(.long p1)])) rfl (hb hby d2_53)) ?_
      show own_End p e below s _ _ _ (s0.setTop (mkF m 56 #[.val (.long p1), .second] [(.long (32 : Int64)), (.long p1)]))
      refine own_go (fun t k => XT.lcmp X0.here hx rfl (hb hby d2_56) rfl k) ?_
      show own_End p e below s _ _ _ (s0.setTop (mkF m 57 #[.val (.long p1), .second] [(.int (XT.cmpL p1 (32 : Int64)))]))
      by_cases q_57 : 32 ≤ p1.toInt
      ·
        refine own_go (fun t k => XS.ifYes X0.here hx rfl (pc0 := 57) (pc' := 90) rfl (hb hby d2_57) rfl (own_lgeY (k := 32) (by decide) q_57) (by decide) (by decide) k) ?_
        show own_End p e below s _ _ _ (s0.setTop (mkF m 90 #[.val (.long p1), .second] []))
        refine own_go (fun t k => XS.iconst X0.here hx rfl (hb hby d2_90) k) ?_
        show own_End p e below s _ _ _ (s0.setTop (mkF m 91 #[.val (.long p1), .second] [(.int (1 : Int32))]))
        exact own_retN X0 hx (t := .boolean) hret hlk (by simp) (hb hby d2_91) ⟨own_yes (by omega), N0, e0⟩ (by decide) (by decide)
      refine own_go (fun t k => XS.ifNo X0.here hx rfl (hb hby d2_57) rfl (own_lgeN (k := 32) (by decide) q_57) k) ?_
      show own_End p e below s _ _ _ (s0.setTop (mkF m 60 #[.val (.long p1), .second] []))
      refine own_go (fun t k => XT.lloadN X0.here hx rfl (hb hby d2_60) rfl k) ?_
      show own_End p e below s _ _ _ (s0.setTop (mkF m 61 #[.val (.long p1), .second] [(.long p1)]))
      refine own_go (X0.ldc2Long (own := "com/example/frage/frage/xdm/XmlCharactersIsCharacterPinLaw") (index := 19) (v := 9) hx hown (mvT hZ (hw _ (List.mem_of_getElem? (i := 1) rfl))) (g := (mkF m 61 #[.val (.long p1), .second] [(.long p1)])) rfl (hb hby d2_61)) ?_
      show own_End p e below s _ _ _ (s0.setTop (mkF m 64 #[.val (.long p1), .second] [(.long (9 : Int64)), (.long p1)]))
      refine own_go (fun t k => XT.lcmp X0.here hx rfl (hb hby d2_64) rfl k) ?_
      show own_End p e below s _ _ _ (s0.setTop (mkF m 65 #[.val (.long p1), .second] [(.int (XT.cmpL p1 (9 : Int64)))]))
      by_cases q_65 : p1.toInt = 9
      ·
        refine own_go (fun t k => XS.ifYes X0.here hx rfl (pc0 := 65) (pc' := 84) rfl (hb hby d2_65) rfl (own_leqY (k := 9) (by decide) q_65) (by decide) (by decide) k) ?_
        show own_End p e below s _ _ _ (s0.setTop (mkF m 84 #[.val (.long p1), .second] []))
        refine own_go (fun t k => XS.iconst X0.here hx rfl (hb hby d2_84) k) ?_
        show own_End p e below s _ _ _ (s0.setTop (mkF m 85 #[.val (.long p1), .second] [(.int (1 : Int32))]))
        refine own_go (fun t k => XS.goto X0.here hx rfl (pc0 := 85) (pc' := 89) rfl (hb hby d2_85) (by decide) (by decide) k) ?_
        show own_End p e below s _ _ _ (s0.setTop (mkF m 89 #[.val (.long p1), .second] [(.int (1 : Int32))]))
        exact own_retN X0 hx (t := .boolean) hret hlk (by simp) (hb hby d2_89) ⟨own_yes (by omega), N0, e0⟩ (by decide) (by decide)
      refine own_go (fun t k => XS.ifNo X0.here hx rfl (hb hby d2_65) rfl (own_leqN (k := 9) (by decide) q_65) k) ?_
      show own_End p e below s _ _ _ (s0.setTop (mkF m 68 #[.val (.long p1), .second] []))
      refine own_go (fun t k => XT.lloadN X0.here hx rfl (hb hby d2_68) rfl k) ?_
      show own_End p e below s _ _ _ (s0.setTop (mkF m 69 #[.val (.long p1), .second] [(.long p1)]))
      refine own_go (X0.ldc2Long (own := "com/example/frage/frage/xdm/XmlCharactersIsCharacterPinLaw") (index := 21) (v := 10) hx hown (mvT hZ (hw _ (List.mem_of_getElem? (i := 32) rfl))) (g := (mkF m 69 #[.val (.long p1), .second] [(.long p1)])) rfl (hb hby d2_69)) ?_
      show own_End p e below s _ _ _ (s0.setTop (mkF m 72 #[.val (.long p1), .second] [(.long (10 : Int64)), (.long p1)]))
      refine own_go (fun t k => XT.lcmp X0.here hx rfl (hb hby d2_72) rfl k) ?_
      show own_End p e below s _ _ _ (s0.setTop (mkF m 73 #[.val (.long p1), .second] [(.int (XT.cmpL p1 (10 : Int64)))]))
      by_cases q_73 : p1.toInt = 10
      ·
        refine own_go (fun t k => XS.ifYes X0.here hx rfl (pc0 := 73) (pc' := 84) rfl (hb hby d2_73) rfl (own_leqY (k := 10) (by decide) q_73) (by decide) (by decide) k) ?_
        show own_End p e below s _ _ _ (s0.setTop (mkF m 84 #[.val (.long p1), .second] []))
        refine own_go (fun t k => XS.iconst X0.here hx rfl (hb hby d2_84) k) ?_
        show own_End p e below s _ _ _ (s0.setTop (mkF m 85 #[.val (.long p1), .second] [(.int (1 : Int32))]))
        refine own_go (fun t k => XS.goto X0.here hx rfl (pc0 := 85) (pc' := 89) rfl (hb hby d2_85) (by decide) (by decide) k) ?_
        show own_End p e below s _ _ _ (s0.setTop (mkF m 89 #[.val (.long p1), .second] [(.int (1 : Int32))]))
        exact own_retN X0 hx (t := .boolean) hret hlk (by simp) (hb hby d2_89) ⟨own_yes (by omega), N0, e0⟩ (by decide) (by decide)
      refine own_go (fun t k => XS.ifNo X0.here hx rfl (hb hby d2_73) rfl (own_leqN (k := 10) (by decide) q_73) k) ?_
      show own_End p e below s _ _ _ (s0.setTop (mkF m 76 #[.val (.long p1), .second] []))
      refine own_go (fun t k => XT.lloadN X0.here hx rfl (hb hby d2_76) rfl k) ?_
      show own_End p e below s _ _ _ (s0.setTop (mkF m 77 #[.val (.long p1), .second] [(.long p1)]))
      refine own_go (X0.ldc2Long (own := "com/example/frage/frage/xdm/XmlCharactersIsCharacterPinLaw") (index := 23) (v := 13) hx hown (mvT hZ (hw _ (List.mem_of_getElem? (i := 2) rfl))) (g := (mkF m 77 #[.val (.long p1), .second] [(.long p1)])) rfl (hb hby d2_77)) ?_
      show own_End p e below s _ _ _ (s0.setTop (mkF m 80 #[.val (.long p1), .second] [(.long (13 : Int64)), (.long p1)]))
      refine own_go (fun t k => XT.lcmp X0.here hx rfl (hb hby d2_80) rfl k) ?_
      show own_End p e below s _ _ _ (s0.setTop (mkF m 81 #[.val (.long p1), .second] [(.int (XT.cmpL p1 (13 : Int64)))]))
      by_cases q_81 : ¬ p1.toInt = 13
      ·
        refine own_go (fun t k => XS.ifYes X0.here hx rfl (pc0 := 81) (pc' := 88) rfl (hb hby d2_81) rfl (own_lneY (k := 13) (by decide) q_81) (by decide) (by decide) k) ?_
        show own_End p e below s _ _ _ (s0.setTop (mkF m 88 #[.val (.long p1), .second] []))
        refine own_go (fun t k => XS.iconst X0.here hx rfl (hb hby d2_88) k) ?_
        show own_End p e below s _ _ _ (s0.setTop (mkF m 89 #[.val (.long p1), .second] [(.int (0 : Int32))]))
        exact own_retN X0 hx (t := .boolean) hret hlk (by simp) (hb hby d2_89) ⟨own_no (by omega), N0, e0⟩ (by decide) (by decide)
      refine own_go (fun t k => XS.ifNo X0.here hx rfl (hb hby d2_81) rfl (own_lneN (k := 13) (by decide) q_81) k) ?_
      show own_End p e below s _ _ _ (s0.setTop (mkF m 84 #[.val (.long p1), .second] []))
      refine own_go (fun t k => XS.iconst X0.here hx rfl (hb hby d2_84) k) ?_
      show own_End p e below s _ _ _ (s0.setTop (mkF m 85 #[.val (.long p1), .second] [(.int (1 : Int32))]))
      refine own_go (fun t k => XS.goto X0.here hx rfl (pc0 := 85) (pc' := 89) rfl (hb hby d2_85) (by decide) (by decide) k) ?_
      show own_End p e below s _ _ _ (s0.setTop (mkF m 89 #[.val (.long p1), .second] [(.int (1 : Int32))]))
      exact own_retN X0 hx (t := .boolean) hret hlk (by simp) (hb hby d2_89) ⟨own_yes (by omega), N0, e0⟩ (by decide) (by decide)
    refine own_go (fun t k => XS.ifNo X0.here hx rfl (hb hby d2_47) rfl (own_lneN (k := 65535) (by decide) q_47) k) ?_
    show own_End p e below s _ _ _ (s0.setTop (mkF m 50 #[.val (.long p1), .second] []))
    refine own_go (fun t k => XS.iconst X0.here hx rfl (hb hby d2_50) k) ?_
    show own_End p e below s _ _ _ (s0.setTop (mkF m 51 #[.val (.long p1), .second] [(.int (0 : Int32))]))
    exact own_retN X0 hx (t := .boolean) hret hlk (by simp) (hb hby d2_51) ⟨own_no (by omega), N0, e0⟩ (by decide) (by decide)
  intro J_34
  show own_End p e below s _ _ _ (s0.setTop (mkF m 0 #[.val (.long p1), .second] []))
  refine own_go (fun t k => XT.lloadN X0.here hx rfl (hb hby d2_0) rfl k) ?_
  show own_End p e below s _ _ _ (s0.setTop (mkF m 1 #[.val (.long p1), .second] [(.long p1)]))
  refine own_go (fun t k => XT.lconst X0.here hx rfl (hb hby d2_1) k) ?_
  show own_End p e below s _ _ _ (s0.setTop (mkF m 2 #[.val (.long p1), .second] [(.long (0 : Int64)), (.long p1)]))
  refine own_go (fun t k => XT.lcmp X0.here hx rfl (hb hby d2_2) rfl k) ?_
  show own_End p e below s _ _ _ (s0.setTop (mkF m 3 #[.val (.long p1), .second] [(.int (XT.cmpL p1 (0 : Int64)))]))
  by_cases q_3 : p1.toInt < 0
  ·
    refine own_go (fun t k => XS.ifYes X0.here hx rfl (pc0 := 3) (pc' := 14) rfl (hb hby d2_3) rfl (own_lltY (k := 0) (by decide) q_3) (by decide) (by decide) k) ?_
    show own_End p e below s _ _ _ (s0.setTop (mkF m 14 #[.val (.long p1), .second] []))
    refine own_go (fun t k => XS.iconst X0.here hx rfl (hb hby d2_14) k) ?_
    show own_End p e below s _ _ _ (s0.setTop (mkF m 15 #[.val (.long p1), .second] [(.int (0 : Int32))]))
    exact own_retN X0 hx (t := .boolean) hret hlk (by simp) (hb hby d2_15) ⟨own_no (by omega), N0, e0⟩ (by decide) (by decide)
  refine own_go (fun t k => XS.ifNo X0.here hx rfl (hb hby d2_3) rfl (own_lltN (k := 0) (by decide) q_3) k) ?_
  show own_End p e below s _ _ _ (s0.setTop (mkF m 6 #[.val (.long p1), .second] []))
  refine own_go (fun t k => XT.lloadN X0.here hx rfl (hb hby d2_6) rfl k) ?_
  show own_End p e below s _ _ _ (s0.setTop (mkF m 7 #[.val (.long p1), .second] [(.long p1)]))
  refine own_go (X0.ldc2Long (own := "com/example/frage/frage/xdm/XmlCharactersIsCharacterPinLaw") (index := 7) (v := 1114111) hx hown (mvT hZ (hw _ (List.mem_of_getElem? (i := 12) rfl))) (g := (mkF m 7 #[.val (.long p1), .second] [(.long p1)])) rfl (hb hby d2_7)) ?_
  show own_End p e below s _ _ _ (s0.setTop (mkF m 10 #[.val (.long p1), .second] [(.long (1114111 : Int64)), (.long p1)]))
  refine own_go (fun t k => XT.lcmp X0.here hx rfl (hb hby d2_10) rfl k) ?_
  show own_End p e below s _ _ _ (s0.setTop (mkF m 11 #[.val (.long p1), .second] [(.int (XT.cmpL p1 (1114111 : Int64)))]))
  by_cases q_11 : p1.toInt ≤ 1114111
  ·
    refine own_go (fun t k => XS.ifYes X0.here hx rfl (pc0 := 11) (pc' := 16) rfl (hb hby d2_11) rfl (own_lleY (k := 1114111) (by decide) q_11) (by decide) (by decide) k) ?_
    show own_End p e below s _ _ _ (s0.setTop (mkF m 16 #[.val (.long p1), .second] []))
    refine own_go (fun t k => XT.lloadN X0.here hx rfl (hb hby d2_16) rfl k) ?_
    show own_End p e below s _ _ _ (s0.setTop (mkF m 17 #[.val (.long p1), .second] [(.long p1)]))
    refine own_go (X0.ldc2Long (own := "com/example/frage/frage/xdm/XmlCharactersIsCharacterPinLaw") (index := 9) (v := 55296) hx hown (mvT hZ (hw _ (List.mem_of_getElem? (i := 6) rfl))) (g := (mkF m 17 #[.val (.long p1), .second] [(.long p1)])) rfl (hb hby d2_17)) ?_
    show own_End p e below s _ _ _ (s0.setTop (mkF m 20 #[.val (.long p1), .second] [(.long (55296 : Int64)), (.long p1)]))
    refine own_go (fun t k => XT.lcmp X0.here hx rfl (hb hby d2_20) rfl k) ?_
    show own_End p e below s _ _ _ (s0.setTop (mkF m 21 #[.val (.long p1), .second] [(.int (XT.cmpL p1 (55296 : Int64)))]))
    by_cases q_21 : p1.toInt < 55296
    ·
      refine own_go (fun t k => XS.ifYes X0.here hx rfl (pc0 := 21) (pc' := 34) rfl (hb hby d2_21) rfl (own_lltY (k := 55296) (by decide) q_21) (by decide) (by decide) k) ?_
      show own_End p e below s _ _ _ (s0.setTop (mkF m 34 #[.val (.long p1), .second] []))
      exact J_34 (by omega)
    refine own_go (fun t k => XS.ifNo X0.here hx rfl (hb hby d2_21) rfl (own_lltN (k := 55296) (by decide) q_21) k) ?_
    show own_End p e below s _ _ _ (s0.setTop (mkF m 24 #[.val (.long p1), .second] []))
    refine own_go (fun t k => XT.lloadN X0.here hx rfl (hb hby d2_24) rfl k) ?_
    show own_End p e below s _ _ _ (s0.setTop (mkF m 25 #[.val (.long p1), .second] [(.long p1)]))
    refine own_go (X0.ldc2Long (own := "com/example/frage/frage/xdm/XmlCharactersIsCharacterPinLaw") (index := 11) (v := 57343) hx hown (mvT hZ (hw _ (List.mem_of_getElem? (i := 7) rfl))) (g := (mkF m 25 #[.val (.long p1), .second] [(.long p1)])) rfl (hb hby d2_25)) ?_
    show own_End p e below s _ _ _ (s0.setTop (mkF m 28 #[.val (.long p1), .second] [(.long (57343 : Int64)), (.long p1)]))
    refine own_go (fun t k => XT.lcmp X0.here hx rfl (hb hby d2_28) rfl k) ?_
    show own_End p e below s _ _ _ (s0.setTop (mkF m 29 #[.val (.long p1), .second] [(.int (XT.cmpL p1 (57343 : Int64)))]))
    by_cases q_29 : 57343 < p1.toInt
    ·
      refine own_go (fun t k => XS.ifYes X0.here hx rfl (pc0 := 29) (pc' := 34) rfl (hb hby d2_29) rfl (own_lgtY (k := 57343) (by decide) q_29) (by decide) (by decide) k) ?_
      show own_End p e below s _ _ _ (s0.setTop (mkF m 34 #[.val (.long p1), .second] []))
      exact J_34 (by omega)
    refine own_go (fun t k => XS.ifNo X0.here hx rfl (hb hby d2_29) rfl (own_lgtN (k := 57343) (by decide) q_29) k) ?_
    show own_End p e below s _ _ _ (s0.setTop (mkF m 32 #[.val (.long p1), .second] []))
    refine own_go (fun t k => XS.iconst X0.here hx rfl (hb hby d2_32) k) ?_
    show own_End p e below s _ _ _ (s0.setTop (mkF m 33 #[.val (.long p1), .second] [(.int (0 : Int32))]))
    exact own_retN X0 hx (t := .boolean) hret hlk (by simp) (hb hby d2_33) ⟨own_no (by omega), N0, e0⟩ (by decide) (by decide)
  refine own_go (fun t k => XS.ifNo X0.here hx rfl (hb hby d2_11) rfl (own_lleN (k := 1114111) (by decide) q_11) k) ?_
  show own_End p e below s _ _ _ (s0.setTop (mkF m 14 #[.val (.long p1), .second] []))
  refine own_go (fun t k => XS.iconst X0.here hx rfl (hb hby d2_14) k) ?_
  show own_End p e below s _ _ _ (s0.setTop (mkF m 15 #[.val (.long p1), .second] [(.int (0 : Int32))]))
  exact own_retN X0 hx (t := .boolean) hret hlk (by simp) (hb hby d2_15) ⟨own_no (by omega), N0, e0⟩ (by decide) (by decide)
set_option maxRecDepth 65536 in
set_option maxHeartbeats 40000000 in
theorem rm0 (l : Launch) (Z : State) (a0 : Array Value) (hw : ∀ d ∈ tables_1, d.before a0 Z = true) (ws : List Jvm.Cond) (p1 : Int64) (p2 : Int32) (p3 : Int32) (h0 : Heap) (n0 : Nat) (Z0 : n0 ≤ h0.size)  :
    own_Met l x code maxLocals ret ws room_1 #[(.long p1), (.int p2), (.int p3)] Z h0 (fun v h L => v = some (.int 1) ∧ Fr n0 L) := by
  refine own_body (plainFor_of_name pn_XmlCharactersIsCharacterPinLaw) ?_
  intro p e s m below meth c s0 X0 hx hby hml hret hlk hown hnm hZ e0
  replace hown : s.vm.findClass "com/example/frage/frage/xdm/XmlCharactersIsCharacterPinLaw" = some m.cls := hown
  have N0 := Fr.nil n0
  have ef : entryFrame m #[(.long p1), (.int p2), (.int p3)] maxLocals = (mkF m 0 #[.val (.long p1), .second, .val (.int p2), .val (.int p3), .unset, .unset, .unset, .unset, .unset, .unset, .unset] []) := by first | (simp [entryFrame, mkF, argsToLocals, Value.category, maxLocals]; done) | rfl
  rw [ef]
  show own_End p e below s _ _ _ (s0.setTop (mkF m 0 #[.val (.long p1), .second, .val (.int p2), .val (.int p3), .unset, .unset, .unset, .unset, .unset, .unset, .unset] []))
  refine own_go (fun t k => XS.bipush X0.here hx rfl (hb hby at_0) k) ?_
  show own_End p e below s _ _ _ (s0.setTop (mkF m 2 #[.val (.long p1), .second, .val (.int p2), .val (.int p3), .unset, .unset, .unset, .unset, .unset, .unset, .unset] [(.int (16 : Int32))]))
  obtain ⟨T1, h1, k1, X1, e1, E1, A1, st1⟩ := newP X0 hx hZ (hw _ (List.mem_of_getElem? (i := 0) rfl)) e0 (g := (mkF m 2 #[.val (.long p1), .second, .val (.int p2), .val (.int p3), .unset, .unset, .unset, .unset, .unset, .unset, .unset] [(.int (16 : Int32))])) rfl (hb hby at_2) rfl (by decide) (cap := 16) (by decide) (by decide) (by decide) (by decide)
  obtain ⟨b1, gb1⟩ : ∃ z, z = h0.size := ⟨_, rfl⟩
  rw [← gb1] at A1 st1
  have A1a := own_A.of (h' := h1) A1 (j := 16) (by decide) (by decide)
  have nb1 : n0 ≤ b1 := by rw [gb1]; exact Z0
  have Z1 : n0 ≤ h1.size := Nat.le_trans Z0 E1.1
  refine own_go st1 ?_
  show own_End p e below s _ _ _ (T1.setTop (mkF m 4 #[.val (.long p1), .second, .val (.int p2), .val (.int p3), .unset, .unset, .unset, .unset, .unset, .unset, .unset] [(.ref b1)]))
  refine own_go (fun t k => XS.dup X1.here hx rfl (hb hby at_4) rfl rfl k) ?_
  show own_End p e below s _ _ _ (T1.setTop (mkF m 5 #[.val (.long p1), .second, .val (.int p2), .val (.int p3), .unset, .unset, .unset, .unset, .unset, .unset, .unset] [(.ref b1), (.ref b1)]))
  refine own_go (fun t k => XS.iconst X1.here hx rfl (hb hby at_5) k) ?_
  show own_End p e below s _ _ _ (T1.setTop (mkF m 6 #[.val (.long p1), .second, .val (.int p2), .val (.int p3), .unset, .unset, .unset, .unset, .unset, .unset, .unset] [(.int (0 : Int32)), (.ref b1), (.ref b1)]))
  refine own_go (fun t k => XT.lconst X1.here hx rfl (hb hby at_6) k) ?_
  show own_End p e below s _ _ _ (T1.setTop (mkF m 7 #[.val (.long p1), .second, .val (.int p2), .val (.int p3), .unset, .unset, .unset, .unset, .unset, .unset, .unset] [(.long (0 : Int64)), (.int (0 : Int32)), (.ref b1), (.ref b1)]))
  obtain ⟨T2, h2, X2, e2, W2, A2, st2⟩ := own_stJ X1 hx hZ e1 A1a (j := (0 : Int32)) (x := (0 : Int64)) (by decide) (by decide) (pc := 7) (Ls := #[.val (.long p1), .second, .val (.int p2), .val (.int p3), .unset, .unset, .unset, .unset, .unset, .unset, .unset]) (rest := [(.ref b1)]) (hb hby at_7)
  have N2 := Fr.snoc X2 N0 nb1
  have Z2 : n0 ≤ h2.size := by rw [W2.size]; exact Z1
  refine own_go st2 ?_
  show own_End p e below s _ _ _ (T2.setTop (mkF m 8 #[.val (.long p1), .second, .val (.int p2), .val (.int p3), .unset, .unset, .unset, .unset, .unset, .unset, .unset] [(.ref b1)]))
  refine own_go (fun t k => XS.dup X2.here hx rfl (hb hby at_8) rfl rfl k) ?_
  show own_End p e below s _ _ _ (T2.setTop (mkF m 9 #[.val (.long p1), .second, .val (.int p2), .val (.int p3), .unset, .unset, .unset, .unset, .unset, .unset, .unset] [(.ref b1), (.ref b1)]))
  refine own_go (fun t k => XS.iconst X2.here hx rfl (hb hby at_9) k) ?_
  show own_End p e below s _ _ _ (T2.setTop (mkF m 10 #[.val (.long p1), .second, .val (.int p2), .val (.int p3), .unset, .unset, .unset, .unset, .unset, .unset, .unset] [(.int (1 : Int32)), (.ref b1), (.ref b1)]))
  refine own_go (X2.ldc2Long (own := "com/example/frage/frage/xdm/XmlCharactersIsCharacterPinLaw") (index := 19) (v := 9) hx hown (mvT hZ (hw _ (List.mem_of_getElem? (i := 1) rfl))) (g := (mkF m 10 #[.val (.long p1), .second, .val (.int p2), .val (.int p3), .unset, .unset, .unset, .unset, .unset, .unset, .unset] [(.int (1 : Int32)), (.ref b1), (.ref b1)])) rfl (hb hby at_10)) ?_
  show own_End p e below s _ _ _ (T2.setTop (mkF m 13 #[.val (.long p1), .second, .val (.int p2), .val (.int p3), .unset, .unset, .unset, .unset, .unset, .unset, .unset] [(.long (9 : Int64)), (.int (1 : Int32)), (.ref b1), (.ref b1)]))
  obtain ⟨T4, h4, X4, e4, W4, A4, st4⟩ := own_stJ X2 hx hZ e2 A2 (j := (1 : Int32)) (x := (9 : Int64)) (by decide) (by decide) (pc := 13) (Ls := #[.val (.long p1), .second, .val (.int p2), .val (.int p3), .unset, .unset, .unset, .unset, .unset, .unset, .unset]) (rest := [(.ref b1)]) (hb hby at_13)
  have N4 := Fr.snoc X4 N2 nb1
  have Z4 : n0 ≤ h4.size := by rw [W4.size]; exact Z2
  refine own_go st4 ?_
  show own_End p e below s _ _ _ (T4.setTop (mkF m 14 #[.val (.long p1), .second, .val (.int p2), .val (.int p3), .unset, .unset, .unset, .unset, .unset, .unset, .unset] [(.ref b1)]))
  refine own_go (fun t k => XS.dup X4.here hx rfl (hb hby at_14) rfl rfl k) ?_
  show own_End p e below s _ _ _ (T4.setTop (mkF m 15 #[.val (.long p1), .second, .val (.int p2), .val (.int p3), .unset, .unset, .unset, .unset, .unset, .unset, .unset] [(.ref b1), (.ref b1)]))
  refine own_go (fun t k => XS.iconst X4.here hx rfl (hb hby at_15) k) ?_
  show own_End p e below s _ _ _ (T4.setTop (mkF m 16 #[.val (.long p1), .second, .val (.int p2), .val (.int p3), .unset, .unset, .unset, .unset, .unset, .unset, .unset] [(.int (2 : Int32)), (.ref b1), (.ref b1)]))
  refine own_go (X4.ldc2Long (own := "com/example/frage/frage/xdm/XmlCharactersIsCharacterPinLaw") (index := 23) (v := 13) hx hown (mvT hZ (hw _ (List.mem_of_getElem? (i := 2) rfl))) (g := (mkF m 16 #[.val (.long p1), .second, .val (.int p2), .val (.int p3), .unset, .unset, .unset, .unset, .unset, .unset, .unset] [(.int (2 : Int32)), (.ref b1), (.ref b1)])) rfl (hb hby at_16)) ?_
  show own_End p e below s _ _ _ (T4.setTop (mkF m 19 #[.val (.long p1), .second, .val (.int p2), .val (.int p3), .unset, .unset, .unset, .unset, .unset, .unset, .unset] [(.long (13 : Int64)), (.int (2 : Int32)), (.ref b1), (.ref b1)]))
  obtain ⟨T6, h6, X6, e6, W6, A6, st6⟩ := own_stJ X4 hx hZ e4 A4 (j := (2 : Int32)) (x := (13 : Int64)) (by decide) (by decide) (pc := 19) (Ls := #[.val (.long p1), .second, .val (.int p2), .val (.int p3), .unset, .unset, .unset, .unset, .unset, .unset, .unset]) (rest := [(.ref b1)]) (hb hby at_19)
  have N6 := Fr.snoc X6 N4 nb1
  have Z6 : n0 ≤ h6.size := by rw [W6.size]; exact Z4
  refine own_go st6 ?_
  show own_End p e below s _ _ _ (T6.setTop (mkF m 20 #[.val (.long p1), .second, .val (.int p2), .val (.int p3), .unset, .unset, .unset, .unset, .unset, .unset, .unset] [(.ref b1)]))
  refine own_go (fun t k => XS.dup X6.here hx rfl (hb hby at_20) rfl rfl k) ?_
  show own_End p e below s _ _ _ (T6.setTop (mkF m 21 #[.val (.long p1), .second, .val (.int p2), .val (.int p3), .unset, .unset, .unset, .unset, .unset, .unset, .unset] [(.ref b1), (.ref b1)]))
  refine own_go (fun t k => XS.iconst X6.here hx rfl (hb hby at_21) k) ?_
  show own_End p e below s _ _ _ (T6.setTop (mkF m 22 #[.val (.long p1), .second, .val (.int p2), .val (.int p3), .unset, .unset, .unset, .unset, .unset, .unset, .unset] [(.int (3 : Int32)), (.ref b1), (.ref b1)]))
  refine own_go (X6.ldc2Long (own := "com/example/frage/frage/xdm/XmlCharactersIsCharacterPinLaw") (index := 17) (v := 32) hx hown (mvT hZ (hw _ (List.mem_of_getElem? (i := 3) rfl))) (g := (mkF m 22 #[.val (.long p1), .second, .val (.int p2), .val (.int p3), .unset, .unset, .unset, .unset, .unset, .unset, .unset] [(.int (3 : Int32)), (.ref b1), (.ref b1)])) rfl (hb hby at_22)) ?_
  show own_End p e below s _ _ _ (T6.setTop (mkF m 25 #[.val (.long p1), .second, .val (.int p2), .val (.int p3), .unset, .unset, .unset, .unset, .unset, .unset, .unset] [(.long (32 : Int64)), (.int (3 : Int32)), (.ref b1), (.ref b1)]))
  obtain ⟨T8, h8, X8, e8, W8, A8, st8⟩ := own_stJ X6 hx hZ e6 A6 (j := (3 : Int32)) (x := (32 : Int64)) (by decide) (by decide) (pc := 25) (Ls := #[.val (.long p1), .second, .val (.int p2), .val (.int p3), .unset, .unset, .unset, .unset, .unset, .unset, .unset]) (rest := [(.ref b1)]) (hb hby at_25)
  have N8 := Fr.snoc X8 N6 nb1
  have Z8 : n0 ≤ h8.size := by rw [W8.size]; exact Z6
  refine own_go st8 ?_
  show own_End p e below s _ _ _ (T8.setTop (mkF m 26 #[.val (.long p1), .second, .val (.int p2), .val (.int p3), .unset, .unset, .unset, .unset, .unset, .unset, .unset] [(.ref b1)]))
  refine own_go (fun t k => XS.dup X8.here hx rfl (hb hby at_26) rfl rfl k) ?_
  show own_End p e below s _ _ _ (T8.setTop (mkF m 27 #[.val (.long p1), .second, .val (.int p2), .val (.int p3), .unset, .unset, .unset, .unset, .unset, .unset, .unset] [(.ref b1), (.ref b1)]))
  refine own_go (fun t k => XS.iconst X8.here hx rfl (hb hby at_27) k) ?_
  show own_End p e below s _ _ _ (T8.setTop (mkF m 28 #[.val (.long p1), .second, .val (.int p2), .val (.int p3), .unset, .unset, .unset, .unset, .unset, .unset, .unset] [(.int (4 : Int32)), (.ref b1), (.ref b1)]))
  refine own_go (X8.ldc2Long (own := "com/example/frage/frage/xdm/XmlCharactersIsCharacterPinLaw") (index := 25) (v := 127) hx hown (mvT hZ (hw _ (List.mem_of_getElem? (i := 4) rfl))) (g := (mkF m 28 #[.val (.long p1), .second, .val (.int p2), .val (.int p3), .unset, .unset, .unset, .unset, .unset, .unset, .unset] [(.int (4 : Int32)), (.ref b1), (.ref b1)])) rfl (hb hby at_28)) ?_
  show own_End p e below s _ _ _ (T8.setTop (mkF m 31 #[.val (.long p1), .second, .val (.int p2), .val (.int p3), .unset, .unset, .unset, .unset, .unset, .unset, .unset] [(.long (127 : Int64)), (.int (4 : Int32)), (.ref b1), (.ref b1)]))
  obtain ⟨T10, h10, X10, e10, W10, A10, st10⟩ := own_stJ X8 hx hZ e8 A8 (j := (4 : Int32)) (x := (127 : Int64)) (by decide) (by decide) (pc := 31) (Ls := #[.val (.long p1), .second, .val (.int p2), .val (.int p3), .unset, .unset, .unset, .unset, .unset, .unset, .unset]) (rest := [(.ref b1)]) (hb hby at_31)
  have N10 := Fr.snoc X10 N8 nb1
  have Z10 : n0 ≤ h10.size := by rw [W10.size]; exact Z8
  refine own_go st10 ?_
  show own_End p e below s _ _ _ (T10.setTop (mkF m 32 #[.val (.long p1), .second, .val (.int p2), .val (.int p3), .unset, .unset, .unset, .unset, .unset, .unset, .unset] [(.ref b1)]))
  refine own_go (fun t k => XS.dup X10.here hx rfl (hb hby at_32) rfl rfl k) ?_
  show own_End p e below s _ _ _ (T10.setTop (mkF m 33 #[.val (.long p1), .second, .val (.int p2), .val (.int p3), .unset, .unset, .unset, .unset, .unset, .unset, .unset] [(.ref b1), (.ref b1)]))
  refine own_go (fun t k => XS.iconst X10.here hx rfl (hb hby at_33) k) ?_
  show own_End p e below s _ _ _ (T10.setTop (mkF m 34 #[.val (.long p1), .second, .val (.int p2), .val (.int p3), .unset, .unset, .unset, .unset, .unset, .unset, .unset] [(.int (5 : Int32)), (.ref b1), (.ref b1)]))
  refine own_go (X10.ldc2Long (own := "com/example/frage/frage/xdm/XmlCharactersIsCharacterPinLaw") (index := 27) (v := 55295) hx hown (mvT hZ (hw _ (List.mem_of_getElem? (i := 5) rfl))) (g := (mkF m 34 #[.val (.long p1), .second, .val (.int p2), .val (.int p3), .unset, .unset, .unset, .unset, .unset, .unset, .unset] [(.int (5 : Int32)), (.ref b1), (.ref b1)])) rfl (hb hby at_34)) ?_
  show own_End p e below s _ _ _ (T10.setTop (mkF m 37 #[.val (.long p1), .second, .val (.int p2), .val (.int p3), .unset, .unset, .unset, .unset, .unset, .unset, .unset] [(.long (55295 : Int64)), (.int (5 : Int32)), (.ref b1), (.ref b1)]))
  obtain ⟨T12, h12, X12, e12, W12, A12, st12⟩ := own_stJ X10 hx hZ e10 A10 (j := (5 : Int32)) (x := (55295 : Int64)) (by decide) (by decide) (pc := 37) (Ls := #[.val (.long p1), .second, .val (.int p2), .val (.int p3), .unset, .unset, .unset, .unset, .unset, .unset, .unset]) (rest := [(.ref b1)]) (hb hby at_37)
  have N12 := Fr.snoc X12 N10 nb1
  have Z12 : n0 ≤ h12.size := by rw [W12.size]; exact Z10
  refine own_go st12 ?_
  show own_End p e below s _ _ _ (T12.setTop (mkF m 38 #[.val (.long p1), .second, .val (.int p2), .val (.int p3), .unset, .unset, .unset, .unset, .unset, .unset, .unset] [(.ref b1)]))
  refine own_go (fun t k => XS.dup X12.here hx rfl (hb hby at_38) rfl rfl k) ?_
  show own_End p e below s _ _ _ (T12.setTop (mkF m 39 #[.val (.long p1), .second, .val (.int p2), .val (.int p3), .unset, .unset, .unset, .unset, .unset, .unset, .unset] [(.ref b1), (.ref b1)]))
  refine own_go (fun t k => XS.bipush X12.here hx rfl (hb hby at_39) k) ?_
  show own_End p e below s _ _ _ (T12.setTop (mkF m 41 #[.val (.long p1), .second, .val (.int p2), .val (.int p3), .unset, .unset, .unset, .unset, .unset, .unset, .unset] [(.int (6 : Int32)), (.ref b1), (.ref b1)]))
  refine own_go (X12.ldc2Long (own := "com/example/frage/frage/xdm/XmlCharactersIsCharacterPinLaw") (index := 9) (v := 55296) hx hown (mvT hZ (hw _ (List.mem_of_getElem? (i := 6) rfl))) (g := (mkF m 41 #[.val (.long p1), .second, .val (.int p2), .val (.int p3), .unset, .unset, .unset, .unset, .unset, .unset, .unset] [(.int (6 : Int32)), (.ref b1), (.ref b1)])) rfl (hb hby at_41)) ?_
  show own_End p e below s _ _ _ (T12.setTop (mkF m 44 #[.val (.long p1), .second, .val (.int p2), .val (.int p3), .unset, .unset, .unset, .unset, .unset, .unset, .unset] [(.long (55296 : Int64)), (.int (6 : Int32)), (.ref b1), (.ref b1)]))
  obtain ⟨T14, h14, X14, e14, W14, A14, st14⟩ := own_stJ X12 hx hZ e12 A12 (j := (6 : Int32)) (x := (55296 : Int64)) (by decide) (by decide) (pc := 44) (Ls := #[.val (.long p1), .second, .val (.int p2), .val (.int p3), .unset, .unset, .unset, .unset, .unset, .unset, .unset]) (rest := [(.ref b1)]) (hb hby at_44)
  have N14 := Fr.snoc X14 N12 nb1
  have Z14 : n0 ≤ h14.size := by rw [W14.size]; exact Z12
  refine own_go st14 ?_
  show own_End p e below s _ _ _ (T14.setTop (mkF m 45 #[.val (.long p1), .second, .val (.int p2), .val (.int p3), .unset, .unset, .unset, .unset, .unset, .unset, .unset] [(.ref b1)]))
  refine own_go (fun t k => XS.dup X14.here hx rfl (hb hby at_45) rfl rfl k) ?_
  show own_End p e below s _ _ _ (T14.setTop (mkF m 46 #[.val (.long p1), .second, .val (.int p2), .val (.int p3), .unset, .unset, .unset, .unset, .unset, .unset, .unset] [(.ref b1), (.ref b1)]))
  refine own_go (fun t k => XS.bipush X14.here hx rfl (hb hby at_46) k) ?_
  show own_End p e below s _ _ _ (T14.setTop (mkF m 48 #[.val (.long p1), .second, .val (.int p2), .val (.int p3), .unset, .unset, .unset, .unset, .unset, .unset, .unset] [(.int (7 : Int32)), (.ref b1), (.ref b1)]))
  refine own_go (X14.ldc2Long (own := "com/example/frage/frage/xdm/XmlCharactersIsCharacterPinLaw") (index := 11) (v := 57343) hx hown (mvT hZ (hw _ (List.mem_of_getElem? (i := 7) rfl))) (g := (mkF m 48 #[.val (.long p1), .second, .val (.int p2), .val (.int p3), .unset, .unset, .unset, .unset, .unset, .unset, .unset] [(.int (7 : Int32)), (.ref b1), (.ref b1)])) rfl (hb hby at_48)) ?_
  show own_End p e below s _ _ _ (T14.setTop (mkF m 51 #[.val (.long p1), .second, .val (.int p2), .val (.int p3), .unset, .unset, .unset, .unset, .unset, .unset, .unset] [(.long (57343 : Int64)), (.int (7 : Int32)), (.ref b1), (.ref b1)]))
  obtain ⟨T16, h16, X16, e16, W16, A16, st16⟩ := own_stJ X14 hx hZ e14 A14 (j := (7 : Int32)) (x := (57343 : Int64)) (by decide) (by decide) (pc := 51) (Ls := #[.val (.long p1), .second, .val (.int p2), .val (.int p3), .unset, .unset, .unset, .unset, .unset, .unset, .unset]) (rest := [(.ref b1)]) (hb hby at_51)
  have N16 := Fr.snoc X16 N14 nb1
  have Z16 : n0 ≤ h16.size := by rw [W16.size]; exact Z14
  refine own_go st16 ?_
  show own_End p e below s _ _ _ (T16.setTop (mkF m 52 #[.val (.long p1), .second, .val (.int p2), .val (.int p3), .unset, .unset, .unset, .unset, .unset, .unset, .unset] [(.ref b1)]))
  refine own_go (fun t k => XS.dup X16.here hx rfl (hb hby at_52) rfl rfl k) ?_
  show own_End p e below s _ _ _ (T16.setTop (mkF m 53 #[.val (.long p1), .second, .val (.int p2), .val (.int p3), .unset, .unset, .unset, .unset, .unset, .unset, .unset] [(.ref b1), (.ref b1)]))
  refine own_go (fun t k => XS.bipush X16.here hx rfl (hb hby at_53) k) ?_
  show own_End p e below s _ _ _ (T16.setTop (mkF m 55 #[.val (.long p1), .second, .val (.int p2), .val (.int p3), .unset, .unset, .unset, .unset, .unset, .unset, .unset] [(.int (8 : Int32)), (.ref b1), (.ref b1)]))
  refine own_go (X16.ldc2Long (own := "com/example/frage/frage/xdm/XmlCharactersIsCharacterPinLaw") (index := 29) (v := 57344) hx hown (mvT hZ (hw _ (List.mem_of_getElem? (i := 8) rfl))) (g := (mkF m 55 #[.val (.long p1), .second, .val (.int p2), .val (.int p3), .unset, .unset, .unset, .unset, .unset, .unset, .unset] [(.int (8 : Int32)), (.ref b1), (.ref b1)])) rfl (hb hby at_55)) ?_
  show own_End p e below s _ _ _ (T16.setTop (mkF m 58 #[.val (.long p1), .second, .val (.int p2), .val (.int p3), .unset, .unset, .unset, .unset, .unset, .unset, .unset] [(.long (57344 : Int64)), (.int (8 : Int32)), (.ref b1), (.ref b1)]))
  obtain ⟨T18, h18, X18, e18, W18, A18, st18⟩ := own_stJ X16 hx hZ e16 A16 (j := (8 : Int32)) (x := (57344 : Int64)) (by decide) (by decide) (pc := 58) (Ls := #[.val (.long p1), .second, .val (.int p2), .val (.int p3), .unset, .unset, .unset, .unset, .unset, .unset, .unset]) (rest := [(.ref b1)]) (hb hby at_58)
  have N18 := Fr.snoc X18 N16 nb1
  have Z18 : n0 ≤ h18.size := by rw [W18.size]; exact Z16
  refine own_go st18 ?_
  show own_End p e below s _ _ _ (T18.setTop (mkF m 59 #[.val (.long p1), .second, .val (.int p2), .val (.int p3), .unset, .unset, .unset, .unset, .unset, .unset, .unset] [(.ref b1)]))
  refine own_go (fun t k => XS.dup X18.here hx rfl (hb hby at_59) rfl rfl k) ?_
  show own_End p e below s _ _ _ (T18.setTop (mkF m 60 #[.val (.long p1), .second, .val (.int p2), .val (.int p3), .unset, .unset, .unset, .unset, .unset, .unset, .unset] [(.ref b1), (.ref b1)]))
  refine own_go (fun t k => XS.bipush X18.here hx rfl (hb hby at_60) k) ?_
  show own_End p e below s _ _ _ (T18.setTop (mkF m 62 #[.val (.long p1), .second, .val (.int p2), .val (.int p3), .unset, .unset, .unset, .unset, .unset, .unset, .unset] [(.int (9 : Int32)), (.ref b1), (.ref b1)]))
  refine own_go (X18.ldc2Long (own := "com/example/frage/frage/xdm/XmlCharactersIsCharacterPinLaw") (index := 31) (v := 65533) hx hown (mvT hZ (hw _ (List.mem_of_getElem? (i := 9) rfl))) (g := (mkF m 62 #[.val (.long p1), .second, .val (.int p2), .val (.int p3), .unset, .unset, .unset, .unset, .unset, .unset, .unset] [(.int (9 : Int32)), (.ref b1), (.ref b1)])) rfl (hb hby at_62)) ?_
  show own_End p e below s _ _ _ (T18.setTop (mkF m 65 #[.val (.long p1), .second, .val (.int p2), .val (.int p3), .unset, .unset, .unset, .unset, .unset, .unset, .unset] [(.long (65533 : Int64)), (.int (9 : Int32)), (.ref b1), (.ref b1)]))
  obtain ⟨T20, h20, X20, e20, W20, A20, st20⟩ := own_stJ X18 hx hZ e18 A18 (j := (9 : Int32)) (x := (65533 : Int64)) (by decide) (by decide) (pc := 65) (Ls := #[.val (.long p1), .second, .val (.int p2), .val (.int p3), .unset, .unset, .unset, .unset, .unset, .unset, .unset]) (rest := [(.ref b1)]) (hb hby at_65)
  have N20 := Fr.snoc X20 N18 nb1
  have Z20 : n0 ≤ h20.size := by rw [W20.size]; exact Z18
  refine own_go st20 ?_
  show own_End p e below s _ _ _ (T20.setTop (mkF m 66 #[.val (.long p1), .second, .val (.int p2), .val (.int p3), .unset, .unset, .unset, .unset, .unset, .unset, .unset] [(.ref b1)]))
  refine own_go (fun t k => XS.dup X20.here hx rfl (hb hby at_66) rfl rfl k) ?_
  show own_End p e below s _ _ _ (T20.setTop (mkF m 67 #[.val (.long p1), .second, .val (.int p2), .val (.int p3), .unset, .unset, .unset, .unset, .unset, .unset, .unset] [(.ref b1), (.ref b1)]))
  refine own_go (fun t k => XS.bipush X20.here hx rfl (hb hby at_67) k) ?_
  show own_End p e below s _ _ _ (T20.setTop (mkF m 69 #[.val (.long p1), .second, .val (.int p2), .val (.int p3), .unset, .unset, .unset, .unset, .unset, .unset, .unset] [(.int (10 : Int32)), (.ref b1), (.ref b1)]))
  refine own_go (X20.ldc2Long (own := "com/example/frage/frage/xdm/XmlCharactersIsCharacterPinLaw") (index := 15) (v := 65535) hx hown (mvT hZ (hw _ (List.mem_of_getElem? (i := 10) rfl))) (g := (mkF m 69 #[.val (.long p1), .second, .val (.int p2), .val (.int p3), .unset, .unset, .unset, .unset, .unset, .unset, .unset] [(.int (10 : Int32)), (.ref b1), (.ref b1)])) rfl (hb hby at_69)) ?_
  show own_End p e below s _ _ _ (T20.setTop (mkF m 72 #[.val (.long p1), .second, .val (.int p2), .val (.int p3), .unset, .unset, .unset, .unset, .unset, .unset, .unset] [(.long (65535 : Int64)), (.int (10 : Int32)), (.ref b1), (.ref b1)]))
  obtain ⟨T22, h22, X22, e22, W22, A22, st22⟩ := own_stJ X20 hx hZ e20 A20 (j := (10 : Int32)) (x := (65535 : Int64)) (by decide) (by decide) (pc := 72) (Ls := #[.val (.long p1), .second, .val (.int p2), .val (.int p3), .unset, .unset, .unset, .unset, .unset, .unset, .unset]) (rest := [(.ref b1)]) (hb hby at_72)
  have N22 := Fr.snoc X22 N20 nb1
  have Z22 : n0 ≤ h22.size := by rw [W22.size]; exact Z20
  refine own_go st22 ?_
  show own_End p e below s _ _ _ (T22.setTop (mkF m 73 #[.val (.long p1), .second, .val (.int p2), .val (.int p3), .unset, .unset, .unset, .unset, .unset, .unset, .unset] [(.ref b1)]))
  refine own_go (fun t k => XS.dup X22.here hx rfl (hb hby at_73) rfl rfl k) ?_
  show own_End p e below s _ _ _ (T22.setTop (mkF m 74 #[.val (.long p1), .second, .val (.int p2), .val (.int p3), .unset, .unset, .unset, .unset, .unset, .unset, .unset] [(.ref b1), (.ref b1)]))
  refine own_go (fun t k => XS.bipush X22.here hx rfl (hb hby at_74) k) ?_
  show own_End p e below s _ _ _ (T22.setTop (mkF m 76 #[.val (.long p1), .second, .val (.int p2), .val (.int p3), .unset, .unset, .unset, .unset, .unset, .unset, .unset] [(.int (11 : Int32)), (.ref b1), (.ref b1)]))
  refine own_go (X22.ldc2Long (own := "com/example/frage/frage/xdm/XmlCharactersIsCharacterPinLaw") (index := 33) (v := 65536) hx hown (mvT hZ (hw _ (List.mem_of_getElem? (i := 11) rfl))) (g := (mkF m 76 #[.val (.long p1), .second, .val (.int p2), .val (.int p3), .unset, .unset, .unset, .unset, .unset, .unset, .unset] [(.int (11 : Int32)), (.ref b1), (.ref b1)])) rfl (hb hby at_76)) ?_
  show own_End p e below s _ _ _ (T22.setTop (mkF m 79 #[.val (.long p1), .second, .val (.int p2), .val (.int p3), .unset, .unset, .unset, .unset, .unset, .unset, .unset] [(.long (65536 : Int64)), (.int (11 : Int32)), (.ref b1), (.ref b1)]))
  obtain ⟨T24, h24, X24, e24, W24, A24, st24⟩ := own_stJ X22 hx hZ e22 A22 (j := (11 : Int32)) (x := (65536 : Int64)) (by decide) (by decide) (pc := 79) (Ls := #[.val (.long p1), .second, .val (.int p2), .val (.int p3), .unset, .unset, .unset, .unset, .unset, .unset, .unset]) (rest := [(.ref b1)]) (hb hby at_79)
  have N24 := Fr.snoc X24 N22 nb1
  have Z24 : n0 ≤ h24.size := by rw [W24.size]; exact Z22
  refine own_go st24 ?_
  show own_End p e below s _ _ _ (T24.setTop (mkF m 80 #[.val (.long p1), .second, .val (.int p2), .val (.int p3), .unset, .unset, .unset, .unset, .unset, .unset, .unset] [(.ref b1)]))
  refine own_go (fun t k => XS.dup X24.here hx rfl (hb hby at_80) rfl rfl k) ?_
  show own_End p e below s _ _ _ (T24.setTop (mkF m 81 #[.val (.long p1), .second, .val (.int p2), .val (.int p3), .unset, .unset, .unset, .unset, .unset, .unset, .unset] [(.ref b1), (.ref b1)]))
  refine own_go (fun t k => XS.bipush X24.here hx rfl (hb hby at_81) k) ?_
  show own_End p e below s _ _ _ (T24.setTop (mkF m 83 #[.val (.long p1), .second, .val (.int p2), .val (.int p3), .unset, .unset, .unset, .unset, .unset, .unset, .unset] [(.int (12 : Int32)), (.ref b1), (.ref b1)]))
  refine own_go (X24.ldc2Long (own := "com/example/frage/frage/xdm/XmlCharactersIsCharacterPinLaw") (index := 7) (v := 1114111) hx hown (mvT hZ (hw _ (List.mem_of_getElem? (i := 12) rfl))) (g := (mkF m 83 #[.val (.long p1), .second, .val (.int p2), .val (.int p3), .unset, .unset, .unset, .unset, .unset, .unset, .unset] [(.int (12 : Int32)), (.ref b1), (.ref b1)])) rfl (hb hby at_83)) ?_
  show own_End p e below s _ _ _ (T24.setTop (mkF m 86 #[.val (.long p1), .second, .val (.int p2), .val (.int p3), .unset, .unset, .unset, .unset, .unset, .unset, .unset] [(.long (1114111 : Int64)), (.int (12 : Int32)), (.ref b1), (.ref b1)]))
  obtain ⟨T26, h26, X26, e26, W26, A26, st26⟩ := own_stJ X24 hx hZ e24 A24 (j := (12 : Int32)) (x := (1114111 : Int64)) (by decide) (by decide) (pc := 86) (Ls := #[.val (.long p1), .second, .val (.int p2), .val (.int p3), .unset, .unset, .unset, .unset, .unset, .unset, .unset]) (rest := [(.ref b1)]) (hb hby at_86)
  have N26 := Fr.snoc X26 N24 nb1
  have Z26 : n0 ≤ h26.size := by rw [W26.size]; exact Z24
  refine own_go st26 ?_
  show own_End p e below s _ _ _ (T26.setTop (mkF m 87 #[.val (.long p1), .second, .val (.int p2), .val (.int p3), .unset, .unset, .unset, .unset, .unset, .unset, .unset] [(.ref b1)]))
  refine own_go (fun t k => XS.dup X26.here hx rfl (hb hby at_87) rfl rfl k) ?_
  show own_End p e below s _ _ _ (T26.setTop (mkF m 88 #[.val (.long p1), .second, .val (.int p2), .val (.int p3), .unset, .unset, .unset, .unset, .unset, .unset, .unset] [(.ref b1), (.ref b1)]))
  refine own_go (fun t k => XS.bipush X26.here hx rfl (hb hby at_88) k) ?_
  show own_End p e below s _ _ _ (T26.setTop (mkF m 90 #[.val (.long p1), .second, .val (.int p2), .val (.int p3), .unset, .unset, .unset, .unset, .unset, .unset, .unset] [(.int (13 : Int32)), (.ref b1), (.ref b1)]))
  refine own_go (X26.ldc2Long (own := "com/example/frage/frage/xdm/XmlCharactersIsCharacterPinLaw") (index := 35) (v := 1114112) hx hown (mvT hZ (hw _ (List.mem_of_getElem? (i := 13) rfl))) (g := (mkF m 90 #[.val (.long p1), .second, .val (.int p2), .val (.int p3), .unset, .unset, .unset, .unset, .unset, .unset, .unset] [(.int (13 : Int32)), (.ref b1), (.ref b1)])) rfl (hb hby at_90)) ?_
  show own_End p e below s _ _ _ (T26.setTop (mkF m 93 #[.val (.long p1), .second, .val (.int p2), .val (.int p3), .unset, .unset, .unset, .unset, .unset, .unset, .unset] [(.long (1114112 : Int64)), (.int (13 : Int32)), (.ref b1), (.ref b1)]))
  obtain ⟨T28, h28, X28, e28, W28, A28, st28⟩ := own_stJ X26 hx hZ e26 A26 (j := (13 : Int32)) (x := (1114112 : Int64)) (by decide) (by decide) (pc := 93) (Ls := #[.val (.long p1), .second, .val (.int p2), .val (.int p3), .unset, .unset, .unset, .unset, .unset, .unset, .unset]) (rest := [(.ref b1)]) (hb hby at_93)
  have N28 := Fr.snoc X28 N26 nb1
  have Z28 : n0 ≤ h28.size := by rw [W28.size]; exact Z26
  refine own_go st28 ?_
  show own_End p e below s _ _ _ (T28.setTop (mkF m 94 #[.val (.long p1), .second, .val (.int p2), .val (.int p3), .unset, .unset, .unset, .unset, .unset, .unset, .unset] [(.ref b1)]))
  refine own_go (fun t k => XS.dup X28.here hx rfl (hb hby at_94) rfl rfl k) ?_
  show own_End p e below s _ _ _ (T28.setTop (mkF m 95 #[.val (.long p1), .second, .val (.int p2), .val (.int p3), .unset, .unset, .unset, .unset, .unset, .unset, .unset] [(.ref b1), (.ref b1)]))
  refine own_go (fun t k => XS.bipush X28.here hx rfl (hb hby at_95) k) ?_
  show own_End p e below s _ _ _ (T28.setTop (mkF m 97 #[.val (.long p1), .second, .val (.int p2), .val (.int p3), .unset, .unset, .unset, .unset, .unset, .unset, .unset] [(.int (14 : Int32)), (.ref b1), (.ref b1)]))
  refine own_go (X28.ldc2Long (own := "com/example/frage/frage/xdm/XmlCharactersIsCharacterPinLaw") (index := 37) (v := 4294967305) hx hown (mvT hZ (hw _ (List.mem_of_getElem? (i := 14) rfl))) (g := (mkF m 97 #[.val (.long p1), .second, .val (.int p2), .val (.int p3), .unset, .unset, .unset, .unset, .unset, .unset, .unset] [(.int (14 : Int32)), (.ref b1), (.ref b1)])) rfl (hb hby at_97)) ?_
  show own_End p e below s _ _ _ (T28.setTop (mkF m 100 #[.val (.long p1), .second, .val (.int p2), .val (.int p3), .unset, .unset, .unset, .unset, .unset, .unset, .unset] [(.long (4294967305 : Int64)), (.int (14 : Int32)), (.ref b1), (.ref b1)]))
  obtain ⟨T30, h30, X30, e30, W30, A30, st30⟩ := own_stJ X28 hx hZ e28 A28 (j := (14 : Int32)) (x := (4294967305 : Int64)) (by decide) (by decide) (pc := 100) (Ls := #[.val (.long p1), .second, .val (.int p2), .val (.int p3), .unset, .unset, .unset, .unset, .unset, .unset, .unset]) (rest := [(.ref b1)]) (hb hby at_100)
  have N30 := Fr.snoc X30 N28 nb1
  have Z30 : n0 ≤ h30.size := by rw [W30.size]; exact Z28
  refine own_go st30 ?_
  show own_End p e below s _ _ _ (T30.setTop (mkF m 101 #[.val (.long p1), .second, .val (.int p2), .val (.int p3), .unset, .unset, .unset, .unset, .unset, .unset, .unset] [(.ref b1)]))
  refine own_go (fun t k => XS.dup X30.here hx rfl (hb hby at_101) rfl rfl k) ?_
  show own_End p e below s _ _ _ (T30.setTop (mkF m 102 #[.val (.long p1), .second, .val (.int p2), .val (.int p3), .unset, .unset, .unset, .unset, .unset, .unset, .unset] [(.ref b1), (.ref b1)]))
  refine own_go (fun t k => XS.bipush X30.here hx rfl (hb hby at_102) k) ?_
  show own_End p e below s _ _ _ (T30.setTop (mkF m 104 #[.val (.long p1), .second, .val (.int p2), .val (.int p3), .unset, .unset, .unset, .unset, .unset, .unset, .unset] [(.int (15 : Int32)), (.ref b1), (.ref b1)]))
  refine own_go (X30.ldc2Long (own := "com/example/frage/frage/xdm/XmlCharactersIsCharacterPinLaw") (index := 39) (v := (-4294967286)) hx hown (mvT hZ (hw _ (List.mem_of_getElem? (i := 15) rfl))) (g := (mkF m 104 #[.val (.long p1), .second, .val (.int p2), .val (.int p3), .unset, .unset, .unset, .unset, .unset, .unset, .unset] [(.int (15 : Int32)), (.ref b1), (.ref b1)])) rfl (hb hby at_104)) ?_
  show own_End p e below s _ _ _ (T30.setTop (mkF m 107 #[.val (.long p1), .second, .val (.int p2), .val (.int p3), .unset, .unset, .unset, .unset, .unset, .unset, .unset] [(.long (-4294967286 : Int64)), (.int (15 : Int32)), (.ref b1), (.ref b1)]))
  obtain ⟨T32, h32, X32, e32, W32, A32, st32⟩ := own_stJ X30 hx hZ e30 A30 (j := (15 : Int32)) (x := (-4294967286 : Int64)) (by decide) (by decide) (pc := 107) (Ls := #[.val (.long p1), .second, .val (.int p2), .val (.int p3), .unset, .unset, .unset, .unset, .unset, .unset, .unset]) (rest := [(.ref b1)]) (hb hby at_107)
  have N32 := Fr.snoc X32 N30 nb1
  have Z32 : n0 ≤ h32.size := by rw [W32.size]; exact Z30
  refine own_go st32 ?_
  show own_End p e below s _ _ _ (T32.setTop (mkF m 108 #[.val (.long p1), .second, .val (.int p2), .val (.int p3), .unset, .unset, .unset, .unset, .unset, .unset, .unset] [(.ref b1)]))
  refine own_go (fun t k => XS.astore X32.here hx rfl (hb hby at_108) rfl rfl (l' := #[.val (.long p1), .second, .val (.int p2), .val (.int p3), .val (.ref b1), .unset, .unset, .unset, .unset, .unset, .unset]) rfl k) ?_
  show own_End p e below s _ _ _ (T32.setTop (mkF m 110 #[.val (.long p1), .second, .val (.int p2), .val (.int p3), .val (.ref b1), .unset, .unset, .unset, .unset, .unset, .unset] []))
  refine own_go (fun t k => XS.iloadN X32.here hx rfl (hb hby at_110) rfl k) ?_
  show own_End p e below s _ _ _ (T32.setTop (mkF m 111 #[.val (.long p1), .second, .val (.int p2), .val (.int p3), .val (.ref b1), .unset, .unset, .unset, .unset, .unset, .unset] [(.int p3)]))
  refine own_go (X32.ldcInt (own := "com/example/frage/frage/xdm/XmlCharactersIsCharacterPinLaw") (index := 41) (v := 2147483647) hx hown (mvT hZ (hw _ (List.mem_of_getElem? (i := 16) rfl))) (g := (mkF m 111 #[.val (.long p1), .second, .val (.int p2), .val (.int p3), .val (.ref b1), .unset, .unset, .unset, .unset, .unset, .unset] [(.int p3)])) rfl (hb hby at_111)) ?_
  show own_End p e below s _ _ _ (T32.setTop (mkF m 113 #[.val (.long p1), .second, .val (.int p2), .val (.int p3), .val (.ref b1), .unset, .unset, .unset, .unset, .unset, .unset] [(.int (2147483647 : Int32)), (.int p3)]))
  refine own_go (fun t k => XS.iand X32.here hx rfl (hb hby at_113) rfl k) ?_
  show own_End p e below s _ _ _ (T32.setTop (mkF m 114 #[.val (.long p1), .second, .val (.int p2), .val (.int p3), .val (.ref b1), .unset, .unset, .unset, .unset, .unset, .unset] [(.int (p3 &&& (2147483647 : Int32)))]))
  refine own_go (fun t k => XS.bipush X32.here hx rfl (hb hby at_114) k) ?_
  show own_End p e below s _ _ _ (T32.setTop (mkF m 116 #[.val (.long p1), .second, .val (.int p2), .val (.int p3), .val (.ref b1), .unset, .unset, .unset, .unset, .unset, .unset] [(.int (9 : Int32)), (.int (p3 &&& (2147483647 : Int32)))]))
  refine own_go (fun t k => XS.irem X32.here hx rfl (hb hby at_116) rfl (by decide) k) ?_
  show own_End p e below s _ _ _ (T32.setTop (mkF m 117 #[.val (.long p1), .second, .val (.int p2), .val (.int p3), .val (.ref b1), .unset, .unset, .unset, .unset, .unset, .unset] [(.int ((p3 &&& (2147483647 : Int32)) - ((p3 &&& (2147483647 : Int32)) / (9 : Int32)) * (9 : Int32)))]))
  rw [irem_eq_mod (p3 &&& (2147483647 : Int32)) (9 : Int32)]
  show own_End p e below s _ _ _ (T32.setTop (mkF m 117 #[.val (.long p1), .second, .val (.int p2), .val (.int p3), .val (.ref b1), .unset, .unset, .unset, .unset, .unset, .unset] [(.int ((p3 &&& (2147483647 : Int32)) % (9 : Int32)))]))
  refine own_go (fun t k => XS.iconst X32.here hx rfl (hb hby at_117) k) ?_
  show own_End p e below s _ _ _ (T32.setTop (mkF m 118 #[.val (.long p1), .second, .val (.int p2), .val (.int p3), .val (.ref b1), .unset, .unset, .unset, .unset, .unset, .unset] [(.int (4 : Int32)), (.int ((p3 &&& (2147483647 : Int32)) % (9 : Int32)))]))
  refine own_go (fun t k => XS.isub X32.here hx rfl (hb hby at_118) rfl k) ?_
  show own_End p e below s _ _ _ (T32.setTop (mkF m 119 #[.val (.long p1), .second, .val (.int p2), .val (.int p3), .val (.ref b1), .unset, .unset, .unset, .unset, .unset, .unset] [(.int (((p3 &&& (2147483647 : Int32)) % (9 : Int32)) - (4 : Int32)))]))
  obtain ⟨f34, qf34⟩ : ∃ z : Int32, z = (((p3 &&& (2147483647 : Int32)) % (9 : Int32)) - (4 : Int32)) := ⟨_, rfl⟩
  rw [← qf34]
  show own_End p e below s _ _ _ (T32.setTop (mkF m 119 #[.val (.long p1), .second, .val (.int p2), .val (.int p3), .val (.ref b1), .unset, .unset, .unset, .unset, .unset, .unset] [(.int f34)]))
  refine own_go (fun t k => XT.i2l X32.here hx rfl (hb hby at_119) rfl k) ?_
  show own_End p e below s _ _ _ (T32.setTop (mkF m 120 #[.val (.long p1), .second, .val (.int p2), .val (.int p3), .val (.ref b1), .unset, .unset, .unset, .unset, .unset, .unset] [(.long (f34.toInt64))]))
  refine own_go (fun t k => XT.lstore X32.here hx rfl (hb hby at_120) rfl (l' := #[.val (.long p1), .second, .val (.int p2), .val (.int p3), .val (.ref b1), .val (.long (f34.toInt64)), .second, .unset, .unset, .unset, .unset]) rfl k) ?_
  show own_End p e below s _ _ _ (T32.setTop (mkF m 122 #[.val (.long p1), .second, .val (.int p2), .val (.int p3), .val (.ref b1), .val (.long (f34.toInt64)), .second, .unset, .unset, .unset, .unset] []))
  refine own_go (fun t k => XS.aload X32.here hx rfl (hb hby at_122) rfl rfl k) ?_
  show own_End p e below s _ _ _ (T32.setTop (mkF m 124 #[.val (.long p1), .second, .val (.int p2), .val (.int p3), .val (.ref b1), .val (.long (f34.toInt64)), .second, .unset, .unset, .unset, .unset] [(.ref b1)]))
  refine own_go (fun t k => XS.iloadN X32.here hx rfl (hb hby at_124) rfl k) ?_
  show own_End p e below s _ _ _ (T32.setTop (mkF m 125 #[.val (.long p1), .second, .val (.int p2), .val (.int p3), .val (.ref b1), .val (.long (f34.toInt64)), .second, .unset, .unset, .unset, .unset] [(.int p2), (.ref b1)]))
  refine own_go (fun t k => XS.bipush X32.here hx rfl (hb hby at_125) k) ?_
  show own_End p e below s _ _ _ (T32.setTop (mkF m 127 #[.val (.long p1), .second, .val (.int p2), .val (.int p3), .val (.ref b1), .val (.long (f34.toInt64)), .second, .unset, .unset, .unset, .unset] [(.int (15 : Int32)), (.int p2), (.ref b1)]))
  refine own_go (fun t k => XS.iand X32.here hx rfl (hb hby at_127) rfl k) ?_
  show own_End p e below s _ _ _ (T32.setTop (mkF m 128 #[.val (.long p1), .second, .val (.int p2), .val (.int p3), .val (.ref b1), .val (.long (f34.toInt64)), .second, .unset, .unset, .unset, .unset] [(.int (p2 &&& (15 : Int32))), (.ref b1)]))
  have rix := c_and p2 15 (by decide)
  have r15 : (15 : Int32).toInt = 15 := by decide
  obtain ⟨x35, st35⟩ := own_ldJ X32 hx hZ e32 A32 (j := (p2 &&& (15 : Int32))) (by omega) (by omega) (pc := 128) (Ls := #[.val (.long p1), .second, .val (.int p2), .val (.int p3), .val (.ref b1), .val (.long (f34.toInt64)), .second, .unset, .unset, .unset, .unset]) (rest := []) (hb hby at_128)
  refine own_go st35 ?_
  show own_End p e below s _ _ _ (T32.setTop (mkF m 129 #[.val (.long p1), .second, .val (.int p2), .val (.int p3), .val (.ref b1), .val (.long (f34.toInt64)), .second, .unset, .unset, .unset, .unset] [(.long x35)]))
  refine own_go (fun t k => XT.lload X32.here hx rfl (hb hby at_129) rfl k) ?_
  show own_End p e below s _ _ _ (T32.setTop (mkF m 131 #[.val (.long p1), .second, .val (.int p2), .val (.int p3), .val (.ref b1), .val (.long (f34.toInt64)), .second, .unset, .unset, .unset, .unset] [(.long (f34.toInt64)), (.long x35)]))
  refine own_go (fun t k => XT.ladd X32.here hx rfl (hb hby at_131) rfl k) ?_
  show own_End p e below s _ _ _ (T32.setTop (mkF m 132 #[.val (.long p1), .second, .val (.int p2), .val (.int p3), .val (.ref b1), .val (.long (f34.toInt64)), .second, .unset, .unset, .unset, .unset] [(.long (x35 + (f34.toInt64)))]))
  obtain ⟨c36, qc36⟩ : ∃ z : Int64, z = (x35 + (f34.toInt64)) := ⟨_, rfl⟩
  rw [← qc36]
  show own_End p e below s _ _ _ (T32.setTop (mkF m 132 #[.val (.long p1), .second, .val (.int p2), .val (.int p3), .val (.ref b1), .val (.long (f34.toInt64)), .second, .unset, .unset, .unset, .unset] [(.long c36)]))
  refine own_go (fun t k => XT.lstore X32.here hx rfl (hb hby at_132) rfl (l' := #[.val (.long p1), .second, .val (.int p2), .val (.int p3), .val (.ref b1), .val (.long (f34.toInt64)), .second, .val (.long c36), .second, .unset, .unset]) rfl k) ?_
  show own_End p e below s _ _ _ (T32.setTop (mkF m 134 #[.val (.long p1), .second, .val (.int p2), .val (.int p3), .val (.ref b1), .val (.long (f34.toInt64)), .second, .val (.long c36), .second, .unset, .unset] []))
  refine own_go (fun t k => XT.lloadN X32.here hx rfl (hb hby at_134) rfl k) ?_
  show own_End p e below s _ _ _ (T32.setTop (mkF m 135 #[.val (.long p1), .second, .val (.int p2), .val (.int p3), .val (.ref b1), .val (.long (f34.toInt64)), .second, .val (.long c36), .second, .unset, .unset] [(.long p1)]))
  obtain ⟨v37, T37, L37, X37, hQ37, st37⟩ := own_callS X32 hx hZ (y := (⟨"com/example/frage/frage/xdm/XmlCharacters", "isCharacter", "(J)Z"⟩ : MethodName)) 0 hown (hw _ (List.mem_of_getElem? (i := 17) rfl)) (hw _ (List.mem_of_getElem? (i := 18) rfl)) (hw _ (List.mem_of_getElem? (i := 19) rfl)) (hw _ (List.mem_of_getElem? (i := 20) rfl)) (by decide) (rm1 l Z a0 hw [] p1 h32 n0 Z32) e32 (pc := 135) (Ls := #[.val (.long p1), .second, .val (.int p2), .val (.int p3), .val (.ref b1), .val (.long (f34.toInt64)), .second, .val (.long c36), .second, .unset, .unset]) [(.long p1)] [] (by rw [hml]; rfl) rfl rfl (lenOf pd_J_Z rfl) (Nat.le_of_eq rfl) (hb hby at_135) (by decide) (by decide) (by decide) (by decide)
  obtain ⟨rfl, Nc38, e38⟩ := hQ37
  have N38 := Fr.app N32 Nc38
  refine own_go st37 ?_
  show own_End p e below s _ _ _ (T37.setTop (mkF m 138 #[.val (.long p1), .second, .val (.int p2), .val (.int p3), .val (.ref b1), .val (.long (f34.toInt64)), .second, .val (.long c36), .second, .unset, .unset] [(.int (if own_ch p1.toInt then 1 else 0))]))
  refine own_go (fun t k => XT.lloadN X37.here hx rfl (hb hby at_138) rfl k) ?_
  show own_End p e below s _ _ _ (T37.setTop (mkF m 139 #[.val (.long p1), .second, .val (.int p2), .val (.int p3), .val (.ref b1), .val (.long (f34.toInt64)), .second, .val (.long c36), .second, .unset, .unset] [(.long p1), (.int (if own_ch p1.toInt then 1 else 0))]))
  obtain ⟨v39, T39, L39, X39, hQ39, st39⟩ := own_callS X37 hx hZ (y := (⟨"com/example/frage/frage/xdm/XmlCharactersIsCharacterPinLaw", "ref", "(J)Z"⟩ : MethodName)) 1 hown (hw _ (List.mem_of_getElem? (i := 27) rfl)) (hw _ (List.mem_of_getElem? (i := 28) rfl)) (hw _ (List.mem_of_getElem? (i := 29) rfl)) (hw _ (List.mem_of_getElem? (i := 30) rfl)) (by decide) (rm2 l Z a0 hw [] p1 h32 n0 Z32) e38 (pc := 139) (Ls := #[.val (.long p1), .second, .val (.int p2), .val (.int p3), .val (.ref b1), .val (.long (f34.toInt64)), .second, .val (.long c36), .second, .unset, .unset]) [(.long p1)] [(.int (if own_ch p1.toInt then 1 else 0))] (by rw [hml]; rfl) rfl rfl (lenOf pd_J_Z rfl) (Nat.le_of_eq rfl) (hb hby at_139) (by decide) (by decide) (by decide) (by decide)
  obtain ⟨rfl, Nc40, e40⟩ := hQ39
  have N40 := Fr.app N38 Nc40
  refine own_go st39 ?_
  show own_End p e below s _ _ _ (T39.setTop (mkF m 142 #[.val (.long p1), .second, .val (.int p2), .val (.int p3), .val (.ref b1), .val (.long (f34.toInt64)), .second, .val (.long c36), .second, .unset, .unset] [(.int (if own_ch p1.toInt then 1 else 0)), (.int (if own_ch p1.toInt then 1 else 0))]))
  refine own_go (fun t k => XS.icmpNo X39.here hx rfl (hb hby at_142) rfl (teq rfl).2 k) ?_
  show own_End p e below s _ _ _ (T39.setTop (mkF m 145 #[.val (.long p1), .second, .val (.int p2), .val (.int p3), .val (.ref b1), .val (.long (f34.toInt64)), .second, .val (.long c36), .second, .unset, .unset] []))
  refine own_go (fun t k => XS.iconst X39.here hx rfl (hb hby at_145) k) ?_
  show own_End p e below s _ _ _ (T39.setTop (mkF m 146 #[.val (.long p1), .second, .val (.int p2), .val (.int p3), .val (.ref b1), .val (.long (f34.toInt64)), .second, .val (.long c36), .second, .unset, .unset] [(.int (1 : Int32))]))
  refine own_go (fun t k => XS.goto X39.here hx rfl (pc0 := 146) (pc' := 150) rfl (hb hby at_146) (by decide) (by decide) k) ?_
  show own_End p e below s _ _ _ (T39.setTop (mkF m 150 #[.val (.long p1), .second, .val (.int p2), .val (.int p3), .val (.ref b1), .val (.long (f34.toInt64)), .second, .val (.long c36), .second, .unset, .unset] [(.int (1 : Int32))]))
  refine own_go (fun t k => XS.istore X39.here hx rfl (hb hby at_150) rfl (l' := #[.val (.long p1), .second, .val (.int p2), .val (.int p3), .val (.ref b1), .val (.long (f34.toInt64)), .second, .val (.long c36), .second, .val (.int (1 : Int32)), .unset]) rfl k) ?_
  show own_End p e below s _ _ _ (T39.setTop (mkF m 152 #[.val (.long p1), .second, .val (.int p2), .val (.int p3), .val (.ref b1), .val (.long (f34.toInt64)), .second, .val (.long c36), .second, .val (.int (1 : Int32)), .unset] []))
  refine own_go (fun t k => XT.lload X39.here hx rfl (hb hby at_152) rfl k) ?_
  show own_End p e below s _ _ _ (T39.setTop (mkF m 154 #[.val (.long p1), .second, .val (.int p2), .val (.int p3), .val (.ref b1), .val (.long (f34.toInt64)), .second, .val (.long c36), .second, .val (.int (1 : Int32)), .unset] [(.long c36)]))
  obtain ⟨v41, T41, L41, X41, hQ41, st41⟩ := own_callS X39 hx hZ (y := (⟨"com/example/frage/frage/xdm/XmlCharacters", "isCharacter", "(J)Z"⟩ : MethodName)) 0 hown (hw _ (List.mem_of_getElem? (i := 17) rfl)) (hw _ (List.mem_of_getElem? (i := 18) rfl)) (hw _ (List.mem_of_getElem? (i := 19) rfl)) (hw _ (List.mem_of_getElem? (i := 20) rfl)) (by decide) (rm1 l Z a0 hw [] c36 h32 n0 Z32) e40 (pc := 154) (Ls := #[.val (.long p1), .second, .val (.int p2), .val (.int p3), .val (.ref b1), .val (.long (f34.toInt64)), .second, .val (.long c36), .second, .val (.int (1 : Int32)), .unset]) [(.long c36)] [] (by rw [hml]; rfl) rfl rfl (lenOf pd_J_Z rfl) (Nat.le_of_eq rfl) (hb hby at_154) (by decide) (by decide) (by decide) (by decide)
  obtain ⟨rfl, Nc42, e42⟩ := hQ41
  have N42 := Fr.app N40 Nc42
  refine own_go st41 ?_
  show own_End p e below s _ _ _ (T41.setTop (mkF m 157 #[.val (.long p1), .second, .val (.int p2), .val (.int p3), .val (.ref b1), .val (.long (f34.toInt64)), .second, .val (.long c36), .second, .val (.int (1 : Int32)), .unset] [(.int (if own_ch c36.toInt then 1 else 0))]))
  refine own_go (fun t k => XT.lload X41.here hx rfl (hb hby at_157) rfl k) ?_
  show own_End p e below s _ _ _ (T41.setTop (mkF m 159 #[.val (.long p1), .second, .val (.int p2), .val (.int p3), .val (.ref b1), .val (.long (f34.toInt64)), .second, .val (.long c36), .second, .val (.int (1 : Int32)), .unset] [(.long c36), (.int (if own_ch c36.toInt then 1 else 0))]))
  obtain ⟨v43, T43, L43, X43, hQ43, st43⟩ := own_callS X41 hx hZ (y := (⟨"com/example/frage/frage/xdm/XmlCharactersIsCharacterPinLaw", "ref", "(J)Z"⟩ : MethodName)) 1 hown (hw _ (List.mem_of_getElem? (i := 27) rfl)) (hw _ (List.mem_of_getElem? (i := 28) rfl)) (hw _ (List.mem_of_getElem? (i := 29) rfl)) (hw _ (List.mem_of_getElem? (i := 30) rfl)) (by decide) (rm2 l Z a0 hw [] c36 h32 n0 Z32) e42 (pc := 159) (Ls := #[.val (.long p1), .second, .val (.int p2), .val (.int p3), .val (.ref b1), .val (.long (f34.toInt64)), .second, .val (.long c36), .second, .val (.int (1 : Int32)), .unset]) [(.long c36)] [(.int (if own_ch c36.toInt then 1 else 0))] (by rw [hml]; rfl) rfl rfl (lenOf pd_J_Z rfl) (Nat.le_of_eq rfl) (hb hby at_159) (by decide) (by decide) (by decide) (by decide)
  obtain ⟨rfl, Nc44, e44⟩ := hQ43
  have N44 := Fr.app N42 Nc44
  refine own_go st43 ?_
  show own_End p e below s _ _ _ (T43.setTop (mkF m 162 #[.val (.long p1), .second, .val (.int p2), .val (.int p3), .val (.ref b1), .val (.long (f34.toInt64)), .second, .val (.long c36), .second, .val (.int (1 : Int32)), .unset] [(.int (if own_ch c36.toInt then 1 else 0)), (.int (if own_ch c36.toInt then 1 else 0))]))
  refine own_go (fun t k => XS.icmpNo X43.here hx rfl (hb hby at_162) rfl (teq rfl).2 k) ?_
  show own_End p e below s _ _ _ (T43.setTop (mkF m 165 #[.val (.long p1), .second, .val (.int p2), .val (.int p3), .val (.ref b1), .val (.long (f34.toInt64)), .second, .val (.long c36), .second, .val (.int (1 : Int32)), .unset] []))
  refine own_go (fun t k => XS.iconst X43.here hx rfl (hb hby at_165) k) ?_
  show own_End p e below s _ _ _ (T43.setTop (mkF m 166 #[.val (.long p1), .second, .val (.int p2), .val (.int p3), .val (.ref b1), .val (.long (f34.toInt64)), .second, .val (.long c36), .second, .val (.int (1 : Int32)), .unset] [(.int (1 : Int32))]))
  refine own_go (fun t k => XS.goto X43.here hx rfl (pc0 := 166) (pc' := 170) rfl (hb hby at_166) (by decide) (by decide) k) ?_
  show own_End p e below s _ _ _ (T43.setTop (mkF m 170 #[.val (.long p1), .second, .val (.int p2), .val (.int p3), .val (.ref b1), .val (.long (f34.toInt64)), .second, .val (.long c36), .second, .val (.int (1 : Int32)), .unset] [(.int (1 : Int32))]))
  refine own_go (fun t k => XS.istore X43.here hx rfl (hb hby at_170) rfl (l' := #[.val (.long p1), .second, .val (.int p2), .val (.int p3), .val (.ref b1), .val (.long (f34.toInt64)), .second, .val (.long c36), .second, .val (.int (1 : Int32)), .val (.int (1 : Int32))]) rfl k) ?_
  show own_End p e below s _ _ _ (T43.setTop (mkF m 172 #[.val (.long p1), .second, .val (.int p2), .val (.int p3), .val (.ref b1), .val (.long (f34.toInt64)), .second, .val (.long c36), .second, .val (.int (1 : Int32)), .val (.int (1 : Int32))] []))
  refine own_go (fun t k => XS.iload X43.here hx rfl (hb hby at_172) rfl k) ?_
  show own_End p e below s _ _ _ (T43.setTop (mkF m 174 #[.val (.long p1), .second, .val (.int p2), .val (.int p3), .val (.ref b1), .val (.long (f34.toInt64)), .second, .val (.long c36), .second, .val (.int (1 : Int32)), .val (.int (1 : Int32))] [(.int (1 : Int32))]))
  refine own_go (fun t k => XS.ifNo X43.here hx rfl (hb hby at_174) rfl rfl k) ?_
  show own_End p e below s _ _ _ (T43.setTop (mkF m 177 #[.val (.long p1), .second, .val (.int p2), .val (.int p3), .val (.ref b1), .val (.long (f34.toInt64)), .second, .val (.long c36), .second, .val (.int (1 : Int32)), .val (.int (1 : Int32))] []))
  refine own_go (fun t k => XS.iload X43.here hx rfl (hb hby at_177) rfl k) ?_
  show own_End p e below s _ _ _ (T43.setTop (mkF m 179 #[.val (.long p1), .second, .val (.int p2), .val (.int p3), .val (.ref b1), .val (.long (f34.toInt64)), .second, .val (.long c36), .second, .val (.int (1 : Int32)), .val (.int (1 : Int32))] [(.int (1 : Int32))]))
  refine own_go (fun t k => XS.ifNo X43.here hx rfl (hb hby at_179) rfl rfl k) ?_
  show own_End p e below s _ _ _ (T43.setTop (mkF m 182 #[.val (.long p1), .second, .val (.int p2), .val (.int p3), .val (.ref b1), .val (.long (f34.toInt64)), .second, .val (.long c36), .second, .val (.int (1 : Int32)), .val (.int (1 : Int32))] []))
  refine own_go (fun t k => XS.iconst X43.here hx rfl (hb hby at_182) k) ?_
  show own_End p e below s _ _ _ (T43.setTop (mkF m 183 #[.val (.long p1), .second, .val (.int p2), .val (.int p3), .val (.ref b1), .val (.long (f34.toInt64)), .second, .val (.long c36), .second, .val (.int (1 : Int32)), .val (.int (1 : Int32))] [(.int (1 : Int32))]))
  refine own_go (fun t k => XS.goto X43.here hx rfl (pc0 := 183) (pc' := 187) rfl (hb hby at_183) (by decide) (by decide) k) ?_
  show own_End p e below s _ _ _ (T43.setTop (mkF m 187 #[.val (.long p1), .second, .val (.int p2), .val (.int p3), .val (.ref b1), .val (.long (f34.toInt64)), .second, .val (.long c36), .second, .val (.int (1 : Int32)), .val (.int (1 : Int32))] [(.int (1 : Int32))]))
  exact own_retN X43 hx (t := .boolean) hret hlk (by simp) (hb hby at_187) ⟨rfl, N44⟩ (by decide) (by decide)
set_option maxRecDepth 65536 in
set_option maxHeartbeats 40000000 in
theorem comes_1 {Post : Tables → Env → Array Value → State → Outcome → State → Prop} (hpost : ∀ tb e args s v u, (limb_1_1.after args s (.returned v) u = true ∧ limb_1_2.after args s (.returned v) u = true ∧ True) → FrameEnd s (.returned v) u (Jvm.fieldLocs frame_1_writes args s ++ Jvm.arrayLocs frame_1_arrays args s ++ Jvm.staticLocs frame_1_statics s) 16 128 → Post tb e args s (.returned v) u) :
    ArmFor flags0 classFile x code maxLocals ret World_1 tables_1 room_1 Calls_1 rest_1 Pre_1 Post := by
  intro l hfl _ _ p e ha hc hk s m args below hf hA hF happ hP
  obtain ⟨hcalls, hrest, hpre⟩ := hP
  obtain ⟨-, -, -, hnamed, -, -, -, hat⟩ := (Spec.applies_iff hf).mp happ
  obtain ⟨hg, hn⟩ := and_e (Cond.before_iff.mp (show (Jvm.Cond.and given_1 narrow_1).before args s = true from hpre))
  obtain ⟨g0, r0⟩ := and_e hg
  obtain ⟨g1, r1⟩ := and_e r0
  obtain ⟨g2, r2⟩ := and_e r1
  obtain ⟨w0, w1, w2, rfl⟩ : ∃ w0 w1 w2 : Value, args = #[w0, w1, w2] := by
    have hs : args.size = 3 := by simpa [Cond.value, given_1] using g0
    obtain ⟨L⟩ := args
    match L, hs with
    | [w0, w1, w2], _ => exact ⟨w0, w1, w2, rfl⟩
  have hw := fun d (hd : d ∈ tables_1) => atoms_spec (ws := Jvm.Cond.code x code maxLocals ret :: tables_1) hat d (List.mem_cons_of_mem _ hd)
  have hfit : Fit s := fun {y c} hc i hi => by
    obtain ⟨ha, rfl⟩ := Array.getElem?_eq_some_iff.mp hc
    have q := List.all_eq_true.mp ((Array.all_eq_true_iff_forall_mem.mp hF) _ (Array.getElem_mem ha)) i (List.mem_range.mpr hi)
    simpa [Array.getElem?_eq_getElem hi] using q
  obtain ⟨i0, ei0⟩ := isL_v g1
  obtain rfl : w0 = (.long i0) := Option.some.inj ei0
  obtain ⟨i1, ei1⟩ := is_v g2
  obtain rfl : w1 = (.int i1) := Option.some.inj ei1
  obtain ⟨i2, ei2⟩ := is_v r2
  obtain rfl : w2 = (.int i2) := Option.some.inj ei2
  obtain ⟨n, o, h1, h2, h3, _, L, rfl, ⟨rfl, N⟩, hq⟩ := rm0 l s _ hw tables_1 i0 i1 i2 s.heap s.heap.size (Nat.le_refl _)  p e ha hc hk s m _ below hf ((Spec.applies_iff_loose hf).mp happ).1 ⟨rfl, State.Warmed39.refl s, rfl⟩ trivial
  refine ⟨n, _, h1, h2, h3, hpost _ _ _ _ _ _ ⟨Cond.after_iff.mpr rfl, Cond.after_iff.mpr (eq_i res_at (Term.int_eval (1)) rfl), trivial⟩ ⟨hq.1, hq.2.1, (hq.2.2.sift fun y hy => Or.inr (N y hy)).mono (by decide) (by decide)⟩⟩
theorem main_1_1 : Claimed_1_1 := comes_1 fun _ _ _ _ _ _ h hF => ⟨h.1, hF⟩
theorem main_1_2 : Claimed_1_2 := comes_1 fun _ _ _ _ _ _ h hF => ⟨h.2.1, hF⟩
end Jvm.Pilot.@@N@@
namespace Jvm.Pilot.@@N@@
open Jvm Jvm.ClassFile Sem Op Lib Jvm.Free Jvm.Stand Jvm.Pilot.@@N@@.Jvm.D
/-! MADE BY PROGRAM (witnessworld.py) out of the Statement's table words and the real class files: 11 classes; the members and pool entries that the words name. The judged class is class 1, her method 2. -/
namespace start1
open Jvm.ClassFile
def u (s : String) : CpInfo := .utf8 (stringToUtf16 s)
/-- a pool by its gaps: so many unusable entries, then the entry; so many at the end -/
def gap : Nat → List CpInfo → List CpInfo
  | 0, r => r
  | n + 1, r => .unusable :: gap n r
def poolList (es : List (Nat × CpInfo)) (last : Nat) : List CpInfo := es.foldr (fun e r => gap e.1 (e.2 :: r)) (gap last [])
def pool (es : List (Nat × CpInfo)) (last : Nat) : Array CpInfo := ⟨poolList es last⟩
def fileOf (pool : Array CpInfo) (this : Nat) (attrs : Array Attribute := #[]) (ms : Array MethodInfo := #[]) (fl : Nat := 33) (sup : Nat := 0) (ifs : Array Nat := #[]) (fds : Array FieldInfo := #[]) : ClassFile where
  minorVersion := 0
  majorVersion := 65
  constantPool := pool
  accessFlags := fl
  thisClass := this
  superClass := sup
  interfaces := ifs
  fields := fds
  methods := ms
  attributes := attrs
def plain (name : String) (sup : Option ClassId) : Class where
  name := name
  kind := .ordinary
  loader := none
  accessFlags := 33
  super := sup
  interfaces := #[]
  cf := none
  fields := #[]
  methods := #[]
  instanceTypes := #[]
  staticTypes := #[]
  resolved := #[]
  callSites := []
  init := .initialized
  statics := none
  mirror := none

def pool0 : Array CpInfo := pool [(5, u "<init>"), (0, u "()V"), (1, .class_ 10), (1, u "java/lang/Object")] 113

def k0m0 : Method := { name := "<init>", desc := "()V", sig := { parameters := [], returnType := none }, accessFlags := 1, code := none }
/-- java/lang/Object -/
def k0 : Class := { plain "java/lang/Object" none with
  accessFlags := 33
  interfaces := #[]
  cf := some (fileOf pool0 8 #[] #[{ accessFlags := 1, nameIndex := 5, descriptorIndex := 6, attributes := #[] }] 33 0 #[] #[])
  fields := #[]
  methods := #[k0m0]
  instanceTypes := #[]
  staticTypes := #[]
  resolved := Array.replicate 124 none
  statics := none }

def pool1 : Array CpInfo := pool [(2, .class_ 4), (1, u "java/lang/Object"), (0, u "<init>"), (0, u "()V"), (0, .long 1114111), (1, .long 55296), (1, .long 57343), (1, .long 65534), (1, .long 65535), (1, .long 32), (1, .long 9), (1, .long 10), (1, .long 13), (1, .long 127), (1, .long 55295), (1, .long 57344), (1, .long 65533), (1, .long 65536), (1, .long 1114112), (1, .long 4294967305), (1, .long 18446744069414584330), (1, .integer 2147483647), (0, .methodref 43 44), (0, .class_ 45), (0, .nameAndType 46 47), (0, u "com/example/frage/frage/xdm/XmlCharacters"), (0, u "isCharacter"), (0, u "(J)Z"), (0, .methodref 49 50), (0, .class_ 51), (0, .nameAndType 52 47), (0, u "com/example/frage/frage/xdm/XmlCharactersIsCharacterPinLaw"), (0, u "ref"), (3, u "law"), (0, u "(JII)Z")] 4

def k1m0 : Method := { name := "<init>", desc := "()V", sig := { parameters := [], returnType := none }, accessFlags := 2, code := none }
def k1c1 : Code := { maxStack := 4, maxLocals := 2, code := method_2_code, exceptionTable := #[], attributes := #[] }
def k1m1 : Method := { name := "ref", desc := "(J)Z", sig := { parameters := [.long], returnType := some .boolean }, accessFlags := 10, code := some k1c1 }
def k1c2 : Code := { maxStack := 5, maxLocals := 11, code := code, exceptionTable := #[], attributes := #[] }
def k1m2 : Method := { name := "law", desc := "(JII)Z", sig := { parameters := [.long, .int, .int], returnType := some .boolean }, accessFlags := 9, code := some k1c2 }
/-- com/example/frage/frage/xdm/XmlCharactersIsCharacterPinLaw -/
def k1 : Class := { plain "com/example/frage/frage/xdm/XmlCharactersIsCharacterPinLaw" (some 0) with
  accessFlags := 49
  interfaces := #[]
  cf := some (fileOf pool1 49 #[] #[{ accessFlags := 2, nameIndex := 5, descriptorIndex := 6, attributes := #[] }, { accessFlags := 10, nameIndex := 52, descriptorIndex := 47, attributes := #[] }, { accessFlags := 9, nameIndex := 56, descriptorIndex := 57, attributes := #[] }] 49 2 #[] #[])
  fields := #[]
  methods := #[k1m0, k1m1, k1m2]
  instanceTypes := #[]
  staticTypes := #[]
  resolved := Array.replicate 62 none
  statics := none }

def pool2 : Array CpInfo := pool [(2, .class_ 4), (1, u "java/lang/Object"), (0, u "<init>"), (0, u "()V"), (0, .long 9), (1, .long 10), (1, .long 13), (1, .long 32), (1, .long 55295), (1, .long 57344), (1, .long 65533), (1, .long 65536), (1, .long 1114111), (12, .class_ 38), (1, u "com/example/frage/frage/xdm/XmlCharacters"), (63, u "isCharacter"), (0, u "(J)Z")] 10

def k2m0 : Method := { name := "<init>", desc := "()V", sig := { parameters := [], returnType := none }, accessFlags := 2, code := none }
def k2c1 : Code := { maxStack := 4, maxLocals := 2, code := prog_72_method_2_code, exceptionTable := #[], attributes := #[] }
def k2m1 : Method := { name := "isCharacter", desc := "(J)Z", sig := { parameters := [.long], returnType := some .boolean }, accessFlags := 9, code := some k2c1 }
/-- com/example/frage/frage/xdm/XmlCharacters -/
def k2 : Class := { plain "com/example/frage/frage/xdm/XmlCharacters" (some 0) with
  accessFlags := 49
  interfaces := #[]
  cf := some (fileOf pool2 36 #[] #[{ accessFlags := 2, nameIndex := 5, descriptorIndex := 6, attributes := #[] }, { accessFlags := 9, nameIndex := 102, descriptorIndex := 103, attributes := #[] }] 49 2 #[] #[])
  fields := #[]
  methods := #[k2m0, k2m1]
  instanceTypes := #[]
  staticTypes := #[]
  resolved := Array.replicate 114 none
  statics := none }

def pool3 : Array CpInfo := pool [(1, u "java/lang/Cloneable"), (0, .class_ 1), (0, u "java/lang/Object"), (0, .class_ 3)] 3

/-- java/lang/Cloneable -/
def k3 : Class := { plain "java/lang/Cloneable" (some 0) with
  accessFlags := 1537
  interfaces := #[]
  cf := some (fileOf pool3 2 #[] #[] 1537 4 #[] #[])
  fields := #[]
  methods := #[]
  instanceTypes := #[]
  staticTypes := #[]
  resolved := Array.replicate 8 none
  statics := none }

def pool4 : Array CpInfo := pool [(1, u "java/io/Serializable"), (0, .class_ 1), (0, u "java/lang/Object"), (0, .class_ 3)] 3

/-- java/io/Serializable -/
def k4 : Class := { plain "java/io/Serializable" (some 0) with
  accessFlags := 1537
  interfaces := #[]
  cf := some (fileOf pool4 2 #[] #[] 1537 4 #[] #[])
  fields := #[]
  methods := #[]
  instanceTypes := #[]
  staticTypes := #[]
  resolved := Array.replicate 8 none
  statics := none }

/-- the primitive byte -/
def k5 : Class := { plain "byte" none with kind := .primitive 'B', accessFlags := 0x411 }
/-- [B -/
def k6 : Class := { plain "[B" (some 0) with kind := .array 5 .byte, interfaces := #[3, 4], accessFlags := 1041 }

/-- the primitive int -/
def k7 : Class := { plain "int" none with kind := .primitive 'I', accessFlags := 0x411 }
/-- [I -/
def k8 : Class := { plain "[I" (some 0) with kind := .array 7 .int, interfaces := #[3, 4], accessFlags := 1041 }

/-- the primitive long -/
def k9 : Class := { plain "long" none with kind := .primitive 'J', accessFlags := 0x411 }
/-- [J -/
def k10 : Class := { plain "[J" (some 0) with kind := .array 9 .long, interfaces := #[3, 4], accessFlags := 1041 }

def heap : Heap := #[]
def classes : Array Class := #[k0, k1, k2, k3, k4, k5, k6, k7, k8, k9, k10]
def interned : List (Array UInt16 × Addr) := []
def slotsUsed : Nat := 0
def theMethod : MethodId := ⟨1, 2⟩
def args0 : Array Value := #[.long 5, .int 3, .int 7]
def aboutOver (below : List Frame) : State where
  vm := { classes := classes, interned := interned.toArray }
  heap := heap
  slotsUsed := slotsUsed
  threads := #[{ frames := .invoking theMethod args0 :: below }]
def below0 : List Frame := [.native { method := ⟨0, 0⟩, args := #[] }]
def about1 : State := aboutOver below0
def p0 : Program := .bare "" "" ""
def e0 : Env := launch0.env 0 0 0
theorem w_frames : about1.frames = Frame.invoking theMethod args0 :: below0 := rfl
set_option maxRecDepth 65536 in
theorem w_args : argsFit about1.vm theMethod args0 = true := by decide +kernel
set_option maxRecDepth 65536 in
theorem w_heap : heapFits about1 = true := by decide +kernel
set_option maxRecDepth 65536 in
theorem w_runnable : about1.curStatus? = some .runnable := by decide +kernel
set_option maxRecDepth 65536 in
theorem w_alone : about1.alone = true := by decide +kernel
set_option maxRecDepth 65536 in
theorem w_named : about1.methodNamed? x = some theMethod := by decide +kernel
set_option maxRecDepth 65536 in
theorem w_hears : about1.hears theMethod below0 = true := by decide +kernel
set_option maxRecDepth 65536 in
theorem w_ripe : about1.ripe theMethod args0 below0 = true := by decide +kernel
theorem w_running : about1.status = .running := rfl
set_option maxRecDepth 65536 in
theorem w_room : about1.hasRoom e0.platform room_1 = true :=
  launch0.hasRoom_least _ room_1 (by decide +kernel) (by decide +kernel) (by decide +kernel) (by decide +kernel) (by decide +kernel) (by decide +kernel)
theorem allAtoms_all (ts : List Jvm.Cond) (a : Array Jvm.Value) (st : Jvm.State) : (allAtoms ts).before a st = ts.all (fun c => c.before a st) := by
  induction ts with
  | nil => rfl
  | cons c t ih =>
    show (Jvm.Cond.and c (allAtoms t)).before a st = _
    rw [Jvm.Cond.before_and, ih, List.all_cons]
def words1 : List Jvm.Cond := Jvm.Cond.code x code maxLocals ret :: tables_1
/-- a 'code' word, met by the world's own term for the bytes: nothing is compared byte by byte -/
theorem code_word {y : MethodName} {bytes : ByteArray} {mx : Nat} {rt : Option FieldType} {a : Array Value} {s : State} {m : MethodId} {meth : Method} {c : Code} (h1 : s.methodNamed? y = some m) (h2 : s.vm.method? m = some meth) (h3 : meth.code = some c) (h4 : c.code = bytes)
    (h5 : (c.maxLocals == mx && c.exceptionTable.isEmpty && decide (c.maxStack ≤ mostOperands) && decide (meth.sig.returnType = rt) && !meth.locks && decide (parseMethodDescriptor y.desc = some meth.sig)) = true) : (Jvm.Cond.code y bytes mx rt).before a s = true := by
  simp only [Bool.and_eq_true, beq_iff_eq, Bool.not_eq_true', decide_eq_true_eq] at h5
  obtain ⟨⟨⟨⟨⟨g1, g2⟩, g3⟩, g4⟩, g5⟩, g6⟩ := h5
  simp [Cond.before, Cond.holds, Cond.value, h1, h2, h3, h4, g1, g2, g3, g4, g5, g6]
def isCode : Jvm.Cond → Bool
  | .code _ _ _ _ => true
  | _ => false
theorem all_split {L : List Jvm.Cond} {P : Jvm.Cond → Bool} (h1 : L.all (fun c => isCode c || P c) = true) (h2 : ∀ c ∈ L.filter isCode, P c = true) : L.all P = true := by
  refine List.all_eq_true.mpr fun c hc => ?_
  have h := List.all_eq_true.mp h1 c hc
  rcases Bool.eq_false_or_eq_true (isCode c) with hi | hi
  · exact h2 c (List.mem_filter.mpr ⟨hc, hi⟩)
  · simpa [hi] using h
set_option maxRecDepth 65536 in
theorem w_c0 : (Jvm.Cond.code x code maxLocals ret).before args0 about1 = true := code_word (m := ⟨1, 2⟩) (meth := k1m2) (c := k1c2) (by decide +kernel) rfl rfl rfl (by decide +kernel)
set_option maxRecDepth 65536 in
theorem w_c1 : (Jvm.Cond.code ({ cls := "com/example/frage/frage/xdm/XmlCharacters", name := "isCharacter", desc := "(J)Z" } : Jvm.MethodName) prog_72_method_2_code (2 : Nat) (Option.some Jvm.ClassFile.FieldType.boolean)).before args0 about1 = true := code_word (m := ⟨2, 1⟩) (meth := k2m1) (c := k2c1) (by decide +kernel) rfl rfl rfl (by decide +kernel)
set_option maxRecDepth 65536 in
theorem w_c2 : (Jvm.Cond.code ({ cls := "com/example/frage/frage/xdm/XmlCharactersIsCharacterPinLaw", name := "ref", desc := "(J)Z" } : Jvm.MethodName) method_2_code (2 : Nat) (Option.some Jvm.ClassFile.FieldType.boolean)).before args0 about1 = true := code_word (m := ⟨1, 1⟩) (meth := k1m1) (c := k1c1) (by decide +kernel) rfl rfl rfl (by decide +kernel)
def codes1 : List Jvm.Cond := [Jvm.Cond.code x code maxLocals ret, Jvm.Cond.code ({ cls := "com/example/frage/frage/xdm/XmlCharacters", name := "isCharacter", desc := "(J)Z" } : Jvm.MethodName) prog_72_method_2_code (2 : Nat) (Option.some Jvm.ClassFile.FieldType.boolean), Jvm.Cond.code ({ cls := "com/example/frage/frage/xdm/XmlCharactersIsCharacterPinLaw", name := "ref", desc := "(J)Z" } : Jvm.MethodName) method_2_code (2 : Nat) (Option.some Jvm.ClassFile.FieldType.boolean)]
set_option maxRecDepth 65536 in
theorem codes_eq : words1.filter isCode = codes1 := rfl
theorem w_codes : ∀ c ∈ words1.filter isCode, c.before args0 about1 = true := by
  rw [codes_eq]
  intro c hc
  simp only [codes1, List.mem_cons, List.not_mem_nil, or_false] at hc
  rcases hc with rfl | rfl | rfl
  · exact w_c0
  · exact w_c1
  · exact w_c2
set_option maxRecDepth 65536 in
theorem w_t1 : (words1.take 24).all (fun c => isCode c || c.before args0 about1) = true := by decide +kernel
set_option maxRecDepth 65536 in
theorem w_t2 : (words1.drop 24).all (fun c => isCode c || c.before args0 about1) = true := by decide +kernel
theorem w_tables : (allAtoms (Jvm.Cond.code x code maxLocals ret :: tables_1)).before args0 about1 = true := by
  rw [allAtoms_all]
  show words1.all (fun c => c.before args0 about1) = true
  refine all_split ?_ w_codes
  rw [← List.take_append_drop 24 words1, List.all_append, w_t1, w_t2]
  rfl
set_option maxRecDepth 65536 in
theorem w_case : (Jvm.Cond.and given_1 narrow_1).before args0 about1 = true := by decide +kernel
theorem w_applies : (headSpec (Jvm.Cond.code x code maxLocals ret :: tables_1) room_1).applies x e0.platform about1 = true :=
  (Spec.applies_iff w_frames).mpr ⟨w_running, w_runnable, w_alone, w_named, w_hears, w_ripe, w_room, w_tables⟩
theorem atStart : AtStart classFile x code maxLocals ret World_1 tables_1 room_1 Calls_1 rest_1 Pre_1 launch0 p0 e0 about1 theMethod args0 below0 :=
  ⟨lists_1, trivial, launch0.admits_env _ _ _, launch0.least_env, fairChoices_fair.cas, fairChoices_fair.clock, w_frames, w_args, w_heap, w_applies, trivial, trivial, w_case⟩
end start1
theorem witness_1 : WitnessClaimed_1 := ⟨start1.p0, start1.e0, start1.about1, start1.theMethod, start1.args0, start1.below0, start1.atStart⟩
end Jvm.Pilot.@@N@@
