import JvmDerived
import JvmDerived.Pilot.@@N@@Statement
import JvmDerived.Pilot.@@N@@Code
set_option linter.unusedVariables false
set_option linter.unusedSimpArgs false
namespace Jvm.Pilot.@@N@@
open Jvm Jvm.ClassFile Sem Op Lib Jvm.Free Jvm.Stand Jvm.LawKit Jvm.RoadKit Bundle Jvm.Pilot.@@N@@.Jvm.D
/-! own kit, part 1: what a walk still owes, as a predicate on the state it stands at -/
section Own
variable {p : Program} {l : Launch} {e : Env} {R : Room} {s : State} {m : MethodId} {args : Array Value} {below : List Frame} {meth : Method} {c : Code} {T : State} {locs : List Loc} {cells slots : Nat} {Z : State} {a0 : Array Value} {h : Heap} {Q : Option Value → Heap → List Loc → Prop} {kc ks : Nat}
def own_End (p : Program) (e : Env) (below : List Frame) (s : State) (Q : Option Value → Heap → List Loc → Prop) (kc ks : Nat) (A : State) : Prop :=
  ∃ s₂ o, Steps p.tables e below A s₂ ∧ s₂.status = .running ∧ Ended s₂ below o ∧ ∃ v L, o = .returned v ∧ Q v s₂.heap L ∧ FrameEnd s o s₂ L kc ks
theorem own_go {A B : State} (h : ∀ t, Steps p.tables e below B t → Steps p.tables e below A t) (k : own_End p e below s Q kc ks B) : own_End p e below s Q kc ks A := by
  obtain ⟨s₂, o, h1, r⟩ := k
  exact ⟨s₂, o, h _ h1, r⟩
/-- a word on 'what is owed' is shown first and used behind -/
theorem own_join {A : State} (F : (State → Prop) → Prop) (h1 : F (own_End p e below s Q kc ks)) (h2 : F (own_End p e below s Q kc ks) → own_End p e below s Q kc ks A) : own_End p e below s Q kc ks A := h2 h1
abbrev own_Met (l : Launch) (y : MethodName) (bytes : ByteArray) (maxL : Nat) (rt : Option FieldType) (ws : List Jvm.Cond) (rm : Room) (as' : Array Value) (Z : State) (h0 : Heap) (Q : Option Value → Heap → List Loc → Prop) : Prop :=
  MetFree l y (head1 (Jvm.Cond.code y bytes maxL rt :: ws) rm) (fun a U => a = as' ∧ Z.Warmed39 U.vm ∧ U.heap = h0) (fun _ _ _ _ _ => True) (fun _ U o U' => ∃ v L, o = .returned v ∧ Q v U'.heap L ∧ FrameEnd U o U' L rm.cells rm.slots)
theorem own_body {y : MethodName} {bytes : ByteArray} {maxL : Nat} {rt : Option FieldType} {ws : List Jvm.Cond} {rm : Room} {as' : Array Value} {h0 : Heap} (pn : plainFor y = true)
    (body : ∀ (p : Program) (e : Env) (s : State) (m : MethodId) (below : List Frame) (meth : Method) (c : Code) (s₁ : State), Stand p l e rm s m as' below meth c s₁ [] 0 0 → p.tables.exec = Jvm.exec → c.code = bytes → c.maxLocals = maxL → meth.sig.returnType = rt → meth.locks = false → s.vm.findClass y.cls = some m.cls → meth.name = y.name → Z.Warmed39 s.vm → s₁.heap = h0 → own_End p e below s Q rm.cells rm.slots (s₁.setTop (entryFrame m as' maxL))) :
    own_Met l y bytes maxL rt ws rm as' Z h0 Q := by
  refine MetFree.of_bodySF pn hisR ?_
  intro p e s m args below meth c s₁ Bd hml0 hP hK
  obtain ⟨rfl, hZ, hh⟩ := hP
  exact body p e s m below meth c s₁ (Stand.of_body Bd) Bd.exec Bd.bytes hml0 Bd.returns Bd.notSynchronized (findClass_of_methodNamed Bd.named) (name_of_methodNamed Bd.named Bd.method).1 hZ (by rw [← hh, Bd.state]; rfl)
theorem own_retN (X : Stand p l e R s m args below meth c T locs cells slots) (hx : p.tables.exec = Jvm.exec) {t : FieldType} (hret : meth.sig.returnType = some t) (hlk : meth.locks = false) (ht : t = .boolean ∨ t = .byte ∨ t = .char ∨ t = .short) {pc : Nat} {Ls : Array Slot} {z : Int32} {rest : List Value} (hd : decode c.code pc = .ok (.ireturn, 1)) (hq : Q (some (.int (nar t z))) T.heap locs) (h1 : cells ≤ kc) (h2 : slots ≤ ks) :
    own_End p e below s Q kc ks (T.setTop (mkF m pc Ls (.int z :: rest))) := by
  obtain ⟨fs, hr, hrun, hended, hW, hsame⟩ := X.leave (v := some (.int (nar t z))) (fun h => by rw [hret] at h; cases h) hlk
  exact ⟨_, _, retN X hx hret ht hd hr, hrun, hended, _, _, rfl, hq, ⟨_, rfl⟩, hW, hsame.mono h1 h2⟩
theorem own_retI (X : Stand p l e R s m args below meth c T locs cells slots) (hx : p.tables.exec = Jvm.exec) (hret : meth.sig.returnType = some .int) (hlk : meth.locks = false) {pc : Nat} {Ls : Array Slot} {z : Int32} {rest : List Value} (hd : decode c.code pc = .ok (.ireturn, 1)) (hq : Q (some (.int z)) T.heap locs) (h1 : cells ≤ kc) (h2 : slots ≤ ks) :
    own_End p e below s Q kc ks (T.setTop (mkF m pc Ls (.int z :: rest))) := by
  obtain ⟨fs, hr, hrun, hended, hW, hsame⟩ := X.leave (v := some (.int z)) (fun h => by rw [hret] at h; cases h) hlk
  exact ⟨_, _, retOut X hx hret rfl (Or.inl ⟨rfl, Or.inl rfl, z, rfl⟩) hd hr, hrun, hended, _, _, rfl, hq, ⟨_, rfl⟩, hW, hsame.mono h1 h2⟩
theorem own_retJ (X : Stand p l e R s m args below meth c T locs cells slots) (hx : p.tables.exec = Jvm.exec) (hret : meth.sig.returnType = some .long) (hlk : meth.locks = false) {pc : Nat} {Ls : Array Slot} {z : Int64} {rest : List Value} (hd : decode c.code pc = .ok (.lreturn, 1)) (hq : Q (some (.long z)) T.heap locs) (h1 : cells ≤ kc) (h2 : slots ≤ ks) :
    own_End p e below s Q kc ks (T.setTop (mkF m pc Ls (.long z :: rest))) := by
  obtain ⟨fs, hr, hrun, hended, hW, hsame⟩ := X.leave (v := some (.long z)) (fun h => by rw [hret] at h; cases h) hlk
  exact ⟨_, _, retOut X hx hret rfl (Or.inr (Or.inl ⟨rfl, rfl, z, rfl⟩)) hd hr, hrun, hended, _, _, rfl, hq, ⟨_, rfl⟩, hW, hsame.mono h1 h2⟩
theorem own_retA (X : Stand p l e R s m args below meth c T locs cells slots) (hx : p.tables.exec = Jvm.exec) {t : FieldType} (ht : t.isReference = true) (hret : meth.sig.returnType = some t) (hlk : meth.locks = false) {pc : Nat} {Ls : Array Slot} {b : Addr} (hd : decode c.code pc = .ok (.areturn, 1)) (hq : Q (some (.ref b)) T.heap locs) (h1 : cells ≤ kc) (h2 : slots ≤ ks) :
    own_End p e below s Q kc ks (T.setTop (mkF m pc Ls [.ref b])) := by
  obtain ⟨fs, hr, hrun, hended, hW, hsame⟩ := X.leave (v := some (.ref b)) (fun h => by rw [hret] at h; cases h) hlk
  exact ⟨_, _, X.areturnOut hx rfl hret ht hd hr, hrun, hended, _, _, rfl, hq, ⟨_, rfl⟩, hW, hsame.mono h1 h2⟩
theorem own_ret (X : Stand p l e R s m args below meth c T locs cells slots) (hx : p.tables.exec = Jvm.exec) (hret : meth.sig.returnType = none) (hlk : meth.locks = false) {pc : Nat} {Ls : Array Slot} (hd : decode c.code pc = .ok (.return_, 1)) (hq : Q none T.heap locs) (h1 : cells ≤ kc) (h2 : slots ≤ ks) :
    own_End p e below s Q kc ks (T.setTop (mkF m pc Ls [])) := by
  obtain ⟨fs, hr, hrun, hended, hW, hsame⟩ := X.leave (v := none) (fun _ => rfl) hlk
  exact ⟨_, _, X.returnOut hx hret hd hr, hrun, hended, _, _, rfl, hq, ⟨_, rfl⟩, hW, hsame.mono h1 h2⟩
/-! own kit, part 2: calls by a callee's contract -/
theorem own_callS (X : Stand p l e R s m args below meth c T locs cells slots) (hx : p.tables.exec = Jvm.exec) (hZ : Z.Warmed39 s.vm) {own : String} {index : Nat} {y : MethodName} {bytes : ByteArray} {maxL : Nat} {rt : Option FieldType} {rm : Room} {as' : Array Value} {Qc : Option Value → Heap → List Loc → Prop} (W : Nat)
    (hown : s.vm.findClass own = some m.cls) (w1 : (Cond.methodLink own index y).before a0 Z = true) (w2 : (Cond.static y).before a0 Z = true) (w3 : (Cond.initialized y.cls).before a0 Z = true) (w4 : (Cond.code y bytes maxL rt).before a0 Z = true)
    (hy : y.cls ≠ "java/lang/invoke/MethodHandle" ∧ y.cls ≠ "java/lang/invoke/VarHandle") (hM : own_Met l y bytes maxL rt [] rm as' Z h Qc) (eT : T.heap = h)
    {pc : Nat} {Ls : Array Slot} {st : List Value} (argsL rest : List Value) (hsize : Ls.size = c.maxLocals) (hst : st = argsL.reverse ++ rest) (has : argsL.toArray = as') (hlen : ∀ sig, parseMethodDescriptor y.desc = some sig → argsL.length = sig.parameters.length)
    (hW : (rest.map fun v => v.category).sum ≤ W) (hd : decode c.code pc = .ok (.invokestatic index, 3)) (hf : rm.frames + 1 ≤ R.frames) (hl : W + (maxL + 11) + rm.locals ≤ R.locals) (hc : cells + rm.cells ≤ R.cells) (hs : slots + rm.slots ≤ R.slots) :
    ∃ v T' L, Stand p l e R s m args below meth c T' (locs ++ L) (cells + rm.cells) (slots + rm.slots) ∧ Qc v T'.heap L ∧ ∀ t, Steps p.tables e below (T'.setTop (mkF m (pc + 3) Ls (v.toList ++ rest))) t → Steps p.tables e below (T.setTop (mkF m pc Ls st)) t := by
  obtain ⟨v, vm1, ⟨T', L', k', n'⟩, -, X', ⟨L, hQ, l1, y1, z1⟩, st'⟩ := Jvm.LawKit.callS X hx (y := y) hown (mvT hZ w1) (mvT hZ w2) (mvT hZ w3) (mvT hZ w4) hy (backOf (W := W) hM hZ w4 w3 hf hl) (g := mkF m pc Ls st) rfl hsize (argsL := argsL) (rest := rest) hlen hst (by show 2 * 0 + _ ≤ _; omega) hd (fun _ _ => ⟨has, eT, hc, hs⟩)
  dsimp only [Pt.U, Pt.locs, Pt.cells, Pt.slots] at X' l1 y1 z1 st' hQ
  subst l1 y1 z1
  exact ⟨v, T', L, X', hQ, st'⟩
theorem own_callV (X : Stand p l e R s m args below meth c T locs cells slots) (hx : p.tables.exec = Jvm.exec) (hZ : Z.Warmed39 s.vm) {own C : String} {index : Nat} {y : MethodName} {bytes : ByteArray} {maxL : Nat} {rt : Option FieldType} {rm : Room} {as' : Array Value} {Qc : Option Value → Heap → List Loc → Prop} (W : Nat)
    (hown : s.vm.findClass own = some m.cls) (w1 : (Cond.methodLink own index y).before a0 Z = true) (w2 : (Cond.declares y).before a0 Z = true) (w3 : (Cond.selects C y y).before a0 Z = true) (w4 : (Cond.instanceMethod y).before a0 Z = true) (w5 : (Cond.initialized y.cls).before a0 Z = true) (w6 : (Cond.code y bytes maxL rt).before a0 Z = true)
    (hy : y.cls ≠ "java/lang/invoke/MethodHandle" ∧ y.cls ≠ "java/lang/invoke/VarHandle") (hM : own_Met l y bytes maxL rt [] rm as' Z h Qc) (eT : T.heap = h) {b : Addr} (E : Exa Z h b C)
    {pc : Nat} {Ls : Array Slot} {st : List Value} (argsL rest : List Value) (hsize : Ls.size = c.maxLocals) (hst : st = argsL.reverse ++ .ref b :: rest) (has : (.ref b :: argsL).toArray = as') (hlen : ∀ sig, parseMethodDescriptor y.desc = some sig → argsL.length = sig.parameters.length)
    (hW : (rest.map fun v => v.category).sum ≤ W) (hd : decode c.code pc = .ok (.invokevirtual index, 3)) (hf : rm.frames + 1 ≤ R.frames) (hl : W + (maxL + 11) + rm.locals ≤ R.locals) (hc : cells + rm.cells ≤ R.cells) (hs : slots + rm.slots ≤ R.slots) :
    ∃ v T' L, Stand p l e R s m args below meth c T' (locs ++ L) (cells + rm.cells) (slots + rm.slots) ∧ Qc v T'.heap L ∧ ∀ t, Steps p.tables e below (T'.setTop (mkF m (pc + 3) Ls (v.toList ++ rest))) t → Steps p.tables e below (T.setTop (mkF m pc Ls st)) t := by
  obtain ⟨cq, kq, q1, q2, q3⟩ := isOf hZ eT E
  obtain ⟨v, vm1, ⟨T', L', k', n'⟩, -, X', ⟨L, hQ, l1, y1, z1⟩, st'⟩ := X.virtualBack hx (y := y) (z := y) hown (mvT hZ w1) (mvT hZ w2) (notFace_of_selects (args := #[]) (mvT hZ w3)) (mvT hZ w3) (mvT hZ w4) hy (backOf (W := W) hM hZ w6 w5 hf hl) q1 q3 (g := mkF m pc Ls st) rfl hsize (Steps.refl _) (argsL := argsL) (rest := rest) hlen hst (by show 2 * 0 + _ ≤ _; omega) hd (fun _ _ => ⟨has, eT, hc, hs⟩)
  dsimp only [Pt.U, Pt.locs, Pt.cells, Pt.slots] at X' l1 y1 z1 st' hQ
  subst l1 y1 z1
  exact ⟨v, T', L, X', hQ, fun t k => st'.trans k⟩
theorem own_callI (X : Stand p l e R s m args below meth c T locs cells slots) (hx : p.tables.exec = Jvm.exec) (hZ : Z.Warmed39 s.vm) {own : String} {index : Nat} {y : MethodName} {bytes : ByteArray} {maxL : Nat} {rm : Room} {as' : Array Value} {Qc : Option Value → Heap → List Loc → Prop} (W : Nat) (hi : y.name = "<init>")
    (hown : s.vm.findClass own = some m.cls) (w1 : (Cond.methodLink own index y).before a0 Z = true) (w4 : (Cond.instanceMethod y).before a0 Z = true) (w5 : (Cond.initialized y.cls).before a0 Z = true) (w6 : (Cond.code y bytes maxL none).before a0 Z = true)
    (hy : y.cls ≠ "java/lang/invoke/MethodHandle" ∧ y.cls ≠ "java/lang/invoke/VarHandle") (hM : own_Met l y bytes maxL none [] rm as' Z h Qc) (eT : T.heap = h) {b : Addr}
    {pc : Nat} {Ls : Array Slot} {st : List Value} (argsL rest : List Value) (hsize : Ls.size = c.maxLocals) (hst : st = argsL.reverse ++ .ref b :: rest) (has : (.ref b :: argsL).toArray = as') (hlen : ∀ sig, parseMethodDescriptor y.desc = some sig → argsL.length = sig.parameters.length)
    (hW : (rest.map fun v => v.category).sum ≤ W) (hd : decode c.code pc = .ok (.invokespecial index, 3)) (hf : rm.frames + 1 ≤ R.frames) (hl : W + (maxL + 11) + rm.locals ≤ R.locals) (hc : cells + rm.cells ≤ R.cells) (hs : slots + rm.slots ≤ R.slots) :
    ∃ v T' L, Stand p l e R s m args below meth c T' (locs ++ L) (cells + rm.cells) (slots + rm.slots) ∧ Qc v T'.heap L ∧ ∀ t, Steps p.tables e below (T'.setTop (mkF m (pc + 3) Ls (v.toList ++ rest))) t → Steps p.tables e below (T.setTop (mkF m pc Ls st)) t := by
  obtain ⟨v, vm1, ⟨T', L', k', n'⟩, -, X', ⟨L, hQ, l1, y1, z1⟩, st'⟩ := X.specialBack hx (y := y) hi hown (mvT hZ w1) (mvT hZ w4) (mvT hZ w6) hy (backOf (W := W) hM hZ w6 w5 hf hl) (g := mkF m pc Ls st) rfl hsize (Steps.refl _) (a := b) (argsL := argsL) (rest := rest) hlen hst (by show 2 * 0 + _ ≤ _; omega) hd (fun _ _ => ⟨has, eT, hc, hs⟩)
  dsimp only [Pt.U, Pt.locs, Pt.cells, Pt.slots] at X' l1 y1 z1 st' hQ
  subst l1 y1 z1
  exact ⟨v, T', L, X', hQ, fun t k => st'.trans k⟩
/-! own kit, part 3: comparisons, said of the numbers -/
theorem own_ltY {x y : Int32} {k : Int} (hy : y.toInt = k) (q : x.toInt < k) : if_icmp.holds .lt x y = true := (tlt (Int32.lt_iff_toInt_lt.mpr (by omega))).1
theorem own_ltN {x y : Int32} {k : Int} (hy : y.toInt = k) (q : ¬ x.toInt < k) : if_icmp.holds .lt x y = false := (flt (fun z => q (by have := Int32.lt_iff_toInt_lt.mp z; omega))).1
theorem own_geY {x y : Int32} {k : Int} (hy : y.toInt = k) (q : k ≤ x.toInt) : if_icmp.holds .ge x y = true := (flt (fun z => by have := Int32.lt_iff_toInt_lt.mp z; omega)).2.1
theorem own_geN {x y : Int32} {k : Int} (hy : y.toInt = k) (q : ¬ k ≤ x.toInt) : if_icmp.holds .ge x y = false := (tlt (Int32.lt_iff_toInt_lt.mpr (by omega))).2.1
theorem own_gtY {x y : Int32} {k : Int} (hy : y.toInt = k) (q : k < x.toInt) : if_icmp.holds .gt x y = true := (tlt (x := y) (y := x) (Int32.lt_iff_toInt_lt.mpr (by omega))).2.2.1
theorem own_gtN {x y : Int32} {k : Int} (hy : y.toInt = k) (q : ¬ k < x.toInt) : if_icmp.holds .gt x y = false := (flt (x := y) (y := x) (fun z => q (by have := Int32.lt_iff_toInt_lt.mp z; omega))).2.2.1
theorem own_leY {x y : Int32} {k : Int} (hy : y.toInt = k) (q : x.toInt ≤ k) : if_icmp.holds .le x y = true := (flt (x := y) (y := x) (fun z => by have := Int32.lt_iff_toInt_lt.mp z; omega)).2.2.2
theorem own_leN {x y : Int32} {k : Int} (hy : y.toInt = k) (q : ¬ x.toInt ≤ k) : if_icmp.holds .le x y = false := (tlt (x := y) (y := x) (Int32.lt_iff_toInt_lt.mpr (by omega))).2.2.2
theorem own_eqY {x y : Int32} {k : Int} (hy : y.toInt = k) (q : x.toInt = k) : if_icmp.holds .eq x y = true := (teq (Int32.toInt_inj.mp (by omega))).1
theorem own_eqN {x y : Int32} {k : Int} (hy : y.toInt = k) (q : ¬ x.toInt = k) : if_icmp.holds .eq x y = false := (feq (fun z => q (by rw [z]; exact hy))).1
theorem own_neY {x y : Int32} {k : Int} (hy : y.toInt = k) (q : ¬ x.toInt = k) : if_icmp.holds .ne x y = true := (feq (fun z => q (by rw [z]; exact hy))).2
theorem own_neN {x y : Int32} {k : Int} (hy : y.toInt = k) (q : ¬ ¬ x.toInt = k) : if_icmp.holds .ne x y = false := (teq (Int32.toInt_inj.mp (by omega))).2
theorem own_0 {cd : ClassFile.Cond} {x : Int32} {b : Bool} (q : if_icmp.holds cd x 0 = b) : ifCond.holds cd x = b := (if0 cd x).trans q
theorem own_cmp (x y : Int64) : (x.toInt < y.toInt ∧ XT.cmpL x y = -1) ∨ (x.toInt = y.toInt ∧ XT.cmpL x y = 0) ∨ (y.toInt < x.toInt ∧ XT.cmpL x y = 1) := by
  unfold XT.cmpL
  by_cases h1 : y < x
  · exact Or.inr (Or.inr ⟨Int64.lt_iff_toInt_lt.mp h1, if_pos h1⟩)
  · by_cases h2 : x = y
    · exact Or.inr (Or.inl ⟨by rw [h2], by rw [if_neg h1, if_pos h2]⟩)
    · refine Or.inl ⟨?_, by rw [if_neg h1, if_neg h2]⟩
      have q1 : ¬ y.toInt < x.toInt := fun z => h1 (Int64.lt_iff_toInt_lt.mpr z)
      have q2 : ¬ x.toInt = y.toInt := fun z => h2 (Int64.toInt_inj.mp z)
      omega
theorem own_lltY {x y : Int64} {k : Int} (hy : y.toInt = k) (q : x.toInt < k) : ifCond.holds .lt (XT.cmpL x y) = true := by rcases own_cmp x y with ⟨h, e⟩ | ⟨h, e⟩ | ⟨h, e⟩ <;> first | (exfalso; omega) | (rw [e]; decide)
theorem own_lltN {x y : Int64} {k : Int} (hy : y.toInt = k) (q : ¬ x.toInt < k) : ifCond.holds .lt (XT.cmpL x y) = false := by rcases own_cmp x y with ⟨h, e⟩ | ⟨h, e⟩ | ⟨h, e⟩ <;> first | (exfalso; omega) | (rw [e]; decide)
theorem own_lgeY {x y : Int64} {k : Int} (hy : y.toInt = k) (q : k ≤ x.toInt) : ifCond.holds .ge (XT.cmpL x y) = true := by rcases own_cmp x y with ⟨h, e⟩ | ⟨h, e⟩ | ⟨h, e⟩ <;> first | (exfalso; omega) | (rw [e]; decide)
theorem own_lgeN {x y : Int64} {k : Int} (hy : y.toInt = k) (q : ¬ k ≤ x.toInt) : ifCond.holds .ge (XT.cmpL x y) = false := by rcases own_cmp x y with ⟨h, e⟩ | ⟨h, e⟩ | ⟨h, e⟩ <;> first | (exfalso; omega) | (rw [e]; decide)
theorem own_lgtY {x y : Int64} {k : Int} (hy : y.toInt = k) (q : k < x.toInt) : ifCond.holds .gt (XT.cmpL x y) = true := by rcases own_cmp x y with ⟨h, e⟩ | ⟨h, e⟩ | ⟨h, e⟩ <;> first | (exfalso; omega) | (rw [e]; decide)
theorem own_lgtN {x y : Int64} {k : Int} (hy : y.toInt = k) (q : ¬ k < x.toInt) : ifCond.holds .gt (XT.cmpL x y) = false := by rcases own_cmp x y with ⟨h, e⟩ | ⟨h, e⟩ | ⟨h, e⟩ <;> first | (exfalso; omega) | (rw [e]; decide)
theorem own_lleY {x y : Int64} {k : Int} (hy : y.toInt = k) (q : x.toInt ≤ k) : ifCond.holds .le (XT.cmpL x y) = true := by rcases own_cmp x y with ⟨h, e⟩ | ⟨h, e⟩ | ⟨h, e⟩ <;> first | (exfalso; omega) | (rw [e]; decide)
theorem own_lleN {x y : Int64} {k : Int} (hy : y.toInt = k) (q : ¬ x.toInt ≤ k) : ifCond.holds .le (XT.cmpL x y) = false := by rcases own_cmp x y with ⟨h, e⟩ | ⟨h, e⟩ | ⟨h, e⟩ <;> first | (exfalso; omega) | (rw [e]; decide)
theorem own_leqY {x y : Int64} {k : Int} (hy : y.toInt = k) (q : x.toInt = k) : ifCond.holds .eq (XT.cmpL x y) = true := by rcases own_cmp x y with ⟨h, e⟩ | ⟨h, e⟩ | ⟨h, e⟩ <;> first | (exfalso; omega) | (rw [e]; decide)
theorem own_leqN {x y : Int64} {k : Int} (hy : y.toInt = k) (q : ¬ x.toInt = k) : ifCond.holds .eq (XT.cmpL x y) = false := by rcases own_cmp x y with ⟨h, e⟩ | ⟨h, e⟩ | ⟨h, e⟩ <;> first | (exfalso; omega) | (rw [e]; decide)
theorem own_lneY {x y : Int64} {k : Int} (hy : y.toInt = k) (q : ¬ x.toInt = k) : ifCond.holds .ne (XT.cmpL x y) = true := by rcases own_cmp x y with ⟨h, e⟩ | ⟨h, e⟩ | ⟨h, e⟩ <;> first | (exfalso; omega) | (rw [e]; decide)
theorem own_lneN {x y : Int64} {k : Int} (hy : y.toInt = k) (q : ¬ ¬ x.toInt = k) : ifCond.holds .ne (XT.cmpL x y) = false := by rcases own_cmp x y with ⟨h, e⟩ | ⟨h, e⟩ | ⟨h, e⟩ <;> first | (exfalso; omega) | (rw [e]; decide)
theorem own_yes {P : Prop} [Decidable P] (q : P) : (some (Value.int (nar .boolean 1)) : Option Value) = some (.int (if P then 1 else 0)) := by rw [if_pos q]; rfl
theorem own_no {P : Prop} [Decidable P] (q : ¬ P) : (some (Value.int (nar .boolean 0)) : Option Value) = some (.int (if P then 1 else 0)) := by rw [if_neg q]; rfl
theorem own_nyes {P : Prop} [Decidable P] (q : P) : (some (Value.int (nar .boolean 0)) : Option Value) = some (.int (if P then 0 else 1)) := by rw [if_pos q]; rfl
theorem own_nno {P : Prop} [Decidable P] (q : ¬ P) : (some (Value.int (nar .boolean 1)) : Option Value) = some (.int (if P then 0 else 1)) := by rw [if_neg q]; rfl
theorem own_bneY {P : Prop} [Decidable P] (q : P) : ifCond.holds .ne (if P then (1 : Int32) else 0) = true := by rw [if_pos q]; rfl
theorem own_bneN {P : Prop} [Decidable P] (q : ¬ P) : ifCond.holds .ne (if P then (1 : Int32) else 0) = false := by rw [if_neg q]; rfl
theorem own_beqY {P : Prop} [Decidable P] (q : ¬ P) : ifCond.holds .eq (if P then (1 : Int32) else 0) = true := by rw [if_neg q]; rfl
theorem own_beqN {P : Prop} [Decidable P] (q : ¬ ¬ P) : ifCond.holds .eq (if P then (1 : Int32) else 0) = false := by rw [if_pos (Decidable.not_not.mp q)]; rfl
/-! own kit, part 4: an array of which only the kind, the length and 'its places hold values of the kind' is kept -/
def own_A (Z : State) (h : Heap) (a : Addr) (ty : FieldType) (n : Nat) : Prop := ∃ c : Cell, Arr Z h a c ty ∧ c.slots.size = n ∧ ∀ i, i < n → ∃ v, c.slots[i]? = some v ∧ fits ty v = true
theorem own_A.lt {a : Addr} {ty : FieldType} {n : Nat} (A : own_A Z h a ty n) : a < h.size := by obtain ⟨c, A, -⟩ := A; exact A.lt
theorem own_A.of {h' : Heap} {a : Addr} {ty : FieldType} {n : Int32} {k : ClassId} {j : Nat} (A : Arr Z h a (newA k ty n) ty) (q : ¬ n < 0) (hn : n.toNatClampNeg = j) : own_A Z h a ty j := by
  obtain ⟨c, A, -, S, -, H, G⟩ := Arv.new A q
  exact ⟨c, A, S.trans hn, fun i hi => ⟨_, H i (by omega), G i (by omega)⟩⟩
theorem own_A.ext {h' : Heap} {a : Addr} {ty : FieldType} {n : Nat} (A : own_A Z h a ty n) (E : Ext h h') : own_A Z h' a ty n := by obtain ⟨c, A, r⟩ := A; exact ⟨c, A.ext E, r⟩
theorem own_A.other {h' : Heap} {a b : Addr} {ty : FieldType} {n sl : Nat} {v : Value} (A : own_A Z h a ty n) (W : Wr h h' b sl v) (q : a ≠ b) : own_A Z h' a ty n := by obtain ⟨c, A, r⟩ := A; exact ⟨c, A.other W q, r⟩
theorem own_A.set {h' : Heap} {a : Addr} {ty : FieldType} {n j : Nat} {v : Value} (A : own_A Z h a ty n) (W : Wr h h' a j v) (hv : fits ty v = true) : own_A Z h' a ty n := by
  obtain ⟨c, A, S, H⟩ := A
  refine ⟨_, A.same W, by rw [sz_set]; exact S, fun i hi => ?_⟩
  by_cases hij : i = j
  · subst hij
    exact ⟨v, by simp [Cell.setSlot, S, hi], hv⟩
  · obtain ⟨w, h1, h2⟩ := H i hi
    refine ⟨w, ?_, h2⟩
    simp only [Cell.setSlot]
    rw [Array.getElem?_setIfInBounds_ne (fun z => hij z.symm)]
    exact h1
theorem own_inb {c : Cell} {n : Nat} {j : Int32} (S : c.slots.size = n) (h1 : 0 ≤ j.toInt) (h2 : j.toInt < n) : ¬ (j < 0 ∨ c.slots.size ≤ j.toNatClampNeg) := by
  have h3 : ¬ j < 0 := fun z => by have := Int32.lt_iff_toInt_lt.mp z; have e : (0 : Int32).toInt = 0 := rfl; omega
  have := nat_of h3
  rintro (z | z)
  · exact h3 z
  · omega
theorem own_stI (X : Stand p l e R s m args below meth c T locs cells slots) (hx : p.tables.exec = Jvm.exec) (hZ : Z.Warmed39 s.vm) (eT : T.heap = h) {a : Addr} {n : Nat} (A : own_A Z h a .int n) {j x : Int32} (h1 : 0 ≤ j.toInt) (h2 : j.toInt < n) {pc : Nat} {Ls : Array Slot} {rest : List Value} (hd : decode c.code pc = .ok (.iastore, 1)) :
    ∃ T' h', Stand p l e R s m args below meth c T' (locs ++ [⟨a, j.toNatClampNeg⟩]) cells slots ∧ T'.heap = h' ∧ Wr h h' a j.toNatClampNeg (.int x) ∧ own_A Z h' a .int n ∧ ∀ t, Steps p.tables e below (T'.setTop (mkF m (pc + 1) Ls rest)) t → Steps p.tables e below (T.setTop (mkF m pc Ls (.int x :: .int j :: .ref a :: rest))) t := by
  have A0 := A
  obtain ⟨cl, A1, S, H⟩ := A
  obtain ⟨T', h', X', e', W, st⟩ := stI X hx hZ eT A1 (j := j) (x := x) (own_inb S h1 h2) (g := mkF m pc Ls (.int x :: .int j :: .ref a :: rest)) rfl rfl hd
  exact ⟨T', h', X', e', W, A0.set W rfl, st⟩
theorem own_stJ (X : Stand p l e R s m args below meth c T locs cells slots) (hx : p.tables.exec = Jvm.exec) (hZ : Z.Warmed39 s.vm) (eT : T.heap = h) {a : Addr} {n : Nat} (A : own_A Z h a .long n) {j : Int32} {x : Int64} (h1 : 0 ≤ j.toInt) (h2 : j.toInt < n) {pc : Nat} {Ls : Array Slot} {rest : List Value} (hd : decode c.code pc = .ok (.lastore, 1)) :
    ∃ T' h', Stand p l e R s m args below meth c T' (locs ++ [⟨a, j.toNatClampNeg⟩]) cells slots ∧ T'.heap = h' ∧ Wr h h' a j.toNatClampNeg (.long x) ∧ own_A Z h' a .long n ∧ ∀ t, Steps p.tables e below (T'.setTop (mkF m (pc + 1) Ls rest)) t → Steps p.tables e below (T.setTop (mkF m pc Ls (.long x :: .int j :: .ref a :: rest))) t := by
  have A0 := A
  obtain ⟨cl, A1, S, H⟩ := A
  obtain ⟨T', h', X', e', W, st⟩ := stJ X hx hZ eT A1 (j := j) (x := x) (own_inb S h1 h2) (g := mkF m pc Ls (.long x :: .int j :: .ref a :: rest)) rfl rfl hd
  exact ⟨T', h', X', e', W, A0.set W rfl, st⟩
theorem own_ldI (X : Stand p l e R s m args below meth c T locs cells slots) (hx : p.tables.exec = Jvm.exec) (hZ : Z.Warmed39 s.vm) (eT : T.heap = h) {a : Addr} {n : Nat} (A : own_A Z h a .int n) {j : Int32} (h1 : 0 ≤ j.toInt) (h2 : j.toInt < n) {pc : Nat} {Ls : Array Slot} {rest : List Value} (hd : decode c.code pc = .ok (.iaload, 1)) :
    ∃ x : Int32, ∀ t, Steps p.tables e below (T.setTop (mkF m (pc + 1) Ls (.int x :: rest))) t → Steps p.tables e below (T.setTop (mkF m pc Ls (.int j :: .ref a :: rest))) t := by
  obtain ⟨cl, A1, S, H⟩ := A
  have hin := own_inb S h1 h2
  obtain ⟨v, g1, g2⟩ := H j.toNatClampNeg (by rw [← S]; exact Nat.lt_of_not_le fun q => hin (Or.inr q))
  obtain ⟨x, rfl⟩ := fit_I g2 (Or.inl rfl)
  exact ⟨x, fun t k => X.iaload hx (by rw [eT]; exact A1.1) (State.isArrayOf_alike hZ.alike A1.2.1) A1.2.2 hin g1 (g := mkF m pc Ls (.int j :: .ref a :: rest)) rfl rfl hd t k⟩
theorem own_ldJ (X : Stand p l e R s m args below meth c T locs cells slots) (hx : p.tables.exec = Jvm.exec) (hZ : Z.Warmed39 s.vm) (eT : T.heap = h) {a : Addr} {n : Nat} (A : own_A Z h a .long n) {j : Int32} (h1 : 0 ≤ j.toInt) (h2 : j.toInt < n) {pc : Nat} {Ls : Array Slot} {rest : List Value} (hd : decode c.code pc = .ok (.laload, 1)) :
    ∃ x : Int64, ∀ t, Steps p.tables e below (T.setTop (mkF m (pc + 1) Ls (.long x :: rest))) t → Steps p.tables e below (T.setTop (mkF m pc Ls (.int j :: .ref a :: rest))) t := by
  obtain ⟨cl, A1, S, H⟩ := A
  have hin := own_inb S h1 h2
  obtain ⟨v, g1, g2⟩ := H j.toNatClampNeg (by rw [← S]; exact Nat.lt_of_not_le fun q => hin (Or.inr q))
  obtain ⟨x, rfl⟩ := fit_J g2
  exact ⟨x, fun t k => X.laload hx (by rw [eT]; exact A1.1) (State.isArrayOf_alike hZ.alike A1.2.1) A1.2.2 hin g1 (g := mkF m pc Ls (.int j :: .ref a :: rest)) rfl rfl hd t k⟩
theorem own_len (X : Stand p l e R s m args below meth c T locs cells slots) (hx : p.tables.exec = Jvm.exec) (hZ : Z.Warmed39 s.vm) (eT : T.heap = h) {a : Addr} {n : Nat} {ty : FieldType} (A : own_A Z h a ty n) {pc : Nat} {Ls : Array Slot} {rest : List Value} (hd : decode c.code pc = .ok (.arraylength, 1)) :
    ∀ t, Steps p.tables e below (T.setTop (mkF m (pc + 1) Ls (.int n.toInt32 :: rest))) t → Steps p.tables e below (T.setTop (mkF m pc Ls (.ref a :: rest))) t := by
  obtain ⟨cl, A1, S, H⟩ := A
  subst S
  exact fun t k => X.arraylength hx (by rw [eT]; exact A1.1) (State.isArrayOf_alike hZ.alike A1.2.1) (g := mkF m pc Ls (.ref a :: rest)) rfl rfl hd t k
/-! own kit, part 5: an array by the function that tells what its places hold -/
def own_F (Z : State) (h : Heap) (a : Addr) (k : ClassId) (ty : FieldType) (n : Nat) (f : Nat → Value) : Prop := ∃ c : Cell, Arr Z h a c ty ∧ c.cls = k ∧ c.slots.size = n ∧ ∀ i, i < n → c.slots[i]? = some (f i)
def own_up (f : Nat → Value) (j : Nat) (v : Value) : Nat → Value := fun i => if i = j then v else f i
section F
variable {h' : Heap} {a b : Addr} {k : ClassId} {ty : FieldType} {n : Nat} {f : Nat → Value} {j x : Int32} {y : Int64} {i : Nat} {v : Value} {pc : Nat} {Ls : Array Slot} {rest : List Value}
theorem own_F.cong {g : Nat → Value} (F : own_F Z h a k ty n f) (q : ∀ i, i < n → f i = g i) : own_F Z h a k ty n g := by obtain ⟨c, A, r1, r2, r3⟩ := F; exact ⟨c, A, r1, r2, fun i hi => by rw [← q i hi]; exact r3 i hi⟩
theorem own_F.lt (F : own_F Z h a k ty n f) : a < h.size := by obtain ⟨c, A, -⟩ := F; exact A.lt
theorem own_F.ext (F : own_F Z h a k ty n f) (E : Ext h h') : own_F Z h' a k ty n f := by obtain ⟨c, A, r⟩ := F; exact ⟨c, A.ext E, r⟩
theorem own_F.other {sl : Nat} (F : own_F Z h a k ty n f) (W : Wr h h' b sl v) (q : a ≠ b) : own_F Z h' a k ty n f := by obtain ⟨c, A, r⟩ := F; exact ⟨c, A.other W q, r⟩
theorem own_F.keep {ws : List Addr} (F : own_F Z h a k ty n f) (K : Keep h h' ws) (q : a ∉ ws) : own_F Z h' a k ty n f := by obtain ⟨c, A, r⟩ := F; exact ⟨c, ⟨K.2.1 a c A.1 q, A.2⟩, r⟩
theorem own_F.new {z : Int32} (A : Arr Z h a (newA k ty z) ty) (q : ¬ z < 0) (hn : z.toNatClampNeg = n) : own_F Z h a k ty n (fun _ => defaultValue ty) := by
  refine ⟨_, A, rfl, (sz_new _ _ _).trans hn, fun i hi => ?_⟩
  simp [newA, hn, hi]
theorem own_F.set (F : own_F Z h a k ty n f) (W : Wr h h' a i v) : own_F Z h' a k ty n (own_up f i v) := by
  obtain ⟨c, A, q, S, H⟩ := F
  refine ⟨_, A.same W, q, by rw [sz_set]; exact S, fun j hj => ?_⟩
  unfold own_up
  by_cases hij : j = i
  · subst hij
    rw [if_pos rfl]; simp [Cell.setSlot, S, hj]
  · rw [if_neg hij]
    simp only [Cell.setSlot]
    rw [Array.getElem?_setIfInBounds_ne (fun z => hij z.symm)]
    exact H j hj
theorem own_nat (hj : j.toInt = i) : j.toNatClampNeg = i ∧ ¬ j < 0 := by
  have h3 : ¬ j < 0 := fun z => by have := Int32.lt_iff_toInt_lt.mp z; have e : (0 : Int32).toInt = 0 := rfl; omega
  have := nat_of h3
  exact ⟨by omega, h3⟩
theorem own_in {c : Cell} (S : c.slots.size = n) (hj : j.toInt = i) (hi : i < n) : ¬ (j < 0 ∨ c.slots.size ≤ j.toNatClampNeg) := by
  obtain ⟨e1, e2⟩ := own_nat hj
  rintro (z | z)
  · exact e2 z
  · omega
theorem own_fstI (X : Stand p l e R s m args below meth c T locs cells slots) (hx : p.tables.exec = Jvm.exec) (hZ : Z.Warmed39 s.vm) (eT : T.heap = h) (F : own_F Z h a k .int n f) (i : Nat) (hj : j.toInt = i) (hi : i < n) (hd : decode c.code pc = .ok (.iastore, 1)) :
    ∃ T' h', Stand p l e R s m args below meth c T' (locs ++ [⟨a, i⟩]) cells slots ∧ T'.heap = h' ∧ Wr h h' a i (.int x) ∧ own_F Z h' a k .int n (own_up f i (.int x)) ∧ ∀ t, Steps p.tables e below (T'.setTop (mkF m (pc + 1) Ls rest)) t → Steps p.tables e below (T.setTop (mkF m pc Ls (.int x :: .int j :: .ref a :: rest))) t := by
  have F0 := F
  obtain ⟨cl, A, q, S, H⟩ := F
  obtain ⟨T', h', X', e', W, st⟩ := stI X hx hZ eT A (j := j) (x := x) (own_in S hj hi) (g := mkF m pc Ls (.int x :: .int j :: .ref a :: rest)) rfl rfl hd
  rw [(own_nat hj).1] at X' W
  exact ⟨T', h', X', e', W, F0.set W, st⟩
theorem own_fstJ (X : Stand p l e R s m args below meth c T locs cells slots) (hx : p.tables.exec = Jvm.exec) (hZ : Z.Warmed39 s.vm) (eT : T.heap = h) (F : own_F Z h a k .long n f) (i : Nat) (hj : j.toInt = i) (hi : i < n) (hd : decode c.code pc = .ok (.lastore, 1)) :
    ∃ T' h', Stand p l e R s m args below meth c T' (locs ++ [⟨a, i⟩]) cells slots ∧ T'.heap = h' ∧ Wr h h' a i (.long y) ∧ own_F Z h' a k .long n (own_up f i (.long y)) ∧ ∀ t, Steps p.tables e below (T'.setTop (mkF m (pc + 1) Ls rest)) t → Steps p.tables e below (T.setTop (mkF m pc Ls (.long y :: .int j :: .ref a :: rest))) t := by
  have F0 := F
  obtain ⟨cl, A, q, S, H⟩ := F
  obtain ⟨T', h', X', e', W, st⟩ := stJ X hx hZ eT A (j := j) (x := y) (own_in S hj hi) (g := mkF m pc Ls (.long y :: .int j :: .ref a :: rest)) rfl rfl hd
  rw [(own_nat hj).1] at X' W
  exact ⟨T', h', X', e', W, F0.set W, st⟩
theorem own_fstC (X : Stand p l e R s m args below meth c T locs cells slots) (hx : p.tables.exec = Jvm.exec) (hZ : Z.Warmed39 s.vm) (eT : T.heap = h) (F : own_F Z h a k .char n f) (i : Nat) (hj : j.toInt = i) (hi : i < n) (hd : decode c.code pc = .ok (.castore, 1)) :
    ∃ T' h', Stand p l e R s m args below meth c T' (locs ++ [⟨a, i⟩]) cells slots ∧ T'.heap = h' ∧ Wr h h' a i (.int (nar .char x)) ∧ own_F Z h' a k .char n (own_up f i (.int (nar .char x))) ∧ ∀ t, Steps p.tables e below (T'.setTop (mkF m (pc + 1) Ls rest)) t → Steps p.tables e below (T.setTop (mkF m pc Ls (.int x :: .int j :: .ref a :: rest))) t := by
  have F0 := F
  obtain ⟨cl, A, q, S, H⟩ := F
  obtain ⟨T', h', X', e', W, st⟩ := stC X hx hZ eT A (j := j) (x := x) (own_in S hj hi) (g := mkF m pc Ls (.int x :: .int j :: .ref a :: rest)) rfl rfl hd
  rw [(own_nat hj).1] at X' W
  exact ⟨T', h', X', e', W, F0.set W, st⟩
theorem own_fstZ (X : Stand p l e R s m args below meth c T locs cells slots) (hx : p.tables.exec = Jvm.exec) (hZ : Z.Warmed39 s.vm) (eT : T.heap = h) (F : own_F Z h a k .boolean n f) (i : Nat) (hj : j.toInt = i) (hi : i < n) (hd : decode c.code pc = .ok (.bastore, 1)) :
    ∃ T' h', Stand p l e R s m args below meth c T' (locs ++ [⟨a, i⟩]) cells slots ∧ T'.heap = h' ∧ Wr h h' a i (.int (nar .boolean x)) ∧ own_F Z h' a k .boolean n (own_up f i (.int (nar .boolean x))) ∧ ∀ t, Steps p.tables e below (T'.setTop (mkF m (pc + 1) Ls rest)) t → Steps p.tables e below (T.setTop (mkF m pc Ls (.int x :: .int j :: .ref a :: rest))) t := by
  have F0 := F
  obtain ⟨cl, A, q, S, H⟩ := F
  obtain ⟨T', h', X', e', W, st⟩ := stZ X hx hZ eT A (j := j) (x := x) (own_in S hj hi) (g := mkF m pc Ls (.int x :: .int j :: .ref a :: rest)) rfl rfl hd
  rw [(own_nat hj).1] at X' W
  exact ⟨T', h', X', e', W, F0.set W, st⟩
theorem own_fstA (X : Stand p l e R s m args below meth c T locs cells slots) (hx : p.tables.exec = Jvm.exec) (hZ : Z.Warmed39 s.vm) (eT : T.heap = h) (F : own_F Z h a k ty n f) (hty : ty.isReference = true) (O : Sto Z h a v) (i : Nat) (hj : j.toInt = i) (hi : i < n) (hd : decode c.code pc = .ok (.aastore, 1)) :
    ∃ T' h', Stand p l e R s m args below meth c T' (locs ++ [⟨a, i⟩]) cells slots ∧ T'.heap = h' ∧ Wr h h' a i v ∧ own_F Z h' a k ty n (own_up f i v) ∧ ∀ t, Steps p.tables e below (T'.setTop (mkF m (pc + 1) Ls rest)) t → Steps p.tables e below (T.setTop (mkF m pc Ls (v :: .int j :: .ref a :: rest))) t := by
  have F0 := F
  obtain ⟨cl, A, q, S, H⟩ := F
  obtain ⟨T', h', X', e', W, st⟩ := stR X hx hZ eT A (j := j) (v := v) (own_in S hj hi) hty O (g := mkF m pc Ls (v :: .int j :: .ref a :: rest)) rfl rfl hd
  rw [(own_nat hj).1] at X' W
  exact ⟨T', h', X', e', W, F0.set W, st⟩
theorem own_fldI (X : Stand p l e R s m args below meth c T locs cells slots) (hx : p.tables.exec = Jvm.exec) (hZ : Z.Warmed39 s.vm) (eT : T.heap = h) (F : own_F Z h a k .int n f) (i : Nat) (hj : j.toInt = i) (hi : i < n) (hv : f i = v) (hd : decode c.code pc = .ok (.iaload, 1)) :
    ∀ t, Steps p.tables e below (T.setTop (mkF m (pc + 1) Ls (v :: rest))) t → Steps p.tables e below (T.setTop (mkF m pc Ls (.int j :: .ref a :: rest))) t := by
  obtain ⟨cl, A, q, S, H⟩ := F
  exact fun t kk => X.iaload hx (by rw [eT]; exact A.1) (State.isArrayOf_alike hZ.alike A.2.1) A.2.2 (own_in S hj hi) (by rw [(own_nat hj).1, ← hv]; exact H i hi) (g := mkF m pc Ls (.int j :: .ref a :: rest)) rfl rfl hd t kk
theorem own_fldJ (X : Stand p l e R s m args below meth c T locs cells slots) (hx : p.tables.exec = Jvm.exec) (hZ : Z.Warmed39 s.vm) (eT : T.heap = h) (F : own_F Z h a k .long n f) (i : Nat) (hj : j.toInt = i) (hi : i < n) (hv : f i = v) (hd : decode c.code pc = .ok (.laload, 1)) :
    ∀ t, Steps p.tables e below (T.setTop (mkF m (pc + 1) Ls (v :: rest))) t → Steps p.tables e below (T.setTop (mkF m pc Ls (.int j :: .ref a :: rest))) t := by
  obtain ⟨cl, A, q, S, H⟩ := F
  exact fun t kk => X.laload hx (by rw [eT]; exact A.1) (State.isArrayOf_alike hZ.alike A.2.1) A.2.2 (own_in S hj hi) (by rw [(own_nat hj).1, ← hv]; exact H i hi) (g := mkF m pc Ls (.int j :: .ref a :: rest)) rfl rfl hd t kk
theorem own_fldC (X : Stand p l e R s m args below meth c T locs cells slots) (hx : p.tables.exec = Jvm.exec) (hZ : Z.Warmed39 s.vm) (eT : T.heap = h) (F : own_F Z h a k .char n f) (i : Nat) (hj : j.toInt = i) (hi : i < n) (hv : f i = v) (hd : decode c.code pc = .ok (.caload, 1)) :
    ∀ t, Steps p.tables e below (T.setTop (mkF m (pc + 1) Ls (v :: rest))) t → Steps p.tables e below (T.setTop (mkF m pc Ls (.int j :: .ref a :: rest))) t := by
  obtain ⟨cl, A, q, S, H⟩ := F
  exact fun t kk => X.caload hx (by rw [eT]; exact A.1) (State.isArrayOf_alike hZ.alike A.2.1) A.2.2 (own_in S hj hi) (by rw [(own_nat hj).1, ← hv]; exact H i hi) (g := mkF m pc Ls (.int j :: .ref a :: rest)) rfl rfl hd t kk
theorem own_fldZ (X : Stand p l e R s m args below meth c T locs cells slots) (hx : p.tables.exec = Jvm.exec) (hZ : Z.Warmed39 s.vm) (eT : T.heap = h) (F : own_F Z h a k .boolean n f) (i : Nat) (hj : j.toInt = i) (hi : i < n) (hv : f i = v) (hd : decode c.code pc = .ok (.baload, 1)) :
    ∀ t, Steps p.tables e below (T.setTop (mkF m (pc + 1) Ls (v :: rest))) t → Steps p.tables e below (T.setTop (mkF m pc Ls (.int j :: .ref a :: rest))) t := by
  obtain ⟨cl, A, q, S, H⟩ := F
  exact fun t kk => X.baloadBooleans hx (by rw [eT]; exact A.1) (State.isArrayOf_alike hZ.alike A.2.1) A.2.2 (own_in S hj hi) (by rw [(own_nat hj).1, ← hv]; exact H i hi) (g := mkF m pc Ls (.int j :: .ref a :: rest)) rfl rfl hd t kk
theorem own_fldA (X : Stand p l e R s m args below meth c T locs cells slots) (hx : p.tables.exec = Jvm.exec) (hZ : Z.Warmed39 s.vm) (eT : T.heap = h) (F : own_F Z h a k ty n f) (hty : ty.isReference = true) (i : Nat) (hj : j.toInt = i) (hi : i < n) (hv : f i = v) (hd : decode c.code pc = .ok (.aaload, 1)) :
    ∀ t, Steps p.tables e below (T.setTop (mkF m (pc + 1) Ls (v :: rest))) t → Steps p.tables e below (T.setTop (mkF m pc Ls (.int j :: .ref a :: rest))) t := by
  obtain ⟨cl, A, q, S, H⟩ := F
  exact fun t kk => X.aaload hx (by rw [eT]; exact A.1) (State.isArrayOf_alike hZ.alike A.2.1) hty A.2.2 (own_in S hj hi) (by rw [(own_nat hj).1, ← hv]; exact H i hi) (g := mkF m pc Ls (.int j :: .ref a :: rest)) rfl rfl hd t kk
theorem own_flen (X : Stand p l e R s m args below meth c T locs cells slots) (hx : p.tables.exec = Jvm.exec) (hZ : Z.Warmed39 s.vm) (eT : T.heap = h) (F : own_F Z h a k ty n f) (hd : decode c.code pc = .ok (.arraylength, 1)) :
    ∀ t, Steps p.tables e below (T.setTop (mkF m (pc + 1) Ls (.int n.toInt32 :: rest))) t → Steps p.tables e below (T.setTop (mkF m pc Ls (.ref a :: rest))) t := by
  obtain ⟨cl, A, q, S, H⟩ := F
  subst S
  exact fun t kk => X.arraylength hx (by rw [eT]; exact A.1) (State.isArrayOf_alike hZ.alike A.2.1) (g := mkF m pc Ls (.ref a :: rest)) rfl rfl hd t kk
theorem own_F.sto {ty : FieldType} {y : Addr} {C : String} (F : own_F Z h a k (.array ty) n f) (O : OvrA Z k ty C) (E : Exa Z h y C) : Sto Z h a (.ref y) := by
  obtain ⟨c, A, q, -⟩ := F
  exact Sto.ofVA A q O (Ins.self E)
theorem own_up_eq : own_up f i v i = v := if_pos rfl
theorem own_up_ne {j : Nat} (q : j ≠ i) : own_up f i v j = f j := if_neg q
end F
end Own
theorem d1_0 : decode prog_42_method_1_code 0 = .ok (.aload_n 0, 1) := by decide +kernel
theorem d1_1 : decode prog_42_method_1_code 1 = .ok (.invokespecial 1, 3) := by decide +kernel
theorem d1_4 : decode prog_42_method_1_code 4 = .ok (.aload_n 0, 1) := by decide +kernel
theorem d1_5 : decode prog_42_method_1_code 5 = .ok (.sipush 4096, 3) := by decide +kernel
theorem d1_8 : decode prog_42_method_1_code 8 = .ok (.anewarray 9, 3) := by decide +kernel
theorem d1_11 : decode prog_42_method_1_code 11 = .ok (.putfield 11, 3) := by decide +kernel
theorem d1_14 : decode prog_42_method_1_code 14 = .ok (.aload_n 0, 1) := by decide +kernel
theorem d1_15 : decode prog_42_method_1_code 15 = .ok (.sipush 4096, 3) := by decide +kernel
theorem d1_18 : decode prog_42_method_1_code 18 = .ok (.newarray .int, 2) := by decide +kernel
theorem d1_20 : decode prog_42_method_1_code 20 = .ok (.putfield 15, 3) := by decide +kernel
theorem d1_23 : decode prog_42_method_1_code 23 = .ok (.aload_n 0, 1) := by decide +kernel
theorem d1_24 : decode prog_42_method_1_code 24 = .ok (.ldc 19, 2) := by decide +kernel
theorem d1_26 : decode prog_42_method_1_code 26 = .ok (.newarray .int, 2) := by decide +kernel
theorem d1_28 : decode prog_42_method_1_code 28 = .ok (.putfield 20, 3) := by decide +kernel
theorem d1_31 : decode prog_42_method_1_code 31 = .ok (.aload_n 0, 1) := by decide +kernel
theorem d1_32 : decode prog_42_method_1_code 32 = .ok (.sipush 4097, 3) := by decide +kernel
theorem d1_35 : decode prog_42_method_1_code 35 = .ok (.newarray .int, 2) := by decide +kernel
theorem d1_37 : decode prog_42_method_1_code 37 = .ok (.putfield 23, 3) := by decide +kernel
theorem d1_40 : decode prog_42_method_1_code 40 = .ok (.aload_n 0, 1) := by decide +kernel
theorem d1_41 : decode prog_42_method_1_code 41 = .ok (.sipush 4096, 3) := by decide +kernel
theorem d1_44 : decode prog_42_method_1_code 44 = .ok (.newarray .long, 2) := by decide +kernel
theorem d1_46 : decode prog_42_method_1_code 46 = .ok (.putfield 26, 3) := by decide +kernel
theorem d1_49 : decode prog_42_method_1_code 49 = .ok (.aload_n 0, 1) := by decide +kernel
theorem d1_50 : decode prog_42_method_1_code 50 = .ok (.sipush 4096, 3) := by decide +kernel
theorem d1_53 : decode prog_42_method_1_code 53 = .ok (.newarray .boolean, 2) := by decide +kernel
theorem d1_55 : decode prog_42_method_1_code 55 = .ok (.putfield 30, 3) := by decide +kernel
theorem d1_58 : decode prog_42_method_1_code 58 = .ok (.return_, 1) := by decide +kernel
theorem d3_0 : decode prog_42_method_5_code 0 = .ok (.aload_n 0, 1) := by decide +kernel
theorem d3_1 : decode prog_42_method_5_code 1 = .ok (.getfield 11, 3) := by decide +kernel
theorem d3_4 : decode prog_42_method_5_code 4 = .ok (.aload_n 0, 1) := by decide +kernel
theorem d3_5 : decode prog_42_method_5_code 5 = .ok (.getfield 34, 3) := by decide +kernel
theorem d3_8 : decode prog_42_method_5_code 8 = .ok (.aload_n 1, 1) := by decide +kernel
theorem d3_9 : decode prog_42_method_5_code 9 = .ok (.aastore, 1) := by decide +kernel
theorem d3_10 : decode prog_42_method_5_code 10 = .ok (.aload_n 0, 1) := by decide +kernel
theorem d3_11 : decode prog_42_method_5_code 11 = .ok (.getfield 15, 3) := by decide +kernel
theorem d3_14 : decode prog_42_method_5_code 14 = .ok (.aload_n 0, 1) := by decide +kernel
theorem d3_15 : decode prog_42_method_5_code 15 = .ok (.getfield 34, 3) := by decide +kernel
theorem d3_18 : decode prog_42_method_5_code 18 = .ok (.iload_n 2, 1) := by decide +kernel
theorem d3_19 : decode prog_42_method_5_code 19 = .ok (.iastore, 1) := by decide +kernel
theorem d3_20 : decode prog_42_method_5_code 20 = .ok (.aload_n 0, 1) := by decide +kernel
theorem d3_21 : decode prog_42_method_5_code 21 = .ok (.getfield 26, 3) := by decide +kernel
theorem d3_24 : decode prog_42_method_5_code 24 = .ok (.aload_n 0, 1) := by decide +kernel
theorem d3_25 : decode prog_42_method_5_code 25 = .ok (.getfield 34, 3) := by decide +kernel
theorem d3_28 : decode prog_42_method_5_code 28 = .ok (.lload 4, 2) := by decide +kernel
theorem d3_30 : decode prog_42_method_5_code 30 = .ok (.lastore, 1) := by decide +kernel
theorem d3_31 : decode prog_42_method_5_code 31 = .ok (.aload_n 0, 1) := by decide +kernel
theorem d3_32 : decode prog_42_method_5_code 32 = .ok (.getfield 30, 3) := by decide +kernel
theorem d3_35 : decode prog_42_method_5_code 35 = .ok (.aload_n 0, 1) := by decide +kernel
theorem d3_36 : decode prog_42_method_5_code 36 = .ok (.getfield 34, 3) := by decide +kernel
theorem d3_39 : decode prog_42_method_5_code 39 = .ok (.iload 6, 2) := by decide +kernel
theorem d3_41 : decode prog_42_method_5_code 41 = .ok (.bastore, 1) := by decide +kernel
theorem d3_42 : decode prog_42_method_5_code 42 = .ok (.aload_n 0, 1) := by decide +kernel
theorem d3_43 : decode prog_42_method_5_code 43 = .ok (.dup, 1) := by decide +kernel
theorem d3_44 : decode prog_42_method_5_code 44 = .ok (.getfield 38, 3) := by decide +kernel
theorem d3_47 : decode prog_42_method_5_code 47 = .ok (.aload_n 0, 1) := by decide +kernel
theorem d3_48 : decode prog_42_method_5_code 48 = .ok (.getfield 20, 3) := by decide +kernel
theorem d3_51 : decode prog_42_method_5_code 51 = .ok (.iload_n 3, 1) := by decide +kernel
theorem d3_52 : decode prog_42_method_5_code 52 = .ok (.iconst 1, 1) := by decide +kernel
theorem d3_53 : decode prog_42_method_5_code 53 = .ok (.isub, 1) := by decide +kernel
theorem d3_54 : decode prog_42_method_5_code 54 = .ok (.iaload, 1) := by decide +kernel
theorem d3_55 : decode prog_42_method_5_code 55 = .ok (.iadd, 1) := by decide +kernel
theorem d3_56 : decode prog_42_method_5_code 56 = .ok (.putfield 38, 3) := by decide +kernel
theorem d3_59 : decode prog_42_method_5_code 59 = .ok (.aload_n 0, 1) := by decide +kernel
theorem d3_60 : decode prog_42_method_5_code 60 = .ok (.getfield 23, 3) := by decide +kernel
theorem d3_63 : decode prog_42_method_5_code 63 = .ok (.aload_n 0, 1) := by decide +kernel
theorem d3_64 : decode prog_42_method_5_code 64 = .ok (.dup, 1) := by decide +kernel
theorem d3_65 : decode prog_42_method_5_code 65 = .ok (.getfield 34, 3) := by decide +kernel
theorem d3_68 : decode prog_42_method_5_code 68 = .ok (.iconst 1, 1) := by decide +kernel
theorem d3_69 : decode prog_42_method_5_code 69 = .ok (.iadd, 1) := by decide +kernel
theorem d3_70 : decode prog_42_method_5_code 70 = .ok (.dup_x1, 1) := by decide +kernel
theorem d3_71 : decode prog_42_method_5_code 71 = .ok (.putfield 34, 3) := by decide +kernel
theorem d3_74 : decode prog_42_method_5_code 74 = .ok (.iload_n 3, 1) := by decide +kernel
theorem d3_75 : decode prog_42_method_5_code 75 = .ok (.iastore, 1) := by decide +kernel
theorem d3_76 : decode prog_42_method_5_code 76 = .ok (.return_, 1) := by decide +kernel
theorem d4_0 : decode prog_42_method_3_code 0 = .ok (.aload_n 0, 1) := by decide +kernel
theorem d4_1 : decode prog_42_method_3_code 1 = .ok (.getfield 23, 3) := by decide +kernel
theorem d4_4 : decode prog_42_method_3_code 4 = .ok (.iload_n 1, 1) := by decide +kernel
theorem d4_5 : decode prog_42_method_3_code 5 = .ok (.iconst 1, 1) := by decide +kernel
theorem d4_6 : decode prog_42_method_3_code 6 = .ok (.iadd, 1) := by decide +kernel
theorem d4_7 : decode prog_42_method_3_code 7 = .ok (.iaload, 1) := by decide +kernel
theorem d4_8 : decode prog_42_method_3_code 8 = .ok (.aload_n 0, 1) := by decide +kernel
theorem d4_9 : decode prog_42_method_3_code 9 = .ok (.getfield 23, 3) := by decide +kernel
theorem d4_12 : decode prog_42_method_3_code 12 = .ok (.iload_n 1, 1) := by decide +kernel
theorem d4_13 : decode prog_42_method_3_code 13 = .ok (.iaload, 1) := by decide +kernel
theorem d4_14 : decode prog_42_method_3_code 14 = .ok (.isub, 1) := by decide +kernel
theorem d4_15 : decode prog_42_method_3_code 15 = .ok (.ireturn, 1) := by decide +kernel
theorem d5_0 : decode prog_42_method_2_code 0 = .ok (.aload_n 0, 1) := by decide +kernel
theorem d5_1 : decode prog_42_method_2_code 1 = .ok (.getfield 34, 3) := by decide +kernel
theorem d5_4 : decode prog_42_method_2_code 4 = .ok (.sipush 4096, 3) := by decide +kernel
theorem d5_7 : decode prog_42_method_2_code 7 = .ok (.if_icmp .eq 12, 3) := by decide +kernel
theorem d5_10 : decode prog_42_method_2_code 10 = .ok (.aload_n 0, 1) := by decide +kernel
theorem d5_11 : decode prog_42_method_2_code 11 = .ok (.getfield 38, 3) := by decide +kernel
theorem d5_14 : decode prog_42_method_2_code 14 = .ok (.ldc 41, 2) := by decide +kernel
theorem d5_16 : decode prog_42_method_2_code 16 = .ok (.if_icmp .lt 7, 3) := by decide +kernel
theorem d5_19 : decode prog_42_method_2_code 19 = .ok (.iconst 1, 1) := by decide +kernel
theorem d5_20 : decode prog_42_method_2_code 20 = .ok (.goto 4, 3) := by decide +kernel
theorem d5_23 : decode prog_42_method_2_code 23 = .ok (.iconst 0, 1) := by decide +kernel
theorem d5_24 : decode prog_42_method_2_code 24 = .ok (.ireturn, 1) := by decide +kernel
theorem pd_I_I : parseMethodDescriptor "(I)I" = some ⟨[.int], some .int⟩ := by decide +kernel
theorem pd__V : parseMethodDescriptor "()V" = some ⟨[], none⟩ := by decide +kernel
theorem pd__Z : parseMethodDescriptor "()Z" = some ⟨[], some .boolean⟩ := by decide +kernel
theorem pd_aBIIJZ_V : parseMethodDescriptor "([BIIJZ)V" = some ⟨[(.array .byte), .int, .int, .long, .boolean], none⟩ := by decide +kernel
theorem pn_Records : plainName "com/example/frage/frage/table/Records" = true := by first | (simp [plainName, overriddenIn]; done) | decide +kernel
theorem pn_RecordsAddPinLaw : plainName "com/example/frage/frage/table/RecordsAddPinLaw" = true := by first | (simp [plainName, overriddenIn]; done) | decide +kernel
set_option maxRecDepth 65536 in
set_option maxHeartbeats 40000000 in
theorem rm1 (l : Launch) (Z : State) (a0 : Array Value) (hw : ∀ d ∈ tables_1, d.before a0 Z = true) (ws : List Jvm.Cond) (r : Addr) (h0 : Heap) (n0 : Nat) (Z0 : n0 ≤ h0.size) (nr : n0 ≤ r) (E0 : Exa Z h0 r "com/example/frage/frage/table/Records") (f_texts : Fld Z h0 r "com/example/frage/frage/table/Records" "texts" "[[B" .null) (f_starts : Fld Z h0 r "com/example/frage/frage/table/Records" "starts" "[I" .null) (f_ends : Fld Z h0 r "com/example/frage/frage/table/Records" "ends" "[I" .null) (f_firstEnds : Fld Z h0 r "com/example/frage/frage/table/Records" "firstEnds" "[I" .null) (f_lines : Fld Z h0 r "com/example/frage/frage/table/Records" "lines" "[J" .null) (f_endsWithSeparator : Fld Z h0 r "com/example/frage/frage/table/Records" "endsWithSeparator" "[Z" .null) (f_count : Fld Z h0 r "com/example/frage/frage/table/Records" "count" "I" (.int (0 : Int32))) (f_bytes : Fld Z h0 r "com/example/frage/frage/table/Records" "bytes" "I" (.int (0 : Int32))) :
    own_Met l (⟨"com/example/frage/frage/table/Records", "<init>", "()V"⟩ : MethodName) prog_42_method_1_code 1 none ws ({ frames := 1, cells := 6, slots := 86017, locals := 12 } : Room) #[(.ref r)] Z h0 (fun v h L => v = none ∧ Fr n0 L ∧ Keep h0 h [r] ∧ ∃ tx st en fe li es : Addr, ∃ ktx kst ken kfe kli kes : ClassId, (@LT.lt Nat _ r tx ∧ @LT.lt Nat _ tx st ∧ @LT.lt Nat _ st en ∧ @LT.lt Nat _ en fe ∧ @LT.lt Nat _ fe li ∧ @LT.lt Nat _ li es) ∧ OvrA Z ktx .byte "[B" ∧ own_F Z h tx ktx (.array .byte) 4096 (fun _ => defaultValue (.array .byte)) ∧ own_F Z h st kst .int 4096 (fun _ => defaultValue .int) ∧ own_F Z h en ken .int 65536 (fun _ => defaultValue .int) ∧ own_F Z h fe kfe .int 4097 (fun _ => defaultValue .int) ∧ own_F Z h li kli .long 4096 (fun _ => defaultValue .long) ∧ own_F Z h es kes .boolean 4096 (fun _ => defaultValue .boolean) ∧ Fld Z h r "com/example/frage/frage/table/Records" "texts" "[[B" (.ref tx) ∧ Fld Z h r "com/example/frage/frage/table/Records" "starts" "[I" (.ref st) ∧ Fld Z h r "com/example/frage/frage/table/Records" "ends" "[I" (.ref en) ∧ Fld Z h r "com/example/frage/frage/table/Records" "firstEnds" "[I" (.ref fe) ∧ Fld Z h r "com/example/frage/frage/table/Records" "lines" "[J" (.ref li) ∧ Fld Z h r "com/example/frage/frage/table/Records" "endsWithSeparator" "[Z" (.ref es) ∧ Fld Z h r "com/example/frage/frage/table/Records" "count" "I" (.int 0) ∧ Fld Z h r "com/example/frage/frage/table/Records" "bytes" "I" (.int 0)) := by
  refine own_body (plainFor_of_name pn_Records) ?_
  intro p e s m below meth c s0 X0 hx hby hml hret hlk hown hnm hZ e0
  replace hown : s.vm.findClass "com/example/frage/frage/table/Records" = some m.cls := hown
  have N0 := Fr.nil n0
  have ef : entryFrame m #[(.ref r)] 1 = (mkF m 0 #[.val (.ref r)] []) := by first | (simp [entryFrame, mkF, argsToLocals, Value.category, maxLocals]; done) | rfl
  rw [ef]
  show own_End p e below s _ _ _ (s0.setTop (mkF m 0 #[.val (.ref r)] []))
  have K1 := Keep.refl h0 [r]
  refine own_go (fun t k => XS.aloadN X0.here hx rfl (hb hby d1_0) rfl rfl k) ?_
  show own_End p e below s _ _ _ (s0.setTop (mkF m 1 #[.val (.ref r)] [(.ref r)]))
  obtain ⟨T2, X2, e2, st2⟩ := initO X0 hx hZ hown (hw _ (List.mem_of_getElem? (i := 10) rfl)) (hw _ (List.mem_of_getElem? (i := 11) rfl)) (hw _ (List.mem_of_getElem? (i := 12) rfl)) e0 (g := (mkF m 1 #[.val (.ref r)] [(.ref r)])) rfl (by rw [hml]; rfl) rfl (hb hby d1_1) (by decide) (W := 0) (by show 2 * 0 + _ ≤ _; exact Nat.le_of_eq rfl) (by decide)
  refine own_go st2 ?_
  show own_End p e below s _ _ _ (T2.setTop (mkF m 4 #[.val (.ref r)] []))
  refine own_go (fun t k => XS.aloadN X2.here hx rfl (hb hby d1_4) rfl rfl k) ?_
  show own_End p e below s _ _ _ (T2.setTop (mkF m 5 #[.val (.ref r)] [(.ref r)]))
  refine own_go (fun t k => XS.sipush X2.here hx rfl (hb hby d1_5) k) ?_
  show own_End p e below s _ _ _ (T2.setTop (mkF m 8 #[.val (.ref r)] [(.int (4096 : Int32)), (.ref r)]))
  obtain ⟨T3, h3, k3, X3, e3, E3, A3, Ex3, O3, st3⟩ := newRA X2 hx hZ (ty := .byte) hown (C := "[B") (by decide) (hw _ (List.mem_of_getElem? (i := 13) rfl)) (hw _ (List.mem_of_getElem? (i := 14) rfl)) e2 (g := (mkF m 8 #[.val (.ref r)] [(.int (4096 : Int32)), (.ref r)])) rfl (hb hby d1_8) rfl (by decide) (cap := 4096) (by decide) (by decide) (by decide) (by decide) (ad := "[[B") (by decide)
  obtain ⟨b3, gb3⟩ : ∃ z, z = h0.size := ⟨_, rfl⟩
  rw [← gb3] at A3 st3
  have F3 := own_F.new A3 (n := 4096) (by decide) (by decide)
  have nb3 : n0 ≤ b3 := by rw [gb3]; exact Z0
  have Z3 : n0 ≤ h3.size := Nat.le_trans Z0 E3.1
  have lt_r_b3 : @LT.lt Nat _ r b3 := Nat.lt_of_lt_of_le E0.lt (Nat.le_of_eq gb3.symm)
  have sb3 : h0.size ≤ b3 := by rw [gb3]; exact K1.1
  have K4 := K1.ext E3
  have f5 := E0.ext E3
  have f6 := f_texts.ext E3
  have f7 := f_starts.ext E3
  have f8 := f_ends.ext E3
  have f9 := f_firstEnds.ext E3
  have f10 := f_lines.ext E3
  have f11 := f_endsWithSeparator.ext E3
  have f12 := f_count.ext E3
  have f13 := f_bytes.ext E3
  refine own_go st3 ?_
  show own_End p e below s _ _ _ (T3.setTop (mkF m 11 #[.val (.ref r)] [(.ref b3), (.ref r)]))
  obtain ⟨T14, h14, X14, e14, W14, st14⟩ := putF X3 hx hZ hown (host := "") (Or.inl (hw _ (List.mem_of_getElem? (i := 15) rfl))) Via.refl e3 f6 f5 (Or.inr ⟨(hw _ (List.mem_of_getElem? (i := 16) rfl)), rfl, hnm⟩) (hw _ (List.mem_of_getElem? (i := 5) rfl)) (ty := (.array (.array .byte))) (by decide) rfl rfl (g := (mkF m 11 #[.val (.ref r)] [(.ref b3), (.ref r)])) rfl rfl (hb hby d1_11)
  have N14 := Fr.snoc X14 N0 nr
  have Z14 : n0 ≤ h14.size := by rw [W14.size]; exact Z3
  refine own_go st14 ?_
  have K15 := K4.wr W14 (Or.inl (List.mem_of_getElem? (i := 0) rfl))
  have f16 := f5.wr W14
  have f17 := f6.same W14
  have f18 := f7.other W14 (Or.inr (slot_ne (Or.inr (hw _ (List.mem_of_getElem? (i := 19) rfl))) (Or.inr (hw _ (List.mem_of_getElem? (i := 16) rfl))) (by decide) (t := (.array .int)) (t' := (.array (.array .byte))) (by decide) (by decide)))
  have f19 := f8.other W14 (Or.inr (slot_ne (Or.inl (hw _ (List.mem_of_getElem? (i := 22) rfl))) (Or.inr (hw _ (List.mem_of_getElem? (i := 16) rfl))) (by decide) (t := (.array .int)) (t' := (.array (.array .byte))) (by decide) (by decide)))
  have f20 := f9.other W14 (Or.inr (slot_ne (Or.inr (hw _ (List.mem_of_getElem? (i := 24) rfl))) (Or.inr (hw _ (List.mem_of_getElem? (i := 16) rfl))) (by decide) (t := (.array .int)) (t' := (.array (.array .byte))) (by decide) (by decide)))
  have f21 := f10.other W14 (Or.inr (slot_ne (Or.inr (hw _ (List.mem_of_getElem? (i := 27) rfl))) (Or.inr (hw _ (List.mem_of_getElem? (i := 16) rfl))) (by decide) (t := (.array .long)) (t' := (.array (.array .byte))) (by decide) (by decide)))
  have f22 := f11.other W14 (Or.inr (slot_ne (Or.inr (hw _ (List.mem_of_getElem? (i := 30) rfl))) (Or.inr (hw _ (List.mem_of_getElem? (i := 16) rfl))) (by decide) (t := (.array .boolean)) (t' := (.array (.array .byte))) (by decide) (by decide)))
  have f23 := f12.other W14 (Or.inr (slot_ne (Or.inl (hw _ (List.mem_of_getElem? (i := 38) rfl))) (Or.inr (hw _ (List.mem_of_getElem? (i := 16) rfl))) (by decide) (t := .int) (t' := (.array (.array .byte))) (by decide) (by decide)))
  have f24 := f13.other W14 (Or.inr (slot_ne (Or.inl (hw _ (List.mem_of_getElem? (i := 41) rfl))) (Or.inr (hw _ (List.mem_of_getElem? (i := 16) rfl))) (by decide) (t := .int) (t' := (.array (.array .byte))) (by decide) (by decide)))
  have f25 := F3.other W14 (Nat.ne_of_gt lt_r_b3)
  show own_End p e below s _ _ _ (T14.setTop (mkF m 14 #[.val (.ref r)] []))
  refine own_go (fun t k => XS.aloadN X14.here hx rfl (hb hby d1_14) rfl rfl k) ?_
  show own_End p e below s _ _ _ (T14.setTop (mkF m 15 #[.val (.ref r)] [(.ref r)]))
  refine own_go (fun t k => XS.sipush X14.here hx rfl (hb hby d1_15) k) ?_
  show own_End p e below s _ _ _ (T14.setTop (mkF m 18 #[.val (.ref r)] [(.int (4096 : Int32)), (.ref r)]))
  obtain ⟨T26, h26, k26, X26, e26, E26, A26, st26⟩ := newP X14 hx hZ (hw _ (List.mem_of_getElem? (i := 17) rfl)) e14 (g := (mkF m 18 #[.val (.ref r)] [(.int (4096 : Int32)), (.ref r)])) rfl (hb hby d1_18) rfl (by decide) (cap := 4096) (by decide) (by decide) (by decide) (by decide)
  obtain ⟨b26, gb26⟩ : ∃ z, z = h14.size := ⟨_, rfl⟩
  rw [← gb26] at A26 st26
  have F26 := own_F.new A26 (n := 4096) (by decide) (by decide)
  have nb26 : n0 ≤ b26 := by rw [gb26]; exact Z14
  have Z26 : n0 ≤ h26.size := Nat.le_trans Z14 E26.1
  have lt_r_b26 : @LT.lt Nat _ r b26 := Nat.lt_of_lt_of_le f16.lt (Nat.le_of_eq gb26.symm)
  have lt_b3_b26 : @LT.lt Nat _ b3 b26 := Nat.lt_of_lt_of_le f25.lt (Nat.le_of_eq gb26.symm)
  have sb26 : h0.size ≤ b26 := by rw [gb26]; exact K15.1
  have K27 := K15.ext E26
  have f28 := f16.ext E26
  have f29 := f17.ext E26
  have f30 := f18.ext E26
  have f31 := f19.ext E26
  have f32 := f20.ext E26
  have f33 := f21.ext E26
  have f34 := f22.ext E26
  have f35 := f23.ext E26
  have f36 := f24.ext E26
  have f37 := f25.ext E26
  refine own_go st26 ?_
  show own_End p e below s _ _ _ (T26.setTop (mkF m 20 #[.val (.ref r)] [(.ref b26), (.ref r)]))
  obtain ⟨T38, h38, X38, e38, W38, st38⟩ := putF X26 hx hZ hown (host := "") (Or.inl (hw _ (List.mem_of_getElem? (i := 18) rfl))) Via.refl e26 f30 f28 (Or.inr ⟨(hw _ (List.mem_of_getElem? (i := 19) rfl)), rfl, hnm⟩) (hw _ (List.mem_of_getElem? (i := 5) rfl)) (ty := (.array .int)) (by decide) rfl rfl (g := (mkF m 20 #[.val (.ref r)] [(.ref b26), (.ref r)])) rfl rfl (hb hby d1_20)
  have N38 := Fr.snoc X38 N14 nr
  have Z38 : n0 ≤ h38.size := by rw [W38.size]; exact Z26
  refine own_go st38 ?_
  have K39 := K27.wr W38 (Or.inl (List.mem_of_getElem? (i := 0) rfl))
  have f40 := f28.wr W38
  have f41 := f29.other W38 (Or.inr (slot_ne (Or.inr (hw _ (List.mem_of_getElem? (i := 16) rfl))) (Or.inr (hw _ (List.mem_of_getElem? (i := 19) rfl))) (by decide) (t := (.array (.array .byte))) (t' := (.array .int)) (by decide) (by decide)))
  have f42 := f30.same W38
  have f43 := f31.other W38 (Or.inr (slot_ne (Or.inl (hw _ (List.mem_of_getElem? (i := 22) rfl))) (Or.inr (hw _ (List.mem_of_getElem? (i := 19) rfl))) (by decide) (t := (.array .int)) (t' := (.array .int)) (by decide) (by decide)))
  have f44 := f32.other W38 (Or.inr (slot_ne (Or.inr (hw _ (List.mem_of_getElem? (i := 24) rfl))) (Or.inr (hw _ (List.mem_of_getElem? (i := 19) rfl))) (by decide) (t := (.array .int)) (t' := (.array .int)) (by decide) (by decide)))
  have f45 := f33.other W38 (Or.inr (slot_ne (Or.inr (hw _ (List.mem_of_getElem? (i := 27) rfl))) (Or.inr (hw _ (List.mem_of_getElem? (i := 19) rfl))) (by decide) (t := (.array .long)) (t' := (.array .int)) (by decide) (by decide)))
  have f46 := f34.other W38 (Or.inr (slot_ne (Or.inr (hw _ (List.mem_of_getElem? (i := 30) rfl))) (Or.inr (hw _ (List.mem_of_getElem? (i := 19) rfl))) (by decide) (t := (.array .boolean)) (t' := (.array .int)) (by decide) (by decide)))
  have f47 := f35.other W38 (Or.inr (slot_ne (Or.inl (hw _ (List.mem_of_getElem? (i := 38) rfl))) (Or.inr (hw _ (List.mem_of_getElem? (i := 19) rfl))) (by decide) (t := .int) (t' := (.array .int)) (by decide) (by decide)))
  have f48 := f36.other W38 (Or.inr (slot_ne (Or.inl (hw _ (List.mem_of_getElem? (i := 41) rfl))) (Or.inr (hw _ (List.mem_of_getElem? (i := 19) rfl))) (by decide) (t := .int) (t' := (.array .int)) (by decide) (by decide)))
  have f49 := f37.other W38 (Nat.ne_of_gt lt_r_b3)
  have f50 := F26.other W38 (Nat.ne_of_gt lt_r_b26)
  show own_End p e below s _ _ _ (T38.setTop (mkF m 23 #[.val (.ref r)] []))
  refine own_go (fun t k => XS.aloadN X38.here hx rfl (hb hby d1_23) rfl rfl k) ?_
  show own_End p e below s _ _ _ (T38.setTop (mkF m 24 #[.val (.ref r)] [(.ref r)]))
  refine own_go (X38.ldcInt (own := "com/example/frage/frage/table/Records") (index := 19) (v := 65536) hx hown (mvT hZ (hw _ (List.mem_of_getElem? (i := 20) rfl))) (g := (mkF m 24 #[.val (.ref r)] [(.ref r)])) rfl (hb hby d1_24)) ?_
  show own_End p e below s _ _ _ (T38.setTop (mkF m 26 #[.val (.ref r)] [(.int (65536 : Int32)), (.ref r)]))
  obtain ⟨T51, h51, k51, X51, e51, E51, A51, st51⟩ := newP X38 hx hZ (hw _ (List.mem_of_getElem? (i := 17) rfl)) e38 (g := (mkF m 26 #[.val (.ref r)] [(.int (65536 : Int32)), (.ref r)])) rfl (hb hby d1_26) rfl (by decide) (cap := 65536) (by decide) (by decide) (by decide) (by decide)
  obtain ⟨b51, gb51⟩ : ∃ z, z = h38.size := ⟨_, rfl⟩
  rw [← gb51] at A51 st51
  have F51 := own_F.new A51 (n := 65536) (by decide) (by decide)
  have nb51 : n0 ≤ b51 := by rw [gb51]; exact Z38
  have Z51 : n0 ≤ h51.size := Nat.le_trans Z38 E51.1
  have lt_r_b51 : @LT.lt Nat _ r b51 := Nat.lt_of_lt_of_le f40.lt (Nat.le_of_eq gb51.symm)
  have lt_b3_b51 : @LT.lt Nat _ b3 b51 := Nat.lt_of_lt_of_le f49.lt (Nat.le_of_eq gb51.symm)
  have lt_b26_b51 : @LT.lt Nat _ b26 b51 := Nat.lt_of_lt_of_le f50.lt (Nat.le_of_eq gb51.symm)
  have sb51 : h0.size ≤ b51 := by rw [gb51]; exact K39.1
  have K52 := K39.ext E51
  have f53 := f40.ext E51
  have f54 := f41.ext E51
  have f55 := f42.ext E51
  have f56 := f43.ext E51
  have f57 := f44.ext E51
  have f58 := f45.ext E51
  have f59 := f46.ext E51
  have f60 := f47.ext E51
  have f61 := f48.ext E51
  have f62 := f49.ext E51
  have f63 := f50.ext E51
  refine own_go st51 ?_
  show own_End p e below s _ _ _ (T51.setTop (mkF m 28 #[.val (.ref r)] [(.ref b51), (.ref r)]))
  obtain ⟨T64, h64, X64, e64, W64, st64⟩ := putF X51 hx hZ hown (host := "") (Or.inl (hw _ (List.mem_of_getElem? (i := 21) rfl))) Via.refl e51 f56 f53 (Or.inl (hw _ (List.mem_of_getElem? (i := 22) rfl))) (hw _ (List.mem_of_getElem? (i := 5) rfl)) (ty := (.array .int)) (by decide) rfl rfl (g := (mkF m 28 #[.val (.ref r)] [(.ref b51), (.ref r)])) rfl rfl (hb hby d1_28)
  have N64 := Fr.snoc X64 N38 nr
  have Z64 : n0 ≤ h64.size := by rw [W64.size]; exact Z51
  refine own_go st64 ?_
  have K65 := K52.wr W64 (Or.inl (List.mem_of_getElem? (i := 0) rfl))
  have f66 := f53.wr W64
  have f67 := f54.other W64 (Or.inr (slot_ne (Or.inr (hw _ (List.mem_of_getElem? (i := 16) rfl))) (Or.inl (hw _ (List.mem_of_getElem? (i := 22) rfl))) (by decide) (t := (.array (.array .byte))) (t' := (.array .int)) (by decide) (by decide)))
  have f68 := f55.other W64 (Or.inr (slot_ne (Or.inr (hw _ (List.mem_of_getElem? (i := 19) rfl))) (Or.inl (hw _ (List.mem_of_getElem? (i := 22) rfl))) (by decide) (t := (.array .int)) (t' := (.array .int)) (by decide) (by decide)))
  have f69 := f56.same W64
  have f70 := f57.other W64 (Or.inr (slot_ne (Or.inr (hw _ (List.mem_of_getElem? (i := 24) rfl))) (Or.inl (hw _ (List.mem_of_getElem? (i := 22) rfl))) (by decide) (t := (.array .int)) (t' := (.array .int)) (by decide) (by decide)))
  have f71 := f58.other W64 (Or.inr (slot_ne (Or.inr (hw _ (List.mem_of_getElem? (i := 27) rfl))) (Or.inl (hw _ (List.mem_of_getElem? (i := 22) rfl))) (by decide) (t := (.array .long)) (t' := (.array .int)) (by decide) (by decide)))
  have f72 := f59.other W64 (Or.inr (slot_ne (Or.inr (hw _ (List.mem_of_getElem? (i := 30) rfl))) (Or.inl (hw _ (List.mem_of_getElem? (i := 22) rfl))) (by decide) (t := (.array .boolean)) (t' := (.array .int)) (by decide) (by decide)))
  have f73 := f60.other W64 (Or.inr (slot_ne (Or.inl (hw _ (List.mem_of_getElem? (i := 38) rfl))) (Or.inl (hw _ (List.mem_of_getElem? (i := 22) rfl))) (by decide) (t := .int) (t' := (.array .int)) (by decide) (by decide)))
  have f74 := f61.other W64 (Or.inr (slot_ne (Or.inl (hw _ (List.mem_of_getElem? (i := 41) rfl))) (Or.inl (hw _ (List.mem_of_getElem? (i := 22) rfl))) (by decide) (t := .int) (t' := (.array .int)) (by decide) (by decide)))
  have f75 := f62.other W64 (Nat.ne_of_gt lt_r_b3)
  have f76 := f63.other W64 (Nat.ne_of_gt lt_r_b26)
  have f77 := F51.other W64 (Nat.ne_of_gt lt_r_b51)
  show own_End p e below s _ _ _ (T64.setTop (mkF m 31 #[.val (.ref r)] []))
  refine own_go (fun t k => XS.aloadN X64.here hx rfl (hb hby d1_31) rfl rfl k) ?_
  show own_End p e below s _ _ _ (T64.setTop (mkF m 32 #[.val (.ref r)] [(.ref r)]))
  refine own_go (fun t k => XS.sipush X64.here hx rfl (hb hby d1_32) k) ?_
  show own_End p e below s _ _ _ (T64.setTop (mkF m 35 #[.val (.ref r)] [(.int (4097 : Int32)), (.ref r)]))
  obtain ⟨T78, h78, k78, X78, e78, E78, A78, st78⟩ := newP X64 hx hZ (hw _ (List.mem_of_getElem? (i := 17) rfl)) e64 (g := (mkF m 35 #[.val (.ref r)] [(.int (4097 : Int32)), (.ref r)])) rfl (hb hby d1_35) rfl (by decide) (cap := 4097) (by decide) (by decide) (by decide) (by decide)
  obtain ⟨b78, gb78⟩ : ∃ z, z = h64.size := ⟨_, rfl⟩
  rw [← gb78] at A78 st78
  have F78 := own_F.new A78 (n := 4097) (by decide) (by decide)
  have nb78 : n0 ≤ b78 := by rw [gb78]; exact Z64
  have Z78 : n0 ≤ h78.size := Nat.le_trans Z64 E78.1
  have lt_r_b78 : @LT.lt Nat _ r b78 := Nat.lt_of_lt_of_le f66.lt (Nat.le_of_eq gb78.symm)
  have lt_b3_b78 : @LT.lt Nat _ b3 b78 := Nat.lt_of_lt_of_le f75.lt (Nat.le_of_eq gb78.symm)
  have lt_b26_b78 : @LT.lt Nat _ b26 b78 := Nat.lt_of_lt_of_le f76.lt (Nat.le_of_eq gb78.symm)
  have lt_b51_b78 : @LT.lt Nat _ b51 b78 := Nat.lt_of_lt_of_le f77.lt (Nat.le_of_eq gb78.symm)
  have sb78 : h0.size ≤ b78 := by rw [gb78]; exact K65.1
  have K79 := K65.ext E78
  have f80 := f66.ext E78
  have f81 := f67.ext E78
  have f82 := f68.ext E78
  have f83 := f69.ext E78
  have f84 := f70.ext E78
  have f85 := f71.ext E78
  have f86 := f72.ext E78
  have f87 := f73.ext E78
  have f88 := f74.ext E78
  have f89 := f75.ext E78
  have f90 := f76.ext E78
  have f91 := f77.ext E78
  refine own_go st78 ?_
  show own_End p e below s _ _ _ (T78.setTop (mkF m 37 #[.val (.ref r)] [(.ref b78), (.ref r)]))
  obtain ⟨T92, h92, X92, e92, W92, st92⟩ := putF X78 hx hZ hown (host := "") (Or.inl (hw _ (List.mem_of_getElem? (i := 23) rfl))) Via.refl e78 f84 f80 (Or.inr ⟨(hw _ (List.mem_of_getElem? (i := 24) rfl)), rfl, hnm⟩) (hw _ (List.mem_of_getElem? (i := 5) rfl)) (ty := (.array .int)) (by decide) rfl rfl (g := (mkF m 37 #[.val (.ref r)] [(.ref b78), (.ref r)])) rfl rfl (hb hby d1_37)
  have N92 := Fr.snoc X92 N64 nr
  have Z92 : n0 ≤ h92.size := by rw [W92.size]; exact Z78
  refine own_go st92 ?_
  have K93 := K79.wr W92 (Or.inl (List.mem_of_getElem? (i := 0) rfl))
  have f94 := f80.wr W92
  have f95 := f81.other W92 (Or.inr (slot_ne (Or.inr (hw _ (List.mem_of_getElem? (i := 16) rfl))) (Or.inr (hw _ (List.mem_of_getElem? (i := 24) rfl))) (by decide) (t := (.array (.array .byte))) (t' := (.array .int)) (by decide) (by decide)))
  have f96 := f82.other W92 (Or.inr (slot_ne (Or.inr (hw _ (List.mem_of_getElem? (i := 19) rfl))) (Or.inr (hw _ (List.mem_of_getElem? (i := 24) rfl))) (by decide) (t := (.array .int)) (t' := (.array .int)) (by decide) (by decide)))
  have f97 := f83.other W92 (Or.inr (slot_ne (Or.inl (hw _ (List.mem_of_getElem? (i := 22) rfl))) (Or.inr (hw _ (List.mem_of_getElem? (i := 24) rfl))) (by decide) (t := (.array .int)) (t' := (.array .int)) (by decide) (by decide)))
  have f98 := f84.same W92
  have f99 := f85.other W92 (Or.inr (slot_ne (Or.inr (hw _ (List.mem_of_getElem? (i := 27) rfl))) (Or.inr (hw _ (List.mem_of_getElem? (i := 24) rfl))) (by decide) (t := (.array .long)) (t' := (.array .int)) (by decide) (by decide)))
  have f100 := f86.other W92 (Or.inr (slot_ne (Or.inr (hw _ (List.mem_of_getElem? (i := 30) rfl))) (Or.inr (hw _ (List.mem_of_getElem? (i := 24) rfl))) (by decide) (t := (.array .boolean)) (t' := (.array .int)) (by decide) (by decide)))
  have f101 := f87.other W92 (Or.inr (slot_ne (Or.inl (hw _ (List.mem_of_getElem? (i := 38) rfl))) (Or.inr (hw _ (List.mem_of_getElem? (i := 24) rfl))) (by decide) (t := .int) (t' := (.array .int)) (by decide) (by decide)))
  have f102 := f88.other W92 (Or.inr (slot_ne (Or.inl (hw _ (List.mem_of_getElem? (i := 41) rfl))) (Or.inr (hw _ (List.mem_of_getElem? (i := 24) rfl))) (by decide) (t := .int) (t' := (.array .int)) (by decide) (by decide)))
  have f103 := f89.other W92 (Nat.ne_of_gt lt_r_b3)
  have f104 := f90.other W92 (Nat.ne_of_gt lt_r_b26)
  have f105 := f91.other W92 (Nat.ne_of_gt lt_r_b51)
  have f106 := F78.other W92 (Nat.ne_of_gt lt_r_b78)
  show own_End p e below s _ _ _ (T92.setTop (mkF m 40 #[.val (.ref r)] []))
  refine own_go (fun t k => XS.aloadN X92.here hx rfl (hb hby d1_40) rfl rfl k) ?_
  show own_End p e below s _ _ _ (T92.setTop (mkF m 41 #[.val (.ref r)] [(.ref r)]))
  refine own_go (fun t k => XS.sipush X92.here hx rfl (hb hby d1_41) k) ?_
  show own_End p e below s _ _ _ (T92.setTop (mkF m 44 #[.val (.ref r)] [(.int (4096 : Int32)), (.ref r)]))
  obtain ⟨T107, h107, k107, X107, e107, E107, A107, st107⟩ := newP X92 hx hZ (hw _ (List.mem_of_getElem? (i := 25) rfl)) e92 (g := (mkF m 44 #[.val (.ref r)] [(.int (4096 : Int32)), (.ref r)])) rfl (hb hby d1_44) rfl (by decide) (cap := 4096) (by decide) (by decide) (by decide) (by decide)
  obtain ⟨b107, gb107⟩ : ∃ z, z = h92.size := ⟨_, rfl⟩
  rw [← gb107] at A107 st107
  have F107 := own_F.new A107 (n := 4096) (by decide) (by decide)
  have nb107 : n0 ≤ b107 := by rw [gb107]; exact Z92
  have Z107 : n0 ≤ h107.size := Nat.le_trans Z92 E107.1
  have lt_r_b107 : @LT.lt Nat _ r b107 := Nat.lt_of_lt_of_le f94.lt (Nat.le_of_eq gb107.symm)
  have lt_b3_b107 : @LT.lt Nat _ b3 b107 := Nat.lt_of_lt_of_le f103.lt (Nat.le_of_eq gb107.symm)
  have lt_b26_b107 : @LT.lt Nat _ b26 b107 := Nat.lt_of_lt_of_le f104.lt (Nat.le_of_eq gb107.symm)
  have lt_b51_b107 : @LT.lt Nat _ b51 b107 := Nat.lt_of_lt_of_le f105.lt (Nat.le_of_eq gb107.symm)
  have lt_b78_b107 : @LT.lt Nat _ b78 b107 := Nat.lt_of_lt_of_le f106.lt (Nat.le_of_eq gb107.symm)
  have sb107 : h0.size ≤ b107 := by rw [gb107]; exact K93.1
  have K108 := K93.ext E107
  have f109 := f94.ext E107
  have f110 := f95.ext E107
  have f111 := f96.ext E107
  have f112 := f97.ext E107
  have f113 := f98.ext E107
  have f114 := f99.ext E107
  have f115 := f100.ext E107
  have f116 := f101.ext E107
  have f117 := f102.ext E107
  have f118 := f103.ext E107
  have f119 := f104.ext E107
  have f120 := f105.ext E107
  have f121 := f106.ext E107
  refine own_go st107 ?_
  show own_End p e below s _ _ _ (T107.setTop (mkF m 46 #[.val (.ref r)] [(.ref b107), (.ref r)]))
  obtain ⟨T122, h122, X122, e122, W122, st122⟩ := putF X107 hx hZ hown (host := "") (Or.inl (hw _ (List.mem_of_getElem? (i := 26) rfl))) Via.refl e107 f114 f109 (Or.inr ⟨(hw _ (List.mem_of_getElem? (i := 27) rfl)), rfl, hnm⟩) (hw _ (List.mem_of_getElem? (i := 5) rfl)) (ty := (.array .long)) (by decide) rfl rfl (g := (mkF m 46 #[.val (.ref r)] [(.ref b107), (.ref r)])) rfl rfl (hb hby d1_46)
  have N122 := Fr.snoc X122 N92 nr
  have Z122 : n0 ≤ h122.size := by rw [W122.size]; exact Z107
  refine own_go st122 ?_
  have K123 := K108.wr W122 (Or.inl (List.mem_of_getElem? (i := 0) rfl))
  have f124 := f109.wr W122
  have f125 := f110.other W122 (Or.inr (slot_ne (Or.inr (hw _ (List.mem_of_getElem? (i := 16) rfl))) (Or.inr (hw _ (List.mem_of_getElem? (i := 27) rfl))) (by decide) (t := (.array (.array .byte))) (t' := (.array .long)) (by decide) (by decide)))
  have f126 := f111.other W122 (Or.inr (slot_ne (Or.inr (hw _ (List.mem_of_getElem? (i := 19) rfl))) (Or.inr (hw _ (List.mem_of_getElem? (i := 27) rfl))) (by decide) (t := (.array .int)) (t' := (.array .long)) (by decide) (by decide)))
  have f127 := f112.other W122 (Or.inr (slot_ne (Or.inl (hw _ (List.mem_of_getElem? (i := 22) rfl))) (Or.inr (hw _ (List.mem_of_getElem? (i := 27) rfl))) (by decide) (t := (.array .int)) (t' := (.array .long)) (by decide) (by decide)))
  have f128 := f113.other W122 (Or.inr (slot_ne (Or.inr (hw _ (List.mem_of_getElem? (i := 24) rfl))) (Or.inr (hw _ (List.mem_of_getElem? (i := 27) rfl))) (by decide) (t := (.array .int)) (t' := (.array .long)) (by decide) (by decide)))
  have f129 := f114.same W122
  have f130 := f115.other W122 (Or.inr (slot_ne (Or.inr (hw _ (List.mem_of_getElem? (i := 30) rfl))) (Or.inr (hw _ (List.mem_of_getElem? (i := 27) rfl))) (by decide) (t := (.array .boolean)) (t' := (.array .long)) (by decide) (by decide)))
  have f131 := f116.other W122 (Or.inr (slot_ne (Or.inl (hw _ (List.mem_of_getElem? (i := 38) rfl))) (Or.inr (hw _ (List.mem_of_getElem? (i := 27) rfl))) (by decide) (t := .int) (t' := (.array .long)) (by decide) (by decide)))
  have f132 := f117.other W122 (Or.inr (slot_ne (Or.inl (hw _ (List.mem_of_getElem? (i := 41) rfl))) (Or.inr (hw _ (List.mem_of_getElem? (i := 27) rfl))) (by decide) (t := .int) (t' := (.array .long)) (by decide) (by decide)))
  have f133 := f118.other W122 (Nat.ne_of_gt lt_r_b3)
  have f134 := f119.other W122 (Nat.ne_of_gt lt_r_b26)
  have f135 := f120.other W122 (Nat.ne_of_gt lt_r_b51)
  have f136 := f121.other W122 (Nat.ne_of_gt lt_r_b78)
  have f137 := F107.other W122 (Nat.ne_of_gt lt_r_b107)
  show own_End p e below s _ _ _ (T122.setTop (mkF m 49 #[.val (.ref r)] []))
  refine own_go (fun t k => XS.aloadN X122.here hx rfl (hb hby d1_49) rfl rfl k) ?_
  show own_End p e below s _ _ _ (T122.setTop (mkF m 50 #[.val (.ref r)] [(.ref r)]))
  refine own_go (fun t k => XS.sipush X122.here hx rfl (hb hby d1_50) k) ?_
  show own_End p e below s _ _ _ (T122.setTop (mkF m 53 #[.val (.ref r)] [(.int (4096 : Int32)), (.ref r)]))
  obtain ⟨T138, h138, k138, X138, e138, E138, A138, st138⟩ := newP X122 hx hZ (hw _ (List.mem_of_getElem? (i := 28) rfl)) e122 (g := (mkF m 53 #[.val (.ref r)] [(.int (4096 : Int32)), (.ref r)])) rfl (hb hby d1_53) rfl (by decide) (cap := 4096) (by decide) (by decide) (by decide) (by decide)
  obtain ⟨b138, gb138⟩ : ∃ z, z = h122.size := ⟨_, rfl⟩
  rw [← gb138] at A138 st138
  have F138 := own_F.new A138 (n := 4096) (by decide) (by decide)
  have nb138 : n0 ≤ b138 := by rw [gb138]; exact Z122
  have Z138 : n0 ≤ h138.size := Nat.le_trans Z122 E138.1
  have lt_r_b138 : @LT.lt Nat _ r b138 := Nat.lt_of_lt_of_le f124.lt (Nat.le_of_eq gb138.symm)
  have lt_b3_b138 : @LT.lt Nat _ b3 b138 := Nat.lt_of_lt_of_le f133.lt (Nat.le_of_eq gb138.symm)
  have lt_b26_b138 : @LT.lt Nat _ b26 b138 := Nat.lt_of_lt_of_le f134.lt (Nat.le_of_eq gb138.symm)
  have lt_b51_b138 : @LT.lt Nat _ b51 b138 := Nat.lt_of_lt_of_le f135.lt (Nat.le_of_eq gb138.symm)
  have lt_b78_b138 : @LT.lt Nat _ b78 b138 := Nat.lt_of_lt_of_le f136.lt (Nat.le_of_eq gb138.symm)
  have lt_b107_b138 : @LT.lt Nat _ b107 b138 := Nat.lt_of_lt_of_le f137.lt (Nat.le_of_eq gb138.symm)
  have sb138 : h0.size ≤ b138 := by rw [gb138]; exact K123.1
  have K139 := K123.ext E138
  have f140 := f124.ext E138
  have f141 := f125.ext E138
  have f142 := f126.ext E138
  have f143 := f127.ext E138
  have f144 := f128.ext E138
  have f145 := f129.ext E138
  have f146 := f130.ext E138
  have f147 := f131.ext E138
  have f148 := f132.ext E138
  have f149 := f133.ext E138
  have f150 := f134.ext E138
  have f151 := f135.ext E138
  have f152 := f136.ext E138
  have f153 := f137.ext E138
  refine own_go st138 ?_
  show own_End p e below s _ _ _ (T138.setTop (mkF m 55 #[.val (.ref r)] [(.ref b138), (.ref r)]))
  obtain ⟨T154, h154, X154, e154, W154, st154⟩ := putF X138 hx hZ hown (host := "") (Or.inl (hw _ (List.mem_of_getElem? (i := 29) rfl))) Via.refl e138 f146 f140 (Or.inr ⟨(hw _ (List.mem_of_getElem? (i := 30) rfl)), rfl, hnm⟩) (hw _ (List.mem_of_getElem? (i := 5) rfl)) (ty := (.array .boolean)) (by decide) rfl rfl (g := (mkF m 55 #[.val (.ref r)] [(.ref b138), (.ref r)])) rfl rfl (hb hby d1_55)
  have N154 := Fr.snoc X154 N122 nr
  have Z154 : n0 ≤ h154.size := by rw [W154.size]; exact Z138
  refine own_go st154 ?_
  have K155 := K139.wr W154 (Or.inl (List.mem_of_getElem? (i := 0) rfl))
  have f156 := f140.wr W154
  have f157 := f141.other W154 (Or.inr (slot_ne (Or.inr (hw _ (List.mem_of_getElem? (i := 16) rfl))) (Or.inr (hw _ (List.mem_of_getElem? (i := 30) rfl))) (by decide) (t := (.array (.array .byte))) (t' := (.array .boolean)) (by decide) (by decide)))
  have f158 := f142.other W154 (Or.inr (slot_ne (Or.inr (hw _ (List.mem_of_getElem? (i := 19) rfl))) (Or.inr (hw _ (List.mem_of_getElem? (i := 30) rfl))) (by decide) (t := (.array .int)) (t' := (.array .boolean)) (by decide) (by decide)))
  have f159 := f143.other W154 (Or.inr (slot_ne (Or.inl (hw _ (List.mem_of_getElem? (i := 22) rfl))) (Or.inr (hw _ (List.mem_of_getElem? (i := 30) rfl))) (by decide) (t := (.array .int)) (t' := (.array .boolean)) (by decide) (by decide)))
  have f160 := f144.other W154 (Or.inr (slot_ne (Or.inr (hw _ (List.mem_of_getElem? (i := 24) rfl))) (Or.inr (hw _ (List.mem_of_getElem? (i := 30) rfl))) (by decide) (t := (.array .int)) (t' := (.array .boolean)) (by decide) (by decide)))
  have f161 := f145.other W154 (Or.inr (slot_ne (Or.inr (hw _ (List.mem_of_getElem? (i := 27) rfl))) (Or.inr (hw _ (List.mem_of_getElem? (i := 30) rfl))) (by decide) (t := (.array .long)) (t' := (.array .boolean)) (by decide) (by decide)))
  have f162 := f146.same W154
  have f163 := f147.other W154 (Or.inr (slot_ne (Or.inl (hw _ (List.mem_of_getElem? (i := 38) rfl))) (Or.inr (hw _ (List.mem_of_getElem? (i := 30) rfl))) (by decide) (t := .int) (t' := (.array .boolean)) (by decide) (by decide)))
  have f164 := f148.other W154 (Or.inr (slot_ne (Or.inl (hw _ (List.mem_of_getElem? (i := 41) rfl))) (Or.inr (hw _ (List.mem_of_getElem? (i := 30) rfl))) (by decide) (t := .int) (t' := (.array .boolean)) (by decide) (by decide)))
  have f165 := f149.other W154 (Nat.ne_of_gt lt_r_b3)
  have f166 := f150.other W154 (Nat.ne_of_gt lt_r_b26)
  have f167 := f151.other W154 (Nat.ne_of_gt lt_r_b51)
  have f168 := f152.other W154 (Nat.ne_of_gt lt_r_b78)
  have f169 := f153.other W154 (Nat.ne_of_gt lt_r_b107)
  have f170 := F138.other W154 (Nat.ne_of_gt lt_r_b138)
  show own_End p e below s _ _ _ (T154.setTop (mkF m 58 #[.val (.ref r)] []))
  exact own_ret X154 hx hret hlk (hb hby d1_58) ⟨rfl, N154, by rw [e154]; exact K155, b3, b26, b51, b78, b107, b138, k3, k26, k51, k78, k107, k138, ⟨lt_r_b3, lt_b3_b26, lt_b26_b51, lt_b51_b78, lt_b78_b107, lt_b107_b138⟩, O3, by rw [e154]; exact ⟨f165, f166, f167, f168, f169, f170, f157, f158, f159, f160, f161, f162, f163, f164⟩⟩ (by decide) (by decide)
set_option maxRecDepth 65536 in
set_option maxHeartbeats 40000000 in
theorem rm3 (l : Launch) (Z : State) (a0 : Array Value) (hw : ∀ d ∈ tables_1, d.before a0 Z = true) (ws : List Jvm.Cond) (r : Addr) (t : Addr) (sta : Int32) (eto : Int32) (lin : Int64) (sep : Int32) (h0 : Heap) (n0 : Nat) (Z0 : n0 ≤ h0.size) (tx st en fe li es : Addr) (ktx kst ken kfe kli kes : ClassId) (gtx gst gen gfe gli ges : Nat → Value) (cnt byt : Int32) (hord : @LT.lt Nat _ r tx ∧ @LT.lt Nat _ tx st ∧ @LT.lt Nat _ st en ∧ @LT.lt Nat _ en fe ∧ @LT.lt Nat _ fe li ∧ @LT.lt Nat _ li es) (nr : n0 ≤ r) (E0 : Exa Z h0 r "com/example/frage/frage/table/Records") (F_tx : own_F Z h0 tx ktx (.array .byte) 4096 gtx) (F_st : own_F Z h0 st kst .int 4096 gst) (F_en : own_F Z h0 en ken .int 65536 gen) (F_fe : own_F Z h0 fe kfe .int 4097 gfe) (F_li : own_F Z h0 li kli .long 4096 gli) (F_es : own_F Z h0 es kes .boolean 4096 ges) (f_texts : Fld Z h0 r "com/example/frage/frage/table/Records" "texts" "[[B" (.ref tx)) (f_starts : Fld Z h0 r "com/example/frage/frage/table/Records" "starts" "[I" (.ref st)) (f_ends : Fld Z h0 r "com/example/frage/frage/table/Records" "ends" "[I" (.ref en)) (f_firstEnds : Fld Z h0 r "com/example/frage/frage/table/Records" "firstEnds" "[I" (.ref fe)) (f_lines : Fld Z h0 r "com/example/frage/frage/table/Records" "lines" "[J" (.ref li)) (f_endsWithSeparator : Fld Z h0 r "com/example/frage/frage/table/Records" "endsWithSeparator" "[Z" (.ref es)) (f_count : Fld Z h0 r "com/example/frage/frage/table/Records" "count" "I" (.int cnt)) (f_bytes : Fld Z h0 r "com/example/frage/frage/table/Records" "bytes" "I" (.int byt)) (O : OvrA Z ktx .byte "[B") (Et : Exa Z h0 t "[B") (i me : Nat) (xl : Int32) (hi : cnt.toInt = i) (hi1 : (cnt + (1 : Int32)).toInt = ((i + 1 : Nat) : Int)) (hi2 : i < 4096) (hme : (eto - (1 : Int32)).toInt = me) (hme2 : me < 65536) (hxl : gen me = .int xl) :
    own_Met l (⟨"com/example/frage/frage/table/Records", "add", "([BIIJZ)V"⟩ : MethodName) prog_42_method_5_code 7 none ws ({ frames := 0, cells := 0, slots := 0, locals := 0 } : Room) #[(.ref r), (.ref t), (.int sta), (.int eto), (.long lin), (.int sep)] Z h0 (fun v h L => v = none ∧ Fr n0 L ∧ Keep h0 h [r, tx, st, fe, li, es] ∧ own_F Z h tx ktx (.array .byte) 4096 (own_up gtx i (.ref t)) ∧ own_F Z h st kst .int 4096 (own_up gst i (.int sta)) ∧ own_F Z h en ken .int 65536 gen ∧ own_F Z h fe kfe .int 4097 (own_up gfe (i + 1) (.int eto)) ∧ own_F Z h li kli .long 4096 (own_up gli i (.long lin)) ∧ own_F Z h es kes .boolean 4096 (own_up ges i (.int (nar .boolean sep))) ∧ Fld Z h r "com/example/frage/frage/table/Records" "texts" "[[B" (.ref tx) ∧ Fld Z h r "com/example/frage/frage/table/Records" "starts" "[I" (.ref st) ∧ Fld Z h r "com/example/frage/frage/table/Records" "ends" "[I" (.ref en) ∧ Fld Z h r "com/example/frage/frage/table/Records" "firstEnds" "[I" (.ref fe) ∧ Fld Z h r "com/example/frage/frage/table/Records" "lines" "[J" (.ref li) ∧ Fld Z h r "com/example/frage/frage/table/Records" "endsWithSeparator" "[Z" (.ref es) ∧ Fld Z h r "com/example/frage/frage/table/Records" "count" "I" (.int (cnt + (1 : Int32))) ∧ Fld Z h r "com/example/frage/frage/table/Records" "bytes" "I" (.int (byt + xl))) := by
  refine own_body (plainFor_of_name pn_Records) ?_
  intro p e s m below meth c s0 X0 hx hby hml hret hlk hown hnm hZ e0
  replace hown : s.vm.findClass "com/example/frage/frage/table/Records" = some m.cls := hown
  have N0 := Fr.nil n0
  have ef : entryFrame m #[(.ref r), (.ref t), (.int sta), (.int eto), (.long lin), (.int sep)] 7 = (mkF m 0 #[.val (.ref r), .val (.ref t), .val (.int sta), .val (.int eto), .val (.long lin), .second, .val (.int sep)] []) := by first | (simp [entryFrame, mkF, argsToLocals, Value.category, maxLocals]; done) | rfl
  rw [ef]
  show own_End p e below s _ _ _ (s0.setTop (mkF m 0 #[.val (.ref r), .val (.ref t), .val (.int sta), .val (.int eto), .val (.long lin), .second, .val (.int sep)] []))
  have K171 := Keep.refl h0 [r, tx, st, fe, li, es]
  have ntx : n0 ≤ tx := by omega
  have nst : n0 ≤ st := by omega
  have nfe : n0 ≤ fe := by omega
  have nli : n0 ≤ li := by omega
  have nes : n0 ≤ es := by omega
  refine own_go (fun t k => XS.aloadN X0.here hx rfl (hb hby d3_0) rfl rfl k) ?_
  show own_End p e below s _ _ _ (s0.setTop (mkF m 1 #[.val (.ref r), .val (.ref t), .val (.int sta), .val (.int eto), .val (.long lin), .second, .val (.int sep)] [(.ref r)]))
  obtain ⟨T172, X172, e172, st172⟩ := getF X0 hx hZ hown (host := "") (Or.inl (hw _ (List.mem_of_getElem? (i := 15) rfl))) Via.refl e0 f_texts (g := (mkF m 1 #[.val (.ref r), .val (.ref t), .val (.int sta), .val (.int eto), .val (.long lin), .second, .val (.int sep)] [(.ref r)])) rfl rfl (hb hby d3_1)
  refine own_go st172 ?_
  show own_End p e below s _ _ _ (T172.setTop (mkF m 4 #[.val (.ref r), .val (.ref t), .val (.int sta), .val (.int eto), .val (.long lin), .second, .val (.int sep)] [(.ref tx)]))
  refine own_go (fun t k => XS.aloadN X172.here hx rfl (hb hby d3_4) rfl rfl k) ?_
  show own_End p e below s _ _ _ (T172.setTop (mkF m 5 #[.val (.ref r), .val (.ref t), .val (.int sta), .val (.int eto), .val (.long lin), .second, .val (.int sep)] [(.ref r), (.ref tx)]))
  obtain ⟨T173, X173, e173, st173⟩ := getF X172 hx hZ hown (host := "") (Or.inl (hw _ (List.mem_of_getElem? (i := 37) rfl))) Via.refl e172 f_count (g := (mkF m 5 #[.val (.ref r), .val (.ref t), .val (.int sta), .val (.int eto), .val (.long lin), .second, .val (.int sep)] [(.ref r), (.ref tx)])) rfl rfl (hb hby d3_5)
  refine own_go st173 ?_
  show own_End p e below s _ _ _ (T173.setTop (mkF m 8 #[.val (.ref r), .val (.ref t), .val (.int sta), .val (.int eto), .val (.long lin), .second, .val (.int sep)] [(.int cnt), (.ref tx)]))
  refine own_go (fun t k => XS.aloadN X173.here hx rfl (hb hby d3_8) rfl rfl k) ?_
  show own_End p e below s _ _ _ (T173.setTop (mkF m 9 #[.val (.ref r), .val (.ref t), .val (.int sta), .val (.int eto), .val (.long lin), .second, .val (.int sep)] [(.ref t), (.int cnt), (.ref tx)]))
  obtain ⟨T174, h174, X174, e174, W174, F174, st174⟩ := own_fstA X173 hx hZ e173 F_tx rfl (F_tx.sto O Et) (j := cnt) (v := (.ref t)) i hi (by omega) (pc := 9) (Ls := #[.val (.ref r), .val (.ref t), .val (.int sta), .val (.int eto), .val (.long lin), .second, .val (.int sep)]) (rest := []) (hb hby d3_9)
  have N174 := Fr.snoc X174 N0 ntx
  have Z174 : n0 ≤ h174.size := by rw [W174.size]; exact Z0
  refine own_go st174 ?_
  have K175 := K171.wr W174 (Or.inl (List.mem_of_getElem? (i := 1) rfl))
  have f176 := E0.wr W174
  have f177 := Et.wr W174
  have f178 := f_texts.other W174 (Or.inl (Nat.ne_of_lt (by omega)))
  have f179 := f_starts.other W174 (Or.inl (Nat.ne_of_lt (by omega)))
  have f180 := f_ends.other W174 (Or.inl (Nat.ne_of_lt (by omega)))
  have f181 := f_firstEnds.other W174 (Or.inl (Nat.ne_of_lt (by omega)))
  have f182 := f_lines.other W174 (Or.inl (Nat.ne_of_lt (by omega)))
  have f183 := f_endsWithSeparator.other W174 (Or.inl (Nat.ne_of_lt (by omega)))
  have f184 := f_count.other W174 (Or.inl (Nat.ne_of_lt (by omega)))
  have f185 := f_bytes.other W174 (Or.inl (Nat.ne_of_lt (by omega)))
  have f187 := F_st.other W174 (Nat.ne_of_gt (by omega))
  have f188 := F_en.other W174 (Nat.ne_of_gt (by omega))
  have f189 := F_fe.other W174 (Nat.ne_of_gt (by omega))
  have f190 := F_li.other W174 (Nat.ne_of_gt (by omega))
  have f191 := F_es.other W174 (Nat.ne_of_gt (by omega))
  show own_End p e below s _ _ _ (T174.setTop (mkF m 10 #[.val (.ref r), .val (.ref t), .val (.int sta), .val (.int eto), .val (.long lin), .second, .val (.int sep)] []))
  refine own_go (fun t k => XS.aloadN X174.here hx rfl (hb hby d3_10) rfl rfl k) ?_
  show own_End p e below s _ _ _ (T174.setTop (mkF m 11 #[.val (.ref r), .val (.ref t), .val (.int sta), .val (.int eto), .val (.long lin), .second, .val (.int sep)] [(.ref r)]))
  obtain ⟨T192, X192, e192, st192⟩ := getF X174 hx hZ hown (host := "") (Or.inl (hw _ (List.mem_of_getElem? (i := 18) rfl))) Via.refl e174 f179 (g := (mkF m 11 #[.val (.ref r), .val (.ref t), .val (.int sta), .val (.int eto), .val (.long lin), .second, .val (.int sep)] [(.ref r)])) rfl rfl (hb hby d3_11)
  refine own_go st192 ?_
  show own_End p e below s _ _ _ (T192.setTop (mkF m 14 #[.val (.ref r), .val (.ref t), .val (.int sta), .val (.int eto), .val (.long lin), .second, .val (.int sep)] [(.ref st)]))
  refine own_go (fun t k => XS.aloadN X192.here hx rfl (hb hby d3_14) rfl rfl k) ?_
  show own_End p e below s _ _ _ (T192.setTop (mkF m 15 #[.val (.ref r), .val (.ref t), .val (.int sta), .val (.int eto), .val (.long lin), .second, .val (.int sep)] [(.ref r), (.ref st)]))
  obtain ⟨T193, X193, e193, st193⟩ := getF X192 hx hZ hown (host := "") (Or.inl (hw _ (List.mem_of_getElem? (i := 37) rfl))) Via.refl e192 f184 (g := (mkF m 15 #[.val (.ref r), .val (.ref t), .val (.int sta), .val (.int eto), .val (.long lin), .second, .val (.int sep)] [(.ref r), (.ref st)])) rfl rfl (hb hby d3_15)
  refine own_go st193 ?_
  show own_End p e below s _ _ _ (T193.setTop (mkF m 18 #[.val (.ref r), .val (.ref t), .val (.int sta), .val (.int eto), .val (.long lin), .second, .val (.int sep)] [(.int cnt), (.ref st)]))
  refine own_go (fun t k => XS.iloadN X193.here hx rfl (hb hby d3_18) rfl k) ?_
  show own_End p e below s _ _ _ (T193.setTop (mkF m 19 #[.val (.ref r), .val (.ref t), .val (.int sta), .val (.int eto), .val (.long lin), .second, .val (.int sep)] [(.int sta), (.int cnt), (.ref st)]))
  obtain ⟨T194, h194, X194, e194, W194, F194, st194⟩ := own_fstI X193 hx hZ e193 f187 (j := cnt) (x := sta) i hi (by omega) (pc := 19) (Ls := #[.val (.ref r), .val (.ref t), .val (.int sta), .val (.int eto), .val (.long lin), .second, .val (.int sep)]) (rest := []) (hb hby d3_19)
  have N194 := Fr.snoc X194 N174 nst
  have Z194 : n0 ≤ h194.size := by rw [W194.size]; exact Z174
  refine own_go st194 ?_
  have K195 := K175.wr W194 (Or.inl (List.mem_of_getElem? (i := 2) rfl))
  have f196 := f176.wr W194
  have f197 := f177.wr W194
  have f198 := f178.other W194 (Or.inl (Nat.ne_of_lt (by omega)))
  have f199 := f179.other W194 (Or.inl (Nat.ne_of_lt (by omega)))
  have f200 := f180.other W194 (Or.inl (Nat.ne_of_lt (by omega)))
  have f201 := f181.other W194 (Or.inl (Nat.ne_of_lt (by omega)))
  have f202 := f182.other W194 (Or.inl (Nat.ne_of_lt (by omega)))
  have f203 := f183.other W194 (Or.inl (Nat.ne_of_lt (by omega)))
  have f204 := f184.other W194 (Or.inl (Nat.ne_of_lt (by omega)))
  have f205 := f185.other W194 (Or.inl (Nat.ne_of_lt (by omega)))
  have f206 := F174.other W194 (Nat.ne_of_lt (by omega))
  have f208 := f188.other W194 (Nat.ne_of_gt (by omega))
  have f209 := f189.other W194 (Nat.ne_of_gt (by omega))
  have f210 := f190.other W194 (Nat.ne_of_gt (by omega))
  have f211 := f191.other W194 (Nat.ne_of_gt (by omega))
  show own_End p e below s _ _ _ (T194.setTop (mkF m 20 #[.val (.ref r), .val (.ref t), .val (.int sta), .val (.int eto), .val (.long lin), .second, .val (.int sep)] []))
  refine own_go (fun t k => XS.aloadN X194.here hx rfl (hb hby d3_20) rfl rfl k) ?_
  show own_End p e below s _ _ _ (T194.setTop (mkF m 21 #[.val (.ref r), .val (.ref t), .val (.int sta), .val (.int eto), .val (.long lin), .second, .val (.int sep)] [(.ref r)]))
  obtain ⟨T212, X212, e212, st212⟩ := getF X194 hx hZ hown (host := "") (Or.inl (hw _ (List.mem_of_getElem? (i := 26) rfl))) Via.refl e194 f202 (g := (mkF m 21 #[.val (.ref r), .val (.ref t), .val (.int sta), .val (.int eto), .val (.long lin), .second, .val (.int sep)] [(.ref r)])) rfl rfl (hb hby d3_21)
  refine own_go st212 ?_
  show own_End p e below s _ _ _ (T212.setTop (mkF m 24 #[.val (.ref r), .val (.ref t), .val (.int sta), .val (.int eto), .val (.long lin), .second, .val (.int sep)] [(.ref li)]))
  refine own_go (fun t k => XS.aloadN X212.here hx rfl (hb hby d3_24) rfl rfl k) ?_
  show own_End p e below s _ _ _ (T212.setTop (mkF m 25 #[.val (.ref r), .val (.ref t), .val (.int sta), .val (.int eto), .val (.long lin), .second, .val (.int sep)] [(.ref r), (.ref li)]))
  obtain ⟨T213, X213, e213, st213⟩ := getF X212 hx hZ hown (host := "") (Or.inl (hw _ (List.mem_of_getElem? (i := 37) rfl))) Via.refl e212 f204 (g := (mkF m 25 #[.val (.ref r), .val (.ref t), .val (.int sta), .val (.int eto), .val (.long lin), .second, .val (.int sep)] [(.ref r), (.ref li)])) rfl rfl (hb hby d3_25)
  refine own_go st213 ?_
  show own_End p e below s _ _ _ (T213.setTop (mkF m 28 #[.val (.ref r), .val (.ref t), .val (.int sta), .val (.int eto), .val (.long lin), .second, .val (.int sep)] [(.int cnt), (.ref li)]))
  refine own_go (fun t k => XT.lload X213.here hx rfl (hb hby d3_28) rfl k) ?_
  show own_End p e below s _ _ _ (T213.setTop (mkF m 30 #[.val (.ref r), .val (.ref t), .val (.int sta), .val (.int eto), .val (.long lin), .second, .val (.int sep)] [(.long lin), (.int cnt), (.ref li)]))
  obtain ⟨T214, h214, X214, e214, W214, F214, st214⟩ := own_fstJ X213 hx hZ e213 f210 (j := cnt) (y := lin) i hi (by omega) (pc := 30) (Ls := #[.val (.ref r), .val (.ref t), .val (.int sta), .val (.int eto), .val (.long lin), .second, .val (.int sep)]) (rest := []) (hb hby d3_30)
  have N214 := Fr.snoc X214 N194 nli
  have Z214 : n0 ≤ h214.size := by rw [W214.size]; exact Z194
  refine own_go st214 ?_
  have K215 := K195.wr W214 (Or.inl (List.mem_of_getElem? (i := 4) rfl))
  have f216 := f196.wr W214
  have f217 := f197.wr W214
  have f218 := f198.other W214 (Or.inl (Nat.ne_of_lt (by omega)))
  have f219 := f199.other W214 (Or.inl (Nat.ne_of_lt (by omega)))
  have f220 := f200.other W214 (Or.inl (Nat.ne_of_lt (by omega)))
  have f221 := f201.other W214 (Or.inl (Nat.ne_of_lt (by omega)))
  have f222 := f202.other W214 (Or.inl (Nat.ne_of_lt (by omega)))
  have f223 := f203.other W214 (Or.inl (Nat.ne_of_lt (by omega)))
  have f224 := f204.other W214 (Or.inl (Nat.ne_of_lt (by omega)))
  have f225 := f205.other W214 (Or.inl (Nat.ne_of_lt (by omega)))
  have f226 := f206.other W214 (Nat.ne_of_lt (by omega))
  have f227 := F194.other W214 (Nat.ne_of_lt (by omega))
  have f228 := f208.other W214 (Nat.ne_of_lt (by omega))
  have f229 := f209.other W214 (Nat.ne_of_lt (by omega))
  have f231 := f211.other W214 (Nat.ne_of_gt (by omega))
  show own_End p e below s _ _ _ (T214.setTop (mkF m 31 #[.val (.ref r), .val (.ref t), .val (.int sta), .val (.int eto), .val (.long lin), .second, .val (.int sep)] []))
  refine own_go (fun t k => XS.aloadN X214.here hx rfl (hb hby d3_31) rfl rfl k) ?_
  show own_End p e below s _ _ _ (T214.setTop (mkF m 32 #[.val (.ref r), .val (.ref t), .val (.int sta), .val (.int eto), .val (.long lin), .second, .val (.int sep)] [(.ref r)]))
  obtain ⟨T232, X232, e232, st232⟩ := getF X214 hx hZ hown (host := "") (Or.inl (hw _ (List.mem_of_getElem? (i := 29) rfl))) Via.refl e214 f223 (g := (mkF m 32 #[.val (.ref r), .val (.ref t), .val (.int sta), .val (.int eto), .val (.long lin), .second, .val (.int sep)] [(.ref r)])) rfl rfl (hb hby d3_32)
  refine own_go st232 ?_
  show own_End p e below s _ _ _ (T232.setTop (mkF m 35 #[.val (.ref r), .val (.ref t), .val (.int sta), .val (.int eto), .val (.long lin), .second, .val (.int sep)] [(.ref es)]))
  refine own_go (fun t k => XS.aloadN X232.here hx rfl (hb hby d3_35) rfl rfl k) ?_
  show own_End p e below s _ _ _ (T232.setTop (mkF m 36 #[.val (.ref r), .val (.ref t), .val (.int sta), .val (.int eto), .val (.long lin), .second, .val (.int sep)] [(.ref r), (.ref es)]))
  obtain ⟨T233, X233, e233, st233⟩ := getF X232 hx hZ hown (host := "") (Or.inl (hw _ (List.mem_of_getElem? (i := 37) rfl))) Via.refl e232 f224 (g := (mkF m 36 #[.val (.ref r), .val (.ref t), .val (.int sta), .val (.int eto), .val (.long lin), .second, .val (.int sep)] [(.ref r), (.ref es)])) rfl rfl (hb hby d3_36)
  refine own_go st233 ?_
  show own_End p e below s _ _ _ (T233.setTop (mkF m 39 #[.val (.ref r), .val (.ref t), .val (.int sta), .val (.int eto), .val (.long lin), .second, .val (.int sep)] [(.int cnt), (.ref es)]))
  refine own_go (fun t k => XS.iload X233.here hx rfl (hb hby d3_39) rfl k) ?_
  show own_End p e below s _ _ _ (T233.setTop (mkF m 41 #[.val (.ref r), .val (.ref t), .val (.int sta), .val (.int eto), .val (.long lin), .second, .val (.int sep)] [(.int sep), (.int cnt), (.ref es)]))
  obtain ⟨T234, h234, X234, e234, W234, F234, st234⟩ := own_fstZ X233 hx hZ e233 f231 (j := cnt) (x := sep) i hi (by omega) (pc := 41) (Ls := #[.val (.ref r), .val (.ref t), .val (.int sta), .val (.int eto), .val (.long lin), .second, .val (.int sep)]) (rest := []) (hb hby d3_41)
  have N234 := Fr.snoc X234 N214 nes
  have Z234 : n0 ≤ h234.size := by rw [W234.size]; exact Z214
  refine own_go st234 ?_
  have K235 := K215.wr W234 (Or.inl (List.mem_of_getElem? (i := 5) rfl))
  have f236 := f216.wr W234
  have f237 := f217.wr W234
  have f238 := f218.other W234 (Or.inl (Nat.ne_of_lt (by omega)))
  have f239 := f219.other W234 (Or.inl (Nat.ne_of_lt (by omega)))
  have f240 := f220.other W234 (Or.inl (Nat.ne_of_lt (by omega)))
  have f241 := f221.other W234 (Or.inl (Nat.ne_of_lt (by omega)))
  have f242 := f222.other W234 (Or.inl (Nat.ne_of_lt (by omega)))
  have f243 := f223.other W234 (Or.inl (Nat.ne_of_lt (by omega)))
  have f244 := f224.other W234 (Or.inl (Nat.ne_of_lt (by omega)))
  have f245 := f225.other W234 (Or.inl (Nat.ne_of_lt (by omega)))
  have f246 := f226.other W234 (Nat.ne_of_lt (by omega))
  have f247 := f227.other W234 (Nat.ne_of_lt (by omega))
  have f248 := f228.other W234 (Nat.ne_of_lt (by omega))
  have f249 := f229.other W234 (Nat.ne_of_lt (by omega))
  have f250 := F214.other W234 (Nat.ne_of_lt (by omega))
  show own_End p e below s _ _ _ (T234.setTop (mkF m 42 #[.val (.ref r), .val (.ref t), .val (.int sta), .val (.int eto), .val (.long lin), .second, .val (.int sep)] []))
  refine own_go (fun t k => XS.aloadN X234.here hx rfl (hb hby d3_42) rfl rfl k) ?_
  show own_End p e below s _ _ _ (T234.setTop (mkF m 43 #[.val (.ref r), .val (.ref t), .val (.int sta), .val (.int eto), .val (.long lin), .second, .val (.int sep)] [(.ref r)]))
  refine own_go (fun t k => XS.dup X234.here hx rfl (hb hby d3_43) rfl rfl k) ?_
  show own_End p e below s _ _ _ (T234.setTop (mkF m 44 #[.val (.ref r), .val (.ref t), .val (.int sta), .val (.int eto), .val (.long lin), .second, .val (.int sep)] [(.ref r), (.ref r)]))
  obtain ⟨T252, X252, e252, st252⟩ := getF X234 hx hZ hown (host := "") (Or.inl (hw _ (List.mem_of_getElem? (i := 40) rfl))) Via.refl e234 f245 (g := (mkF m 44 #[.val (.ref r), .val (.ref t), .val (.int sta), .val (.int eto), .val (.long lin), .second, .val (.int sep)] [(.ref r), (.ref r)])) rfl rfl (hb hby d3_44)
  refine own_go st252 ?_
  show own_End p e below s _ _ _ (T252.setTop (mkF m 47 #[.val (.ref r), .val (.ref t), .val (.int sta), .val (.int eto), .val (.long lin), .second, .val (.int sep)] [(.int byt), (.ref r)]))
  refine own_go (fun t k => XS.aloadN X252.here hx rfl (hb hby d3_47) rfl rfl k) ?_
  show own_End p e below s _ _ _ (T252.setTop (mkF m 48 #[.val (.ref r), .val (.ref t), .val (.int sta), .val (.int eto), .val (.long lin), .second, .val (.int sep)] [(.ref r), (.int byt), (.ref r)]))
  obtain ⟨T253, X253, e253, st253⟩ := getF X252 hx hZ hown (host := "") (Or.inl (hw _ (List.mem_of_getElem? (i := 21) rfl))) Via.refl e252 f240 (g := (mkF m 48 #[.val (.ref r), .val (.ref t), .val (.int sta), .val (.int eto), .val (.long lin), .second, .val (.int sep)] [(.ref r), (.int byt), (.ref r)])) rfl rfl (hb hby d3_48)
  refine own_go st253 ?_
  show own_End p e below s _ _ _ (T253.setTop (mkF m 51 #[.val (.ref r), .val (.ref t), .val (.int sta), .val (.int eto), .val (.long lin), .second, .val (.int sep)] [(.ref en), (.int byt), (.ref r)]))
  refine own_go (fun t k => XS.iloadN X253.here hx rfl (hb hby d3_51) rfl k) ?_
  show own_End p e below s _ _ _ (T253.setTop (mkF m 52 #[.val (.ref r), .val (.ref t), .val (.int sta), .val (.int eto), .val (.long lin), .second, .val (.int sep)] [(.int eto), (.ref en), (.int byt), (.ref r)]))
  refine own_go (fun t k => XS.iconst X253.here hx rfl (hb hby d3_52) k) ?_
  show own_End p e below s _ _ _ (T253.setTop (mkF m 53 #[.val (.ref r), .val (.ref t), .val (.int sta), .val (.int eto), .val (.long lin), .second, .val (.int sep)] [(.int (1 : Int32)), (.int eto), (.ref en), (.int byt), (.ref r)]))
  refine own_go (fun t k => XS.isub X253.here hx rfl (hb hby d3_53) rfl k) ?_
  show own_End p e below s _ _ _ (T253.setTop (mkF m 54 #[.val (.ref r), .val (.ref t), .val (.int sta), .val (.int eto), .val (.long lin), .second, .val (.int sep)] [(.int (eto - (1 : Int32))), (.ref en), (.int byt), (.ref r)]))
  refine own_go (own_fldI X253 hx hZ e253 f248 (j := (eto - (1 : Int32))) (v := (.int xl)) me hme hme2 hxl (pc := 54) (Ls := #[.val (.ref r), .val (.ref t), .val (.int sta), .val (.int eto), .val (.long lin), .second, .val (.int sep)]) (rest := [(.int byt), (.ref r)]) (hb hby d3_54)) ?_
  show own_End p e below s _ _ _ (T253.setTop (mkF m 55 #[.val (.ref r), .val (.ref t), .val (.int sta), .val (.int eto), .val (.long lin), .second, .val (.int sep)] [(.int xl), (.int byt), (.ref r)]))
  refine own_go (fun t k => XS.iadd X253.here hx rfl (hb hby d3_55) rfl k) ?_
  show own_End p e below s _ _ _ (T253.setTop (mkF m 56 #[.val (.ref r), .val (.ref t), .val (.int sta), .val (.int eto), .val (.long lin), .second, .val (.int sep)] [(.int (byt + xl)), (.ref r)]))
  obtain ⟨T254, h254, X254, e254, W254, st254⟩ := putF X253 hx hZ hown (host := "") (Or.inl (hw _ (List.mem_of_getElem? (i := 40) rfl))) Via.refl e253 f245 f236 (Or.inl (hw _ (List.mem_of_getElem? (i := 41) rfl))) (hw _ (List.mem_of_getElem? (i := 5) rfl)) (ty := .int) (by decide) rfl rfl (g := (mkF m 56 #[.val (.ref r), .val (.ref t), .val (.int sta), .val (.int eto), .val (.long lin), .second, .val (.int sep)] [(.int (byt + xl)), (.ref r)])) rfl rfl (hb hby d3_56)
  have N254 := Fr.snoc X254 N234 nr
  have Z254 : n0 ≤ h254.size := by rw [W254.size]; exact Z234
  refine own_go st254 ?_
  have K255 := K235.wr W254 (Or.inl (List.mem_of_getElem? (i := 0) rfl))
  have f256 := f236.wr W254
  have f257 := f237.wr W254
  have f258 := f238.other W254 (Or.inr (slot_ne (Or.inr (hw _ (List.mem_of_getElem? (i := 16) rfl))) (Or.inl (hw _ (List.mem_of_getElem? (i := 41) rfl))) (by decide) (t := (.array (.array .byte))) (t' := .int) (by decide) (by decide)))
  have f259 := f239.other W254 (Or.inr (slot_ne (Or.inr (hw _ (List.mem_of_getElem? (i := 19) rfl))) (Or.inl (hw _ (List.mem_of_getElem? (i := 41) rfl))) (by decide) (t := (.array .int)) (t' := .int) (by decide) (by decide)))
  have f260 := f240.other W254 (Or.inr (slot_ne (Or.inl (hw _ (List.mem_of_getElem? (i := 22) rfl))) (Or.inl (hw _ (List.mem_of_getElem? (i := 41) rfl))) (by decide) (t := (.array .int)) (t' := .int) (by decide) (by decide)))
  have f261 := f241.other W254 (Or.inr (slot_ne (Or.inr (hw _ (List.mem_of_getElem? (i := 24) rfl))) (Or.inl (hw _ (List.mem_of_getElem? (i := 41) rfl))) (by decide) (t := (.array .int)) (t' := .int) (by decide) (by decide)))
  have f262 := f242.other W254 (Or.inr (slot_ne (Or.inr (hw _ (List.mem_of_getElem? (i := 27) rfl))) (Or.inl (hw _ (List.mem_of_getElem? (i := 41) rfl))) (by decide) (t := (.array .long)) (t' := .int) (by decide) (by decide)))
  have f263 := f243.other W254 (Or.inr (slot_ne (Or.inr (hw _ (List.mem_of_getElem? (i := 30) rfl))) (Or.inl (hw _ (List.mem_of_getElem? (i := 41) rfl))) (by decide) (t := (.array .boolean)) (t' := .int) (by decide) (by decide)))
  have f264 := f244.other W254 (Or.inr (slot_ne (Or.inl (hw _ (List.mem_of_getElem? (i := 38) rfl))) (Or.inl (hw _ (List.mem_of_getElem? (i := 41) rfl))) (by decide) (t := .int) (t' := .int) (by decide) (by decide)))
  have f265 := f245.same W254
  have f266 := f246.other W254 (Nat.ne_of_gt (by omega))
  have f267 := f247.other W254 (Nat.ne_of_gt (by omega))
  have f268 := f248.other W254 (Nat.ne_of_gt (by omega))
  have f269 := f249.other W254 (Nat.ne_of_gt (by omega))
  have f270 := f250.other W254 (Nat.ne_of_gt (by omega))
  have f271 := F234.other W254 (Nat.ne_of_gt (by omega))
  show own_End p e below s _ _ _ (T254.setTop (mkF m 59 #[.val (.ref r), .val (.ref t), .val (.int sta), .val (.int eto), .val (.long lin), .second, .val (.int sep)] []))
  refine own_go (fun t k => XS.aloadN X254.here hx rfl (hb hby d3_59) rfl rfl k) ?_
  show own_End p e below s _ _ _ (T254.setTop (mkF m 60 #[.val (.ref r), .val (.ref t), .val (.int sta), .val (.int eto), .val (.long lin), .second, .val (.int sep)] [(.ref r)]))
  obtain ⟨T272, X272, e272, st272⟩ := getF X254 hx hZ hown (host := "") (Or.inl (hw _ (List.mem_of_getElem? (i := 23) rfl))) Via.refl e254 f261 (g := (mkF m 60 #[.val (.ref r), .val (.ref t), .val (.int sta), .val (.int eto), .val (.long lin), .second, .val (.int sep)] [(.ref r)])) rfl rfl (hb hby d3_60)
  refine own_go st272 ?_
  show own_End p e below s _ _ _ (T272.setTop (mkF m 63 #[.val (.ref r), .val (.ref t), .val (.int sta), .val (.int eto), .val (.long lin), .second, .val (.int sep)] [(.ref fe)]))
  refine own_go (fun t k => XS.aloadN X272.here hx rfl (hb hby d3_63) rfl rfl k) ?_
  show own_End p e below s _ _ _ (T272.setTop (mkF m 64 #[.val (.ref r), .val (.ref t), .val (.int sta), .val (.int eto), .val (.long lin), .second, .val (.int sep)] [(.ref r), (.ref fe)]))
  refine own_go (fun t k => XS.dup X272.here hx rfl (hb hby d3_64) rfl rfl k) ?_
  show own_End p e below s _ _ _ (T272.setTop (mkF m 65 #[.val (.ref r), .val (.ref t), .val (.int sta), .val (.int eto), .val (.long lin), .second, .val (.int sep)] [(.ref r), (.ref r), (.ref fe)]))
  obtain ⟨T273, X273, e273, st273⟩ := getF X272 hx hZ hown (host := "") (Or.inl (hw _ (List.mem_of_getElem? (i := 37) rfl))) Via.refl e272 f264 (g := (mkF m 65 #[.val (.ref r), .val (.ref t), .val (.int sta), .val (.int eto), .val (.long lin), .second, .val (.int sep)] [(.ref r), (.ref r), (.ref fe)])) rfl rfl (hb hby d3_65)
  refine own_go st273 ?_
  show own_End p e below s _ _ _ (T273.setTop (mkF m 68 #[.val (.ref r), .val (.ref t), .val (.int sta), .val (.int eto), .val (.long lin), .second, .val (.int sep)] [(.int cnt), (.ref r), (.ref fe)]))
  refine own_go (fun t k => XS.iconst X273.here hx rfl (hb hby d3_68) k) ?_
  show own_End p e below s _ _ _ (T273.setTop (mkF m 69 #[.val (.ref r), .val (.ref t), .val (.int sta), .val (.int eto), .val (.long lin), .second, .val (.int sep)] [(.int (1 : Int32)), (.int cnt), (.ref r), (.ref fe)]))
  refine own_go (fun t k => XS.iadd X273.here hx rfl (hb hby d3_69) rfl k) ?_
  show own_End p e below s _ _ _ (T273.setTop (mkF m 70 #[.val (.ref r), .val (.ref t), .val (.int sta), .val (.int eto), .val (.long lin), .second, .val (.int sep)] [(.int (cnt + (1 : Int32))), (.ref r), (.ref fe)]))
  refine own_go (fun t k => XT.dupX1 X273.here hx rfl (hb hby d3_70) rfl rfl rfl k) ?_
  show own_End p e below s _ _ _ (T273.setTop (mkF m 71 #[.val (.ref r), .val (.ref t), .val (.int sta), .val (.int eto), .val (.long lin), .second, .val (.int sep)] [(.int (cnt + (1 : Int32))), (.ref r), (.int (cnt + (1 : Int32))), (.ref fe)]))
  obtain ⟨T274, h274, X274, e274, W274, st274⟩ := putF X273 hx hZ hown (host := "") (Or.inl (hw _ (List.mem_of_getElem? (i := 37) rfl))) Via.refl e273 f264 f256 (Or.inl (hw _ (List.mem_of_getElem? (i := 38) rfl))) (hw _ (List.mem_of_getElem? (i := 5) rfl)) (ty := .int) (by decide) rfl rfl (g := (mkF m 71 #[.val (.ref r), .val (.ref t), .val (.int sta), .val (.int eto), .val (.long lin), .second, .val (.int sep)] [(.int (cnt + (1 : Int32))), (.ref r), (.int (cnt + (1 : Int32))), (.ref fe)])) rfl rfl (hb hby d3_71)
  have N274 := Fr.snoc X274 N254 nr
  have Z274 : n0 ≤ h274.size := by rw [W274.size]; exact Z254
  refine own_go st274 ?_
  have K275 := K255.wr W274 (Or.inl (List.mem_of_getElem? (i := 0) rfl))
  have f276 := f256.wr W274
  have f277 := f257.wr W274
  have f278 := f258.other W274 (Or.inr (slot_ne (Or.inr (hw _ (List.mem_of_getElem? (i := 16) rfl))) (Or.inl (hw _ (List.mem_of_getElem? (i := 38) rfl))) (by decide) (t := (.array (.array .byte))) (t' := .int) (by decide) (by decide)))
  have f279 := f259.other W274 (Or.inr (slot_ne (Or.inr (hw _ (List.mem_of_getElem? (i := 19) rfl))) (Or.inl (hw _ (List.mem_of_getElem? (i := 38) rfl))) (by decide) (t := (.array .int)) (t' := .int) (by decide) (by decide)))
  have f280 := f260.other W274 (Or.inr (slot_ne (Or.inl (hw _ (List.mem_of_getElem? (i := 22) rfl))) (Or.inl (hw _ (List.mem_of_getElem? (i := 38) rfl))) (by decide) (t := (.array .int)) (t' := .int) (by decide) (by decide)))
  have f281 := f261.other W274 (Or.inr (slot_ne (Or.inr (hw _ (List.mem_of_getElem? (i := 24) rfl))) (Or.inl (hw _ (List.mem_of_getElem? (i := 38) rfl))) (by decide) (t := (.array .int)) (t' := .int) (by decide) (by decide)))
  have f282 := f262.other W274 (Or.inr (slot_ne (Or.inr (hw _ (List.mem_of_getElem? (i := 27) rfl))) (Or.inl (hw _ (List.mem_of_getElem? (i := 38) rfl))) (by decide) (t := (.array .long)) (t' := .int) (by decide) (by decide)))
  have f283 := f263.other W274 (Or.inr (slot_ne (Or.inr (hw _ (List.mem_of_getElem? (i := 30) rfl))) (Or.inl (hw _ (List.mem_of_getElem? (i := 38) rfl))) (by decide) (t := (.array .boolean)) (t' := .int) (by decide) (by decide)))
  have f284 := f264.same W274
  have f285 := f265.other W274 (Or.inr (slot_ne (Or.inl (hw _ (List.mem_of_getElem? (i := 41) rfl))) (Or.inl (hw _ (List.mem_of_getElem? (i := 38) rfl))) (by decide) (t := .int) (t' := .int) (by decide) (by decide)))
  have f286 := f266.other W274 (Nat.ne_of_gt (by omega))
  have f287 := f267.other W274 (Nat.ne_of_gt (by omega))
  have f288 := f268.other W274 (Nat.ne_of_gt (by omega))
  have f289 := f269.other W274 (Nat.ne_of_gt (by omega))
  have f290 := f270.other W274 (Nat.ne_of_gt (by omega))
  have f291 := f271.other W274 (Nat.ne_of_gt (by omega))
  show own_End p e below s _ _ _ (T274.setTop (mkF m 74 #[.val (.ref r), .val (.ref t), .val (.int sta), .val (.int eto), .val (.long lin), .second, .val (.int sep)] [(.int (cnt + (1 : Int32))), (.ref fe)]))
  refine own_go (fun t k => XS.iloadN X274.here hx rfl (hb hby d3_74) rfl k) ?_
  show own_End p e below s _ _ _ (T274.setTop (mkF m 75 #[.val (.ref r), .val (.ref t), .val (.int sta), .val (.int eto), .val (.long lin), .second, .val (.int sep)] [(.int eto), (.int (cnt + (1 : Int32))), (.ref fe)]))
  obtain ⟨T292, h292, X292, e292, W292, F292, st292⟩ := own_fstI X274 hx hZ e274 f289 (j := (cnt + (1 : Int32))) (x := eto) (i + 1) hi1 (by omega) (pc := 75) (Ls := #[.val (.ref r), .val (.ref t), .val (.int sta), .val (.int eto), .val (.long lin), .second, .val (.int sep)]) (rest := []) (hb hby d3_75)
  have N292 := Fr.snoc X292 N274 nfe
  have Z292 : n0 ≤ h292.size := by rw [W292.size]; exact Z274
  refine own_go st292 ?_
  have K293 := K275.wr W292 (Or.inl (List.mem_of_getElem? (i := 3) rfl))
  have f294 := f276.wr W292
  have f295 := f277.wr W292
  have f296 := f278.other W292 (Or.inl (Nat.ne_of_lt (by omega)))
  have f297 := f279.other W292 (Or.inl (Nat.ne_of_lt (by omega)))
  have f298 := f280.other W292 (Or.inl (Nat.ne_of_lt (by omega)))
  have f299 := f281.other W292 (Or.inl (Nat.ne_of_lt (by omega)))
  have f300 := f282.other W292 (Or.inl (Nat.ne_of_lt (by omega)))
  have f301 := f283.other W292 (Or.inl (Nat.ne_of_lt (by omega)))
  have f302 := f284.other W292 (Or.inl (Nat.ne_of_lt (by omega)))
  have f303 := f285.other W292 (Or.inl (Nat.ne_of_lt (by omega)))
  have f304 := f286.other W292 (Nat.ne_of_lt (by omega))
  have f305 := f287.other W292 (Nat.ne_of_lt (by omega))
  have f306 := f288.other W292 (Nat.ne_of_lt (by omega))
  have f308 := f290.other W292 (Nat.ne_of_gt (by omega))
  have f309 := f291.other W292 (Nat.ne_of_gt (by omega))
  show own_End p e below s _ _ _ (T292.setTop (mkF m 76 #[.val (.ref r), .val (.ref t), .val (.int sta), .val (.int eto), .val (.long lin), .second, .val (.int sep)] []))
  exact own_ret X292 hx hret hlk (hb hby d3_76) ⟨rfl, N292, by rw [e292]; exact K293, by rw [e292]; exact ⟨f304, f305, f306, F292, f308, f309, f296, f297, f298, f299, f300, f301, f302, f303⟩⟩ (by decide) (by decide)
set_option maxRecDepth 65536 in
set_option maxHeartbeats 40000000 in
theorem rm4 (l : Launch) (Z : State) (a0 : Array Value) (hw : ∀ d ∈ tables_1, d.before a0 Z = true) (ws : List Jvm.Cond) (r : Addr) (rc1 : Int32) (h0 : Heap) (n0 : Nat) (Z0 : n0 ≤ h0.size) (tx st en fe li es : Addr) (ktx kst ken kfe kli kes : ClassId) (gtx gst gen gfe gli ges : Nat → Value) (cnt byt : Int32) (hord : @LT.lt Nat _ r tx ∧ @LT.lt Nat _ tx st ∧ @LT.lt Nat _ st en ∧ @LT.lt Nat _ en fe ∧ @LT.lt Nat _ fe li ∧ @LT.lt Nat _ li es) (nr : n0 ≤ r) (E0 : Exa Z h0 r "com/example/frage/frage/table/Records") (F_tx : own_F Z h0 tx ktx (.array .byte) 4096 gtx) (F_st : own_F Z h0 st kst .int 4096 gst) (F_en : own_F Z h0 en ken .int 65536 gen) (F_fe : own_F Z h0 fe kfe .int 4097 gfe) (F_li : own_F Z h0 li kli .long 4096 gli) (F_es : own_F Z h0 es kes .boolean 4096 ges) (f_texts : Fld Z h0 r "com/example/frage/frage/table/Records" "texts" "[[B" (.ref tx)) (f_starts : Fld Z h0 r "com/example/frage/frage/table/Records" "starts" "[I" (.ref st)) (f_ends : Fld Z h0 r "com/example/frage/frage/table/Records" "ends" "[I" (.ref en)) (f_firstEnds : Fld Z h0 r "com/example/frage/frage/table/Records" "firstEnds" "[I" (.ref fe)) (f_lines : Fld Z h0 r "com/example/frage/frage/table/Records" "lines" "[J" (.ref li)) (f_endsWithSeparator : Fld Z h0 r "com/example/frage/frage/table/Records" "endsWithSeparator" "[Z" (.ref es)) (f_count : Fld Z h0 r "com/example/frage/frage/table/Records" "count" "I" (.int cnt)) (f_bytes : Fld Z h0 r "com/example/frage/frage/table/Records" "bytes" "I" (.int byt)) (j : Nat) (u0 u1 : Int32) (hj : rc1.toInt = j) (hj1 : (rc1 + (1 : Int32)).toInt = ((j + 1 : Nat) : Int)) (hj2 : j < 4096) (hu0 : gfe j = .int u0) (hu1 : gfe (j + 1) = .int u1) :
    own_Met l (⟨"com/example/frage/frage/table/Records", "fields", "(I)I"⟩ : MethodName) prog_42_method_3_code 2 (some .int) ws ({ frames := 0, cells := 0, slots := 0, locals := 0 } : Room) #[(.ref r), (.int rc1)] Z h0 (fun v h L => v = some (.int (u1 - u0)) ∧ Fr n0 L ∧ h = h0) := by
  refine own_body (plainFor_of_name pn_Records) ?_
  intro p e s m below meth c s0 X0 hx hby hml hret hlk hown hnm hZ e0
  replace hown : s.vm.findClass "com/example/frage/frage/table/Records" = some m.cls := hown
  have N0 := Fr.nil n0
  have ef : entryFrame m #[(.ref r), (.int rc1)] 2 = (mkF m 0 #[.val (.ref r), .val (.int rc1)] []) := by first | (simp [entryFrame, mkF, argsToLocals, Value.category, maxLocals]; done) | rfl
  rw [ef]
  show own_End p e below s _ _ _ (s0.setTop (mkF m 0 #[.val (.ref r), .val (.int rc1)] []))
  refine own_go (fun t k => XS.aloadN X0.here hx rfl (hb hby d4_0) rfl rfl k) ?_
  show own_End p e below s _ _ _ (s0.setTop (mkF m 1 #[.val (.ref r), .val (.int rc1)] [(.ref r)]))
  obtain ⟨T310, X310, e310, st310⟩ := getF X0 hx hZ hown (host := "") (Or.inl (hw _ (List.mem_of_getElem? (i := 23) rfl))) Via.refl e0 f_firstEnds (g := (mkF m 1 #[.val (.ref r), .val (.int rc1)] [(.ref r)])) rfl rfl (hb hby d4_1)
  refine own_go st310 ?_
  show own_End p e below s _ _ _ (T310.setTop (mkF m 4 #[.val (.ref r), .val (.int rc1)] [(.ref fe)]))
  refine own_go (fun t k => XS.iloadN X310.here hx rfl (hb hby d4_4) rfl k) ?_
  show own_End p e below s _ _ _ (T310.setTop (mkF m 5 #[.val (.ref r), .val (.int rc1)] [(.int rc1), (.ref fe)]))
  refine own_go (fun t k => XS.iconst X310.here hx rfl (hb hby d4_5) k) ?_
  show own_End p e below s _ _ _ (T310.setTop (mkF m 6 #[.val (.ref r), .val (.int rc1)] [(.int (1 : Int32)), (.int rc1), (.ref fe)]))
  refine own_go (fun t k => XS.iadd X310.here hx rfl (hb hby d4_6) rfl k) ?_
  show own_End p e below s _ _ _ (T310.setTop (mkF m 7 #[.val (.ref r), .val (.int rc1)] [(.int (rc1 + (1 : Int32))), (.ref fe)]))
  refine own_go (own_fldI X310 hx hZ e310 F_fe (j := (rc1 + (1 : Int32))) (v := (.int u1)) (j + 1) hj1 (by omega) hu1 (pc := 7) (Ls := #[.val (.ref r), .val (.int rc1)]) (rest := []) (hb hby d4_7)) ?_
  show own_End p e below s _ _ _ (T310.setTop (mkF m 8 #[.val (.ref r), .val (.int rc1)] [(.int u1)]))
  refine own_go (fun t k => XS.aloadN X310.here hx rfl (hb hby d4_8) rfl rfl k) ?_
  show own_End p e below s _ _ _ (T310.setTop (mkF m 9 #[.val (.ref r), .val (.int rc1)] [(.ref r), (.int u1)]))
  obtain ⟨T311, X311, e311, st311⟩ := getF X310 hx hZ hown (host := "") (Or.inl (hw _ (List.mem_of_getElem? (i := 23) rfl))) Via.refl e310 f_firstEnds (g := (mkF m 9 #[.val (.ref r), .val (.int rc1)] [(.ref r), (.int u1)])) rfl rfl (hb hby d4_9)
  refine own_go st311 ?_
  show own_End p e below s _ _ _ (T311.setTop (mkF m 12 #[.val (.ref r), .val (.int rc1)] [(.ref fe), (.int u1)]))
  refine own_go (fun t k => XS.iloadN X311.here hx rfl (hb hby d4_12) rfl k) ?_
  show own_End p e below s _ _ _ (T311.setTop (mkF m 13 #[.val (.ref r), .val (.int rc1)] [(.int rc1), (.ref fe), (.int u1)]))
  refine own_go (own_fldI X311 hx hZ e311 F_fe (j := rc1) (v := (.int u0)) j hj (by omega) hu0 (pc := 13) (Ls := #[.val (.ref r), .val (.int rc1)]) (rest := [(.int u1)]) (hb hby d4_13)) ?_
  show own_End p e below s _ _ _ (T311.setTop (mkF m 14 #[.val (.ref r), .val (.int rc1)] [(.int u0), (.int u1)]))
  refine own_go (fun t k => XS.isub X311.here hx rfl (hb hby d4_14) rfl k) ?_
  show own_End p e below s _ _ _ (T311.setTop (mkF m 15 #[.val (.ref r), .val (.int rc1)] [(.int (u1 - u0))]))
  exact own_retI X311 hx hret hlk (hb hby d4_15) ⟨rfl, N0, e311⟩ (by decide) (by decide)
set_option maxRecDepth 65536 in
set_option maxHeartbeats 40000000 in
theorem rm5 (l : Launch) (Z : State) (a0 : Array Value) (hw : ∀ d ∈ tables_1, d.before a0 Z = true) (ws : List Jvm.Cond) (r : Addr) (h0 : Heap) (n0 : Nat) (Z0 : n0 ≤ h0.size) (tx st en fe li es : Addr) (ktx kst ken kfe kli kes : ClassId) (gtx gst gen gfe gli ges : Nat → Value) (cnt byt : Int32) (hord : @LT.lt Nat _ r tx ∧ @LT.lt Nat _ tx st ∧ @LT.lt Nat _ st en ∧ @LT.lt Nat _ en fe ∧ @LT.lt Nat _ fe li ∧ @LT.lt Nat _ li es) (nr : n0 ≤ r) (E0 : Exa Z h0 r "com/example/frage/frage/table/Records") (F_tx : own_F Z h0 tx ktx (.array .byte) 4096 gtx) (F_st : own_F Z h0 st kst .int 4096 gst) (F_en : own_F Z h0 en ken .int 65536 gen) (F_fe : own_F Z h0 fe kfe .int 4097 gfe) (F_li : own_F Z h0 li kli .long 4096 gli) (F_es : own_F Z h0 es kes .boolean 4096 ges) (f_texts : Fld Z h0 r "com/example/frage/frage/table/Records" "texts" "[[B" (.ref tx)) (f_starts : Fld Z h0 r "com/example/frage/frage/table/Records" "starts" "[I" (.ref st)) (f_ends : Fld Z h0 r "com/example/frage/frage/table/Records" "ends" "[I" (.ref en)) (f_firstEnds : Fld Z h0 r "com/example/frage/frage/table/Records" "firstEnds" "[I" (.ref fe)) (f_lines : Fld Z h0 r "com/example/frage/frage/table/Records" "lines" "[J" (.ref li)) (f_endsWithSeparator : Fld Z h0 r "com/example/frage/frage/table/Records" "endsWithSeparator" "[Z" (.ref es)) (f_count : Fld Z h0 r "com/example/frage/frage/table/Records" "count" "I" (.int cnt)) (f_bytes : Fld Z h0 r "com/example/frage/frage/table/Records" "bytes" "I" (.int byt)) (hc : cnt.toInt < 4096) :
    own_Met l (⟨"com/example/frage/frage/table/Records", "full", "()Z"⟩ : MethodName) prog_42_method_2_code 1 (some .boolean) ws ({ frames := 0, cells := 0, slots := 0, locals := 0 } : Room) #[(.ref r)] Z h0 (fun v h L => v = some (.int (if 262144 ≤ byt.toInt then 1 else 0)) ∧ Fr n0 L ∧ h = h0) := by
  refine own_body (plainFor_of_name pn_Records) ?_
  intro p e s m below meth c s0 X0 hx hby hml hret hlk hown hnm hZ e0
  replace hown : s.vm.findClass "com/example/frage/frage/table/Records" = some m.cls := hown
  have N0 := Fr.nil n0
  have ef : entryFrame m #[(.ref r)] 1 = (mkF m 0 #[.val (.ref r)] []) := by first | (simp [entryFrame, mkF, argsToLocals, Value.category, maxLocals]; done) | rfl
  rw [ef]
  show own_End p e below s _ _ _ (s0.setTop (mkF m 0 #[.val (.ref r)] []))
  refine own_go (fun t k => XS.aloadN X0.here hx rfl (hb hby d5_0) rfl rfl k) ?_
  show own_End p e below s _ _ _ (s0.setTop (mkF m 1 #[.val (.ref r)] [(.ref r)]))
  obtain ⟨T312, X312, e312, st312⟩ := getF X0 hx hZ hown (host := "") (Or.inl (hw _ (List.mem_of_getElem? (i := 37) rfl))) Via.refl e0 f_count (g := (mkF m 1 #[.val (.ref r)] [(.ref r)])) rfl rfl (hb hby d5_1)
  refine own_go st312 ?_
  show own_End p e below s _ _ _ (T312.setTop (mkF m 4 #[.val (.ref r)] [(.int cnt)]))
  refine own_go (fun t k => XS.sipush X312.here hx rfl (hb hby d5_4) k) ?_
  show own_End p e below s _ _ _ (T312.setTop (mkF m 7 #[.val (.ref r)] [(.int (4096 : Int32)), (.int cnt)]))
  refine own_go (fun t k => XS.icmpNo X312.here hx rfl (hb hby d5_7) rfl (own_eqN (k := 4096) (by decide) (by omega)) k) ?_
  show own_End p e below s _ _ _ (T312.setTop (mkF m 10 #[.val (.ref r)] []))
  refine own_go (fun t k => XS.aloadN X312.here hx rfl (hb hby d5_10) rfl rfl k) ?_
  show own_End p e below s _ _ _ (T312.setTop (mkF m 11 #[.val (.ref r)] [(.ref r)]))
  obtain ⟨T313, X313, e313, st313⟩ := getF X312 hx hZ hown (host := "") (Or.inl (hw _ (List.mem_of_getElem? (i := 40) rfl))) Via.refl e312 f_bytes (g := (mkF m 11 #[.val (.ref r)] [(.ref r)])) rfl rfl (hb hby d5_11)
  refine own_go st313 ?_
  show own_End p e below s _ _ _ (T313.setTop (mkF m 14 #[.val (.ref r)] [(.int byt)]))
  refine own_go (X313.ldcInt (own := "com/example/frage/frage/table/Records") (index := 41) (v := 262144) hx hown (mvT hZ (hw _ (List.mem_of_getElem? (i := 58) rfl))) (g := (mkF m 14 #[.val (.ref r)] [(.int byt)])) rfl (hb hby d5_14)) ?_
  show own_End p e below s _ _ _ (T313.setTop (mkF m 16 #[.val (.ref r)] [(.int (262144 : Int32)), (.int byt)]))
  by_cases qf : byt.toInt < 262144
  ·
    refine own_go (fun t k => XS.icmpYes X313.here hx rfl (pc0 := 16) (pc' := 23) rfl (hb hby d5_16) rfl (own_ltY (k := 262144) (by decide) qf) (by decide) (by decide) k) ?_
    show own_End p e below s _ _ _ (T313.setTop (mkF m 23 #[.val (.ref r)] []))
    refine own_go (fun t k => XS.iconst X313.here hx rfl (hb hby d5_23) k) ?_
    show own_End p e below s _ _ _ (T313.setTop (mkF m 24 #[.val (.ref r)] [(.int (0 : Int32))]))
    exact own_retN X313 hx (t := .boolean) hret hlk (by simp) (hb hby d5_24) ⟨own_no (by omega), N0, e313⟩ (by decide) (by decide)
  refine own_go (fun t k => XS.icmpNo X313.here hx rfl (hb hby d5_16) rfl (own_ltN (k := 262144) (by decide) qf) k) ?_
  show own_End p e below s _ _ _ (T313.setTop (mkF m 19 #[.val (.ref r)] []))
  refine own_go (fun t k => XS.iconst X313.here hx rfl (hb hby d5_19) k) ?_
  show own_End p e below s _ _ _ (T313.setTop (mkF m 20 #[.val (.ref r)] [(.int (1 : Int32))]))
  refine own_go (fun t k => XS.goto X313.here hx rfl (pc0 := 20) (pc' := 24) rfl (hb hby d5_20) (by decide) (by decide) k) ?_
  show own_End p e below s _ _ _ (T313.setTop (mkF m 24 #[.val (.ref r)] [(.int (1 : Int32))]))
  exact own_retN X313 hx (t := .boolean) hret hlk (by simp) (hb hby d5_24) ⟨own_yes (by omega), N0, e313⟩ (by decide) (by decide)
theorem own_cancel (x y : Int32) : (x + y) - x = y := by
  apply Int32.toInt_inj.mp; have h1 := c_isub (x + y) x; have h2 := c_iadd x y; have := rng32 y; have := rng32 ((x + y) - x); omega
set_option maxRecDepth 65536 in
set_option maxHeartbeats 40000000 in
theorem rm0 (l : Launch) (Z : State) (a0 : Array Value) (hw : ∀ d ∈ tables_1, d.before a0 Z = true) (ws : List Jvm.Cond) (p1 : Int32) (p2 : Int64) (p3 : Int32) (p4 : Int32) (p5 : Int32) (h0 : Heap) (n0 : Nat) (Z0 : n0 ≤ h0.size)  :
    own_Met l x code maxLocals ret ws room_1 #[(.int p1), (.long p2), (.int p3), (.int p4), (.int p5)] Z h0 (fun v h L => v = some (.int 1) ∧ Fr n0 L) := by
  refine own_body (plainFor_of_name pn_RecordsAddPinLaw) ?_
  intro p e s m below meth c s0 X0 hx hby hml hret hlk hown hnm hZ e0
  replace hown : s.vm.findClass "com/example/frage/frage/table/RecordsAddPinLaw" = some m.cls := hown
  have N0 := Fr.nil n0
  have ef : entryFrame m #[(.int p1), (.long p2), (.int p3), (.int p4), (.int p5)] maxLocals = (mkF m 0 #[.val (.int p1), .val (.long p2), .second, .val (.int p3), .val (.int p4), .val (.int p5), .unset, .unset, .unset, .unset, .unset, .unset, .unset, .unset, .unset, .unset, .unset, .unset, .unset] []) := by first | (simp [entryFrame, mkF, argsToLocals, Value.category, maxLocals]; done) | rfl
  rw [ef]
  show own_End p e below s _ _ _ (s0.setTop (mkF m 0 #[.val (.int p1), .val (.long p2), .second, .val (.int p3), .val (.int p4), .val (.int p5), .unset, .unset, .unset, .unset, .unset, .unset, .unset, .unset, .unset, .unset, .unset, .unset, .unset] []))
  refine own_go (fun t k => XS.iconst X0.here hx rfl (hb hby at_0) k) ?_
  show own_End p e below s _ _ _ (s0.setTop (mkF m 1 #[.val (.int p1), .val (.long p2), .second, .val (.int p3), .val (.int p4), .val (.int p5), .unset, .unset, .unset, .unset, .unset, .unset, .unset, .unset, .unset, .unset, .unset, .unset, .unset] [(.int (1 : Int32))]))
  refine own_go (fun t k => XS.iload X0.here hx rfl (hb hby at_1) rfl k) ?_
  show own_End p e below s _ _ _ (s0.setTop (mkF m 3 #[.val (.int p1), .val (.long p2), .second, .val (.int p3), .val (.int p4), .val (.int p5), .unset, .unset, .unset, .unset, .unset, .unset, .unset, .unset, .unset, .unset, .unset, .unset, .unset] [(.int p5), (.int (1 : Int32))]))
  refine own_go (fun t k => XS.iconst X0.here hx rfl (hb hby at_3) k) ?_
  show own_End p e below s _ _ _ (s0.setTop (mkF m 4 #[.val (.int p1), .val (.long p2), .second, .val (.int p3), .val (.int p4), .val (.int p5), .unset, .unset, .unset, .unset, .unset, .unset, .unset, .unset, .unset, .unset, .unset, .unset, .unset] [(.int (3 : Int32)), (.int p5), (.int (1 : Int32))]))
  refine own_go (fun t k => XS.iand X0.here hx rfl (hb hby at_4) rfl k) ?_
  show own_End p e below s _ _ _ (s0.setTop (mkF m 5 #[.val (.int p1), .val (.long p2), .second, .val (.int p3), .val (.int p4), .val (.int p5), .unset, .unset, .unset, .unset, .unset, .unset, .unset, .unset, .unset, .unset, .unset, .unset, .unset] [(.int (p5 &&& (3 : Int32))), (.int (1 : Int32))]))
  refine own_go (fun t k => XS.iadd X0.here hx rfl (hb hby at_5) rfl k) ?_
  show own_End p e below s _ _ _ (s0.setTop (mkF m 6 #[.val (.int p1), .val (.long p2), .second, .val (.int p3), .val (.int p4), .val (.int p5), .unset, .unset, .unset, .unset, .unset, .unset, .unset, .unset, .unset, .unset, .unset, .unset, .unset] [(.int ((1 : Int32) + (p5 &&& (3 : Int32))))]))
  obtain ⟨n314, qn314⟩ : ∃ z : Int32, z = ((1 : Int32) + (p5 &&& (3 : Int32))) := ⟨_, rfl⟩
  rw [← qn314]
  show own_End p e below s _ _ _ (s0.setTop (mkF m 6 #[.val (.int p1), .val (.long p2), .second, .val (.int p3), .val (.int p4), .val (.int p5), .unset, .unset, .unset, .unset, .unset, .unset, .unset, .unset, .unset, .unset, .unset, .unset, .unset] [(.int n314)]))
  refine own_go (fun t k => XS.istore X0.here hx rfl (hb hby at_6) rfl (l' := #[.val (.int p1), .val (.long p2), .second, .val (.int p3), .val (.int p4), .val (.int p5), .val (.int n314), .unset, .unset, .unset, .unset, .unset, .unset, .unset, .unset, .unset, .unset, .unset, .unset]) rfl k) ?_
  show own_End p e below s _ _ _ (s0.setTop (mkF m 8 #[.val (.int p1), .val (.long p2), .second, .val (.int p3), .val (.int p4), .val (.int p5), .val (.int n314), .unset, .unset, .unset, .unset, .unset, .unset, .unset, .unset, .unset, .unset, .unset, .unset] []))
  refine own_go (fun t k => XS.iconst X0.here hx rfl (hb hby at_8) k) ?_
  show own_End p e below s _ _ _ (s0.setTop (mkF m 9 #[.val (.int p1), .val (.long p2), .second, .val (.int p3), .val (.int p4), .val (.int p5), .val (.int n314), .unset, .unset, .unset, .unset, .unset, .unset, .unset, .unset, .unset, .unset, .unset, .unset] [(.int (1 : Int32))]))
  refine own_go (fun t k => XS.iload X0.here hx rfl (hb hby at_9) rfl k) ?_
  show own_End p e below s _ _ _ (s0.setTop (mkF m 11 #[.val (.int p1), .val (.long p2), .second, .val (.int p3), .val (.int p4), .val (.int p5), .val (.int n314), .unset, .unset, .unset, .unset, .unset, .unset, .unset, .unset, .unset, .unset, .unset, .unset] [(.int p5), (.int (1 : Int32))]))
  refine own_go (fun t k => XS.iconst X0.here hx rfl (hb hby at_11) k) ?_
  show own_End p e below s _ _ _ (s0.setTop (mkF m 12 #[.val (.int p1), .val (.long p2), .second, .val (.int p3), .val (.int p4), .val (.int p5), .val (.int n314), .unset, .unset, .unset, .unset, .unset, .unset, .unset, .unset, .unset, .unset, .unset, .unset] [(.int (2 : Int32)), (.int p5), (.int (1 : Int32))]))
  refine own_go (fun t k => XT.iushr X0.here hx rfl (hb hby at_12) rfl k) ?_
  show own_End p e below s _ _ _ (s0.setTop (mkF m 13 #[.val (.int p1), .val (.long p2), .second, .val (.int p3), .val (.int p4), .val (.int p5), .val (.int n314), .unset, .unset, .unset, .unset, .unset, .unset, .unset, .unset, .unset, .unset, .unset, .unset] [(.int (XT.ushr p5 (2 : Int32))), (.int (1 : Int32))]))
  refine own_go (fun t k => XS.iconst X0.here hx rfl (hb hby at_13) k) ?_
  show own_End p e below s _ _ _ (s0.setTop (mkF m 14 #[.val (.int p1), .val (.long p2), .second, .val (.int p3), .val (.int p4), .val (.int p5), .val (.int n314), .unset, .unset, .unset, .unset, .unset, .unset, .unset, .unset, .unset, .unset, .unset, .unset] [(.int (3 : Int32)), (.int (XT.ushr p5 (2 : Int32))), (.int (1 : Int32))]))
  refine own_go (fun t k => XS.iand X0.here hx rfl (hb hby at_14) rfl k) ?_
  show own_End p e below s _ _ _ (s0.setTop (mkF m 15 #[.val (.int p1), .val (.long p2), .second, .val (.int p3), .val (.int p4), .val (.int p5), .val (.int n314), .unset, .unset, .unset, .unset, .unset, .unset, .unset, .unset, .unset, .unset, .unset, .unset] [(.int ((XT.ushr p5 (2 : Int32)) &&& (3 : Int32))), (.int (1 : Int32))]))
  refine own_go (fun t k => XS.iadd X0.here hx rfl (hb hby at_15) rfl k) ?_
  show own_End p e below s _ _ _ (s0.setTop (mkF m 16 #[.val (.int p1), .val (.long p2), .second, .val (.int p3), .val (.int p4), .val (.int p5), .val (.int n314), .unset, .unset, .unset, .unset, .unset, .unset, .unset, .unset, .unset, .unset, .unset, .unset] [(.int ((1 : Int32) + ((XT.ushr p5 (2 : Int32)) &&& (3 : Int32))))]))
  obtain ⟨n315, qn315⟩ : ∃ z : Int32, z = ((1 : Int32) + ((XT.ushr p5 (2 : Int32)) &&& (3 : Int32))) := ⟨_, rfl⟩
  rw [← qn315]
  show own_End p e below s _ _ _ (s0.setTop (mkF m 16 #[.val (.int p1), .val (.long p2), .second, .val (.int p3), .val (.int p4), .val (.int p5), .val (.int n314), .unset, .unset, .unset, .unset, .unset, .unset, .unset, .unset, .unset, .unset, .unset, .unset] [(.int n315)]))
  have rn1 : 1 ≤ n314.toInt ∧ n314.toInt ≤ 4 := by
    have h1 := c_and p5 3 (by decide); have e3 : (3 : Int32).toInt = 3 := by decide
    have h2 := c_iadd 1 (p5 &&& 3); have e1 : (1 : Int32).toInt = 1 := (by decide); have h3 := rng32 (1 + (p5 &&& 3)); rw [qn314]; omega
  have rn2 : 1 ≤ n315.toInt ∧ n315.toInt ≤ 4 := by
    have h1 := c_and (XT.ushr p5 2) 3 (by decide); have e3 : (3 : Int32).toInt = 3 := by decide
    have h2 := c_iadd 1 (XT.ushr p5 2 &&& 3); have e1 : (1 : Int32).toInt = 1 := (by decide); have h3 := rng32 (1 + (XT.ushr p5 2 &&& 3)); rw [qn315]; omega
  refine own_go (fun t k => XS.istore X0.here hx rfl (hb hby at_16) rfl (l' := #[.val (.int p1), .val (.long p2), .second, .val (.int p3), .val (.int p4), .val (.int p5), .val (.int n314), .val (.int n315), .unset, .unset, .unset, .unset, .unset, .unset, .unset, .unset, .unset, .unset, .unset]) rfl k) ?_
  show own_End p e below s _ _ _ (s0.setTop (mkF m 18 #[.val (.int p1), .val (.long p2), .second, .val (.int p3), .val (.int p4), .val (.int p5), .val (.int n314), .val (.int n315), .unset, .unset, .unset, .unset, .unset, .unset, .unset, .unset, .unset, .unset, .unset] []))
  refine own_go (fun t k => XS.iload X0.here hx rfl (hb hby at_18) rfl k) ?_
  show own_End p e below s _ _ _ (s0.setTop (mkF m 20 #[.val (.int p1), .val (.long p2), .second, .val (.int p3), .val (.int p4), .val (.int p5), .val (.int n314), .val (.int n315), .unset, .unset, .unset, .unset, .unset, .unset, .unset, .unset, .unset, .unset, .unset] [(.int p5)]))
  refine own_go (fun t k => XS.bipush X0.here hx rfl (hb hby at_20) k) ?_
  show own_End p e below s _ _ _ (s0.setTop (mkF m 22 #[.val (.int p1), .val (.long p2), .second, .val (.int p3), .val (.int p4), .val (.int p5), .val (.int n314), .val (.int n315), .unset, .unset, .unset, .unset, .unset, .unset, .unset, .unset, .unset, .unset, .unset] [(.int (16 : Int32)), (.int p5)]))
  refine own_go (fun t k => XS.iand X0.here hx rfl (hb hby at_22) rfl k) ?_
  show own_End p e below s _ _ _ (s0.setTop (mkF m 23 #[.val (.int p1), .val (.long p2), .second, .val (.int p3), .val (.int p4), .val (.int p5), .val (.int n314), .val (.int n315), .unset, .unset, .unset, .unset, .unset, .unset, .unset, .unset, .unset, .unset, .unset] [(.int (p5 &&& (16 : Int32)))]))
  refine own_join (fun G => ∀ sp1 : Int32, nar .boolean sp1 = sp1 → G (s0.setTop (mkF m 31 #[.val (.int p1), .val (.long p2), .second, .val (.int p3), .val (.int p4), .val (.int p5), .val (.int n314), .val (.int n315), .unset, .unset, .unset, .unset, .unset, .unset, .unset, .unset, .unset, .unset, .unset] [(.int sp1)]))) ?_ ?_
  ·
    intro sp1 hsp1
    show own_End p e below s _ _ _ (s0.setTop (mkF m 31 #[.val (.int p1), .val (.long p2), .second, .val (.int p3), .val (.int p4), .val (.int p5), .val (.int n314), .val (.int n315), .unset, .unset, .unset, .unset, .unset, .unset, .unset, .unset, .unset, .unset, .unset] [(.int sp1)]))
    refine own_go (fun t k => XS.istore X0.here hx rfl (hb hby at_31) rfl (l' := #[.val (.int p1), .val (.long p2), .second, .val (.int p3), .val (.int p4), .val (.int p5), .val (.int n314), .val (.int n315), .val (.int sp1), .unset, .unset, .unset, .unset, .unset, .unset, .unset, .unset, .unset, .unset]) rfl k) ?_
    show own_End p e below s _ _ _ (s0.setTop (mkF m 33 #[.val (.int p1), .val (.long p2), .second, .val (.int p3), .val (.int p4), .val (.int p5), .val (.int n314), .val (.int n315), .val (.int sp1), .unset, .unset, .unset, .unset, .unset, .unset, .unset, .unset, .unset, .unset] []))
    refine own_go (fun t k => XS.iload X0.here hx rfl (hb hby at_33) rfl k) ?_
    show own_End p e below s _ _ _ (s0.setTop (mkF m 35 #[.val (.int p1), .val (.long p2), .second, .val (.int p3), .val (.int p4), .val (.int p5), .val (.int n314), .val (.int n315), .val (.int sp1), .unset, .unset, .unset, .unset, .unset, .unset, .unset, .unset, .unset, .unset] [(.int p5)]))
    refine own_go (fun t k => XS.bipush X0.here hx rfl (hb hby at_35) k) ?_
    show own_End p e below s _ _ _ (s0.setTop (mkF m 37 #[.val (.int p1), .val (.long p2), .second, .val (.int p3), .val (.int p4), .val (.int p5), .val (.int n314), .val (.int n315), .val (.int sp1), .unset, .unset, .unset, .unset, .unset, .unset, .unset, .unset, .unset, .unset] [(.int (32 : Int32)), (.int p5)]))
    refine own_go (fun t k => XS.iand X0.here hx rfl (hb hby at_37) rfl k) ?_
    show own_End p e below s _ _ _ (s0.setTop (mkF m 38 #[.val (.int p1), .val (.long p2), .second, .val (.int p3), .val (.int p4), .val (.int p5), .val (.int n314), .val (.int n315), .val (.int sp1), .unset, .unset, .unset, .unset, .unset, .unset, .unset, .unset, .unset, .unset] [(.int (p5 &&& (32 : Int32)))]))
    refine own_join (fun G => ∀ sp2 : Int32, nar .boolean sp2 = sp2 → G (s0.setTop (mkF m 46 #[.val (.int p1), .val (.long p2), .second, .val (.int p3), .val (.int p4), .val (.int p5), .val (.int n314), .val (.int n315), .val (.int sp1), .unset, .unset, .unset, .unset, .unset, .unset, .unset, .unset, .unset, .unset] [(.int sp2)]))) ?_ ?_
    ·
      intro sp2 hsp2
      show own_End p e below s _ _ _ (s0.setTop (mkF m 46 #[.val (.int p1), .val (.long p2), .second, .val (.int p3), .val (.int p4), .val (.int p5), .val (.int n314), .val (.int n315), .val (.int sp1), .unset, .unset, .unset, .unset, .unset, .unset, .unset, .unset, .unset, .unset] [(.int sp2)]))
      refine own_go (fun t k => XS.istore X0.here hx rfl (hb hby at_46) rfl (l' := #[.val (.int p1), .val (.long p2), .second, .val (.int p3), .val (.int p4), .val (.int p5), .val (.int n314), .val (.int n315), .val (.int sp1), .val (.int sp2), .unset, .unset, .unset, .unset, .unset, .unset, .unset, .unset, .unset]) rfl k) ?_
      show own_End p e below s _ _ _ (s0.setTop (mkF m 48 #[.val (.int p1), .val (.long p2), .second, .val (.int p3), .val (.int p4), .val (.int p5), .val (.int n314), .val (.int n315), .val (.int sp1), .val (.int sp2), .unset, .unset, .unset, .unset, .unset, .unset, .unset, .unset, .unset] []))
      refine own_go (fun t k => XS.iloadN X0.here hx rfl (hb hby at_48) rfl k) ?_
      show own_End p e below s _ _ _ (s0.setTop (mkF m 49 #[.val (.int p1), .val (.long p2), .second, .val (.int p3), .val (.int p4), .val (.int p5), .val (.int n314), .val (.int n315), .val (.int sp1), .val (.int sp2), .unset, .unset, .unset, .unset, .unset, .unset, .unset, .unset, .unset] [(.int p3)]))
      refine own_go (X0.ldcInt (own := "com/example/frage/frage/table/RecordsAddPinLaw") (index := 7) (v := 524287) hx hown (mvT hZ (hw _ (List.mem_of_getElem? (i := 0) rfl))) (g := (mkF m 49 #[.val (.int p1), .val (.long p2), .second, .val (.int p3), .val (.int p4), .val (.int p5), .val (.int n314), .val (.int n315), .val (.int sp1), .val (.int sp2), .unset, .unset, .unset, .unset, .unset, .unset, .unset, .unset, .unset] [(.int p3)])) rfl (hb hby at_49)) ?_
      show own_End p e below s _ _ _ (s0.setTop (mkF m 51 #[.val (.int p1), .val (.long p2), .second, .val (.int p3), .val (.int p4), .val (.int p5), .val (.int n314), .val (.int n315), .val (.int sp1), .val (.int sp2), .unset, .unset, .unset, .unset, .unset, .unset, .unset, .unset, .unset] [(.int (524287 : Int32)), (.int p3)]))
      refine own_go (fun t k => XS.iand X0.here hx rfl (hb hby at_51) rfl k) ?_
      show own_End p e below s _ _ _ (s0.setTop (mkF m 52 #[.val (.int p1), .val (.long p2), .second, .val (.int p3), .val (.int p4), .val (.int p5), .val (.int n314), .val (.int n315), .val (.int sp1), .val (.int sp2), .unset, .unset, .unset, .unset, .unset, .unset, .unset, .unset, .unset] [(.int (p3 &&& (524287 : Int32)))]))
      obtain ⟨l316, ql316⟩ : ∃ z : Int32, z = (p3 &&& (524287 : Int32)) := ⟨_, rfl⟩
      rw [← ql316]
      show own_End p e below s _ _ _ (s0.setTop (mkF m 52 #[.val (.int p1), .val (.long p2), .second, .val (.int p3), .val (.int p4), .val (.int p5), .val (.int n314), .val (.int n315), .val (.int sp1), .val (.int sp2), .unset, .unset, .unset, .unset, .unset, .unset, .unset, .unset, .unset] [(.int l316)]))
      refine own_go (fun t k => XS.istore X0.here hx rfl (hb hby at_52) rfl (l' := #[.val (.int p1), .val (.long p2), .second, .val (.int p3), .val (.int p4), .val (.int p5), .val (.int n314), .val (.int n315), .val (.int sp1), .val (.int sp2), .val (.int l316), .unset, .unset, .unset, .unset, .unset, .unset, .unset, .unset]) rfl k) ?_
      show own_End p e below s _ _ _ (s0.setTop (mkF m 54 #[.val (.int p1), .val (.long p2), .second, .val (.int p3), .val (.int p4), .val (.int p5), .val (.int n314), .val (.int n315), .val (.int sp1), .val (.int sp2), .val (.int l316), .unset, .unset, .unset, .unset, .unset, .unset, .unset, .unset] []))
      refine own_go (fun t k => XS.iload X0.here hx rfl (hb hby at_54) rfl k) ?_
      show own_End p e below s _ _ _ (s0.setTop (mkF m 56 #[.val (.int p1), .val (.long p2), .second, .val (.int p3), .val (.int p4), .val (.int p5), .val (.int n314), .val (.int n315), .val (.int sp1), .val (.int sp2), .val (.int l316), .unset, .unset, .unset, .unset, .unset, .unset, .unset, .unset] [(.int p4)]))
      refine own_go (X0.ldcInt (own := "com/example/frage/frage/table/RecordsAddPinLaw") (index := 8) (v := 262143) hx hown (mvT hZ (hw _ (List.mem_of_getElem? (i := 1) rfl))) (g := (mkF m 56 #[.val (.int p1), .val (.long p2), .second, .val (.int p3), .val (.int p4), .val (.int p5), .val (.int n314), .val (.int n315), .val (.int sp1), .val (.int sp2), .val (.int l316), .unset, .unset, .unset, .unset, .unset, .unset, .unset, .unset] [(.int p4)])) rfl (hb hby at_56)) ?_
      show own_End p e below s _ _ _ (s0.setTop (mkF m 58 #[.val (.int p1), .val (.long p2), .second, .val (.int p3), .val (.int p4), .val (.int p5), .val (.int n314), .val (.int n315), .val (.int sp1), .val (.int sp2), .val (.int l316), .unset, .unset, .unset, .unset, .unset, .unset, .unset, .unset] [(.int (262143 : Int32)), (.int p4)]))
      refine own_go (fun t k => XS.iand X0.here hx rfl (hb hby at_58) rfl k) ?_
      show own_End p e below s _ _ _ (s0.setTop (mkF m 59 #[.val (.int p1), .val (.long p2), .second, .val (.int p3), .val (.int p4), .val (.int p5), .val (.int n314), .val (.int n315), .val (.int sp1), .val (.int sp2), .val (.int l316), .unset, .unset, .unset, .unset, .unset, .unset, .unset, .unset] [(.int (p4 &&& (262143 : Int32)))]))
      obtain ⟨l317, ql317⟩ : ∃ z : Int32, z = (p4 &&& (262143 : Int32)) := ⟨_, rfl⟩
      rw [← ql317]
      show own_End p e below s _ _ _ (s0.setTop (mkF m 59 #[.val (.int p1), .val (.long p2), .second, .val (.int p3), .val (.int p4), .val (.int p5), .val (.int n314), .val (.int n315), .val (.int sp1), .val (.int sp2), .val (.int l316), .unset, .unset, .unset, .unset, .unset, .unset, .unset, .unset] [(.int l317)]))
      refine own_go (fun t k => XS.istore X0.here hx rfl (hb hby at_59) rfl (l' := #[.val (.int p1), .val (.long p2), .second, .val (.int p3), .val (.int p4), .val (.int p5), .val (.int n314), .val (.int n315), .val (.int sp1), .val (.int sp2), .val (.int l316), .val (.int l317), .unset, .unset, .unset, .unset, .unset, .unset, .unset]) rfl k) ?_
      show own_End p e below s _ _ _ (s0.setTop (mkF m 61 #[.val (.int p1), .val (.long p2), .second, .val (.int p3), .val (.int p4), .val (.int p5), .val (.int n314), .val (.int n315), .val (.int sp1), .val (.int sp2), .val (.int l316), .val (.int l317), .unset, .unset, .unset, .unset, .unset, .unset, .unset] []))
      refine own_go (fun t k => XS.iloadN X0.here hx rfl (hb hby at_61) rfl k) ?_
      show own_End p e below s _ _ _ (s0.setTop (mkF m 62 #[.val (.int p1), .val (.long p2), .second, .val (.int p3), .val (.int p4), .val (.int p5), .val (.int n314), .val (.int n315), .val (.int sp1), .val (.int sp2), .val (.int l316), .val (.int l317), .unset, .unset, .unset, .unset, .unset, .unset, .unset] [(.int p1)]))
      refine own_go (fun t k => XS.iconst X0.here hx rfl (hb hby at_62) k) ?_
      show own_End p e below s _ _ _ (s0.setTop (mkF m 63 #[.val (.int p1), .val (.long p2), .second, .val (.int p3), .val (.int p4), .val (.int p5), .val (.int n314), .val (.int n315), .val (.int sp1), .val (.int sp2), .val (.int l316), .val (.int l317), .unset, .unset, .unset, .unset, .unset, .unset, .unset] [(.int (-1 : Int32)), (.int p1)]))
      refine own_go (fun t k => XT.ixor X0.here hx rfl (hb hby at_63) rfl k) ?_
      show own_End p e below s _ _ _ (s0.setTop (mkF m 64 #[.val (.int p1), .val (.long p2), .second, .val (.int p3), .val (.int p4), .val (.int p5), .val (.int n314), .val (.int n315), .val (.int sp1), .val (.int sp2), .val (.int l316), .val (.int l317), .unset, .unset, .unset, .unset, .unset, .unset, .unset] [(.int (p1 ^^^ (-1 : Int32)))]))
      obtain ⟨s318, qs318⟩ : ∃ z : Int32, z = (p1 ^^^ (-1 : Int32)) := ⟨_, rfl⟩
      rw [← qs318]
      show own_End p e below s _ _ _ (s0.setTop (mkF m 64 #[.val (.int p1), .val (.long p2), .second, .val (.int p3), .val (.int p4), .val (.int p5), .val (.int n314), .val (.int n315), .val (.int sp1), .val (.int sp2), .val (.int l316), .val (.int l317), .unset, .unset, .unset, .unset, .unset, .unset, .unset] [(.int s318)]))
      refine own_go (fun t k => XS.istore X0.here hx rfl (hb hby at_64) rfl (l' := #[.val (.int p1), .val (.long p2), .second, .val (.int p3), .val (.int p4), .val (.int p5), .val (.int n314), .val (.int n315), .val (.int sp1), .val (.int sp2), .val (.int l316), .val (.int l317), .val (.int s318), .unset, .unset, .unset, .unset, .unset, .unset]) rfl k) ?_
      show own_End p e below s _ _ _ (s0.setTop (mkF m 66 #[.val (.int p1), .val (.long p2), .second, .val (.int p3), .val (.int p4), .val (.int p5), .val (.int n314), .val (.int n315), .val (.int sp1), .val (.int sp2), .val (.int l316), .val (.int l317), .val (.int s318), .unset, .unset, .unset, .unset, .unset, .unset] []))
      refine own_go (fun t k => XT.lloadN X0.here hx rfl (hb hby at_66) rfl k) ?_
      show own_End p e below s _ _ _ (s0.setTop (mkF m 67 #[.val (.int p1), .val (.long p2), .second, .val (.int p3), .val (.int p4), .val (.int p5), .val (.int n314), .val (.int n315), .val (.int sp1), .val (.int sp2), .val (.int l316), .val (.int l317), .val (.int s318), .unset, .unset, .unset, .unset, .unset, .unset] [(.long p2)]))
      refine own_go (X0.ldc2Long (own := "com/example/frage/frage/table/RecordsAddPinLaw") (index := 9) (v := (-1)) hx hown (mvT hZ (hw _ (List.mem_of_getElem? (i := 2) rfl))) (g := (mkF m 67 #[.val (.int p1), .val (.long p2), .second, .val (.int p3), .val (.int p4), .val (.int p5), .val (.int n314), .val (.int n315), .val (.int sp1), .val (.int sp2), .val (.int l316), .val (.int l317), .val (.int s318), .unset, .unset, .unset, .unset, .unset, .unset] [(.long p2)])) rfl (hb hby at_67)) ?_
      show own_End p e below s _ _ _ (s0.setTop (mkF m 70 #[.val (.int p1), .val (.long p2), .second, .val (.int p3), .val (.int p4), .val (.int p5), .val (.int n314), .val (.int n315), .val (.int sp1), .val (.int sp2), .val (.int l316), .val (.int l317), .val (.int s318), .unset, .unset, .unset, .unset, .unset, .unset] [(.long (-1 : Int64)), (.long p2)]))
      refine own_go (fun t k => XT.lxor X0.here hx rfl (hb hby at_70) rfl k) ?_
      show own_End p e below s _ _ _ (s0.setTop (mkF m 71 #[.val (.int p1), .val (.long p2), .second, .val (.int p3), .val (.int p4), .val (.int p5), .val (.int n314), .val (.int n315), .val (.int sp1), .val (.int sp2), .val (.int l316), .val (.int l317), .val (.int s318), .unset, .unset, .unset, .unset, .unset, .unset] [(.long (p2 ^^^ (-1 : Int64)))]))
      obtain ⟨j319, qj319⟩ : ∃ z : Int64, z = (p2 ^^^ (-1 : Int64)) := ⟨_, rfl⟩
      rw [← qj319]
      show own_End p e below s _ _ _ (s0.setTop (mkF m 71 #[.val (.int p1), .val (.long p2), .second, .val (.int p3), .val (.int p4), .val (.int p5), .val (.int n314), .val (.int n315), .val (.int sp1), .val (.int sp2), .val (.int l316), .val (.int l317), .val (.int s318), .unset, .unset, .unset, .unset, .unset, .unset] [(.long j319)]))
      have rl1 : 0 ≤ l316.toInt ∧ l316.toInt ≤ 524287 := by rw [ql316]; have := c_and p3 524287 (by decide); have e3 : (524287 : Int32).toInt = 524287 := (by decide); omega
      have rl2 : 0 ≤ l317.toInt ∧ l317.toInt ≤ 262143 := by rw [ql317]; have := c_and p4 262143 (by decide); have e3 : (262143 : Int32).toInt = 262143 := (by decide); omega
      refine own_go (fun t k => XT.lstore X0.here hx rfl (hb hby at_71) rfl (l' := #[.val (.int p1), .val (.long p2), .second, .val (.int p3), .val (.int p4), .val (.int p5), .val (.int n314), .val (.int n315), .val (.int sp1), .val (.int sp2), .val (.int l316), .val (.int l317), .val (.int s318), .val (.long j319), .second, .unset, .unset, .unset, .unset]) rfl k) ?_
      show own_End p e below s _ _ _ (s0.setTop (mkF m 73 #[.val (.int p1), .val (.long p2), .second, .val (.int p3), .val (.int p4), .val (.int p5), .val (.int n314), .val (.int n315), .val (.int sp1), .val (.int sp2), .val (.int l316), .val (.int l317), .val (.int s318), .val (.long j319), .second, .unset, .unset, .unset, .unset] []))
      refine own_go (fun t k => XS.iconst X0.here hx rfl (hb hby at_73) k) ?_
      show own_End p e below s _ _ _ (s0.setTop (mkF m 74 #[.val (.int p1), .val (.long p2), .second, .val (.int p3), .val (.int p4), .val (.int p5), .val (.int n314), .val (.int n315), .val (.int sp1), .val (.int sp2), .val (.int l316), .val (.int l317), .val (.int s318), .val (.long j319), .second, .unset, .unset, .unset, .unset] [(.int (1 : Int32))]))
      obtain ⟨T320, h320, k320, X320, e320, E320, A320, Ex320, st320⟩ := newPE X0 hx hZ (hw _ (List.mem_of_getElem? (i := 3) rfl)) e0 (g := (mkF m 74 #[.val (.int p1), .val (.long p2), .second, .val (.int p3), .val (.int p4), .val (.int p5), .val (.int n314), .val (.int n315), .val (.int sp1), .val (.int sp2), .val (.int l316), .val (.int l317), .val (.int s318), .val (.long j319), .second, .unset, .unset, .unset, .unset] [(.int (1 : Int32))])) rfl (hb hby at_74) rfl (by decide) (cap := 1) (by decide) (by decide) (by decide) (by decide) (ad := "[B") (by decide)
      obtain ⟨b320, gb320⟩ : ∃ z, z = h0.size := ⟨_, rfl⟩
      rw [← gb320] at A320 st320 Ex320
      have F320 := own_F.new A320 (n := 1) (by decide) (by decide)
      have nb320 : n0 ≤ b320 := by rw [gb320]; exact Z0
      have Z320 : n0 ≤ h320.size := Nat.le_trans Z0 E320.1
      refine own_go st320 ?_
      show own_End p e below s _ _ _ (T320.setTop (mkF m 76 #[.val (.int p1), .val (.long p2), .second, .val (.int p3), .val (.int p4), .val (.int p5), .val (.int n314), .val (.int n315), .val (.int sp1), .val (.int sp2), .val (.int l316), .val (.int l317), .val (.int s318), .val (.long j319), .second, .unset, .unset, .unset, .unset] [(.ref b320)]))
      refine own_go (fun t k => XS.astore X320.here hx rfl (hb hby at_76) rfl rfl (l' := #[.val (.int p1), .val (.long p2), .second, .val (.int p3), .val (.int p4), .val (.int p5), .val (.int n314), .val (.int n315), .val (.int sp1), .val (.int sp2), .val (.int l316), .val (.int l317), .val (.int s318), .val (.long j319), .second, .val (.ref b320), .unset, .unset, .unset]) rfl k) ?_
      show own_End p e below s _ _ _ (T320.setTop (mkF m 78 #[.val (.int p1), .val (.long p2), .second, .val (.int p3), .val (.int p4), .val (.int p5), .val (.int n314), .val (.int n315), .val (.int sp1), .val (.int sp2), .val (.int l316), .val (.int l317), .val (.int s318), .val (.long j319), .second, .val (.ref b320), .unset, .unset, .unset] []))
      refine own_go (fun t k => XS.iconst X320.here hx rfl (hb hby at_78) k) ?_
      show own_End p e below s _ _ _ (T320.setTop (mkF m 79 #[.val (.int p1), .val (.long p2), .second, .val (.int p3), .val (.int p4), .val (.int p5), .val (.int n314), .val (.int n315), .val (.int sp1), .val (.int sp2), .val (.int l316), .val (.int l317), .val (.int s318), .val (.long j319), .second, .val (.ref b320), .unset, .unset, .unset] [(.int (2 : Int32))]))
      obtain ⟨T321, h321, k321, X321, e321, E321, A321, Ex321, st321⟩ := newPE X320 hx hZ (hw _ (List.mem_of_getElem? (i := 3) rfl)) e320 (g := (mkF m 79 #[.val (.int p1), .val (.long p2), .second, .val (.int p3), .val (.int p4), .val (.int p5), .val (.int n314), .val (.int n315), .val (.int sp1), .val (.int sp2), .val (.int l316), .val (.int l317), .val (.int s318), .val (.long j319), .second, .val (.ref b320), .unset, .unset, .unset] [(.int (2 : Int32))])) rfl (hb hby at_79) rfl (by decide) (cap := 2) (by decide) (by decide) (by decide) (by decide) (ad := "[B") (by decide)
      obtain ⟨b321, gb321⟩ : ∃ z, z = h320.size := ⟨_, rfl⟩
      rw [← gb321] at A321 st321 Ex321
      have F321 := own_F.new A321 (n := 2) (by decide) (by decide)
      have nb321 : n0 ≤ b321 := by rw [gb321]; exact Z320
      have Z321 : n0 ≤ h321.size := Nat.le_trans Z320 E321.1
      have lt_b320_b321 : @LT.lt Nat _ b320 b321 := Nat.lt_of_lt_of_le F320.lt (Nat.le_of_eq gb321.symm)
      have f322 := F320.ext E321
      have f323 := Ex320.ext E321
      refine own_go st321 ?_
      show own_End p e below s _ _ _ (T321.setTop (mkF m 81 #[.val (.int p1), .val (.long p2), .second, .val (.int p3), .val (.int p4), .val (.int p5), .val (.int n314), .val (.int n315), .val (.int sp1), .val (.int sp2), .val (.int l316), .val (.int l317), .val (.int s318), .val (.long j319), .second, .val (.ref b320), .unset, .unset, .unset] [(.ref b321)]))
      refine own_go (fun t k => XS.astore X321.here hx rfl (hb hby at_81) rfl rfl (l' := #[.val (.int p1), .val (.long p2), .second, .val (.int p3), .val (.int p4), .val (.int p5), .val (.int n314), .val (.int n315), .val (.int sp1), .val (.int sp2), .val (.int l316), .val (.int l317), .val (.int s318), .val (.long j319), .second, .val (.ref b320), .val (.ref b321), .unset, .unset]) rfl k) ?_
      show own_End p e below s _ _ _ (T321.setTop (mkF m 83 #[.val (.int p1), .val (.long p2), .second, .val (.int p3), .val (.int p4), .val (.int p5), .val (.int n314), .val (.int n315), .val (.int sp1), .val (.int sp2), .val (.int l316), .val (.int l317), .val (.int s318), .val (.long j319), .second, .val (.ref b320), .val (.ref b321), .unset, .unset] []))
      obtain ⟨T324, h324, X324, e324, E324, A324, D324, -, st324⟩ := newO X321 hx hZ hown (hw _ (List.mem_of_getElem? (i := 4) rfl)) (hw _ (List.mem_of_getElem? (i := 5) rfl)) (hw _ (List.mem_of_getElem? (i := 6) rfl)) e321 (g := (mkF m 83 #[.val (.int p1), .val (.long p2), .second, .val (.int p3), .val (.int p4), .val (.int p5), .val (.int n314), .val (.int n315), .val (.int sp1), .val (.int sp2), .val (.int l316), .val (.int l317), .val (.int s318), .val (.long j319), .second, .val (.ref b320), .val (.ref b321), .unset, .unset] [])) rfl (hb hby at_83) (by decide) (by decide)
      obtain ⟨b324, gb324⟩ : ∃ z, z = h321.size := ⟨_, rfl⟩
      rw [← gb324] at A324 D324 st324
      have nb324 : n0 ≤ b324 := by rw [gb324]; exact Z321
      have Z324 : n0 ≤ h324.size := Nat.le_trans Z321 E324.1
      have lt_b320_b324 : @LT.lt Nat _ b320 b324 := Nat.lt_of_lt_of_le f323.lt (Nat.le_of_eq gb324.symm)
      have lt_b321_b324 : @LT.lt Nat _ b321 b324 := Nat.lt_of_lt_of_le Ex321.lt (Nat.le_of_eq gb324.symm)
      have f325 := f323.ext E324
      have f326 := Ex321.ext E324
      have f327 : Fld Z h324 b324 "com/example/frage/frage/table/Records" "texts" "[[B" .null := D324 (Or.inr (hw _ (List.mem_of_getElem? (i := 16) rfl))) (ty := (.array (.array .byte))) (by decide)
      have f328 : Fld Z h324 b324 "com/example/frage/frage/table/Records" "starts" "[I" .null := D324 (Or.inr (hw _ (List.mem_of_getElem? (i := 19) rfl))) (ty := (.array .int)) (by decide)
      have f329 : Fld Z h324 b324 "com/example/frage/frage/table/Records" "ends" "[I" .null := D324 (Or.inl (hw _ (List.mem_of_getElem? (i := 22) rfl))) (ty := (.array .int)) (by decide)
      have f330 : Fld Z h324 b324 "com/example/frage/frage/table/Records" "firstEnds" "[I" .null := D324 (Or.inr (hw _ (List.mem_of_getElem? (i := 24) rfl))) (ty := (.array .int)) (by decide)
      have f331 : Fld Z h324 b324 "com/example/frage/frage/table/Records" "lines" "[J" .null := D324 (Or.inr (hw _ (List.mem_of_getElem? (i := 27) rfl))) (ty := (.array .long)) (by decide)
      have f332 : Fld Z h324 b324 "com/example/frage/frage/table/Records" "endsWithSeparator" "[Z" .null := D324 (Or.inr (hw _ (List.mem_of_getElem? (i := 30) rfl))) (ty := (.array .boolean)) (by decide)
      have f333 : Fld Z h324 b324 "com/example/frage/frage/table/Records" "count" "I" (.int (0 : Int32)) := D324 (Or.inl (hw _ (List.mem_of_getElem? (i := 38) rfl))) (ty := .int) (by decide)
      have f334 : Fld Z h324 b324 "com/example/frage/frage/table/Records" "bytes" "I" (.int (0 : Int32)) := D324 (Or.inl (hw _ (List.mem_of_getElem? (i := 41) rfl))) (ty := .int) (by decide)
      refine own_go st324 ?_
      show own_End p e below s _ _ _ (T324.setTop (mkF m 86 #[.val (.int p1), .val (.long p2), .second, .val (.int p3), .val (.int p4), .val (.int p5), .val (.int n314), .val (.int n315), .val (.int sp1), .val (.int sp2), .val (.int l316), .val (.int l317), .val (.int s318), .val (.long j319), .second, .val (.ref b320), .val (.ref b321), .unset, .unset] [(.ref b324)]))
      refine own_go (fun t k => XS.dup X324.here hx rfl (hb hby at_86) rfl rfl k) ?_
      show own_End p e below s _ _ _ (T324.setTop (mkF m 87 #[.val (.int p1), .val (.long p2), .second, .val (.int p3), .val (.int p4), .val (.int p5), .val (.int n314), .val (.int n315), .val (.int sp1), .val (.int sp2), .val (.int l316), .val (.int l317), .val (.int s318), .val (.long j319), .second, .val (.ref b320), .val (.ref b321), .unset, .unset] [(.ref b324), (.ref b324)]))
      obtain ⟨v335, T335, L335, X335, hQ335, st335⟩ := own_callI X324 hx hZ (y := (⟨"com/example/frage/frage/table/Records", "<init>", "()V"⟩ : MethodName)) 1 rfl hown (hw _ (List.mem_of_getElem? (i := 7) rfl)) (hw _ (List.mem_of_getElem? (i := 8) rfl)) (hw _ (List.mem_of_getElem? (i := 6) rfl)) (hw _ (List.mem_of_getElem? (i := 9) rfl)) (by decide) (rm1 l Z a0 hw [] b324 h324 n0 Z324 nb324 A324 f327 f328 f329 f330 f331 f332 f333 f334) e324 (b := b324) (pc := 87) (Ls := #[.val (.int p1), .val (.long p2), .second, .val (.int p3), .val (.int p4), .val (.int p5), .val (.int n314), .val (.int n315), .val (.int sp1), .val (.int sp2), .val (.int l316), .val (.int l317), .val (.int s318), .val (.long j319), .second, .val (.ref b320), .val (.ref b321), .unset, .unset]) [] [(.ref b324)] (by rw [hml]; rfl) rfl rfl (lenOf pd__V rfl) (Nat.le_of_eq rfl) (hb hby at_87) (by decide) (by decide) (by decide) (by decide)
      obtain ⟨h336, e336⟩ : ∃ z, T335.heap = z := ⟨_, rfl⟩
      rw [e336] at hQ335
      obtain ⟨rfl, Nc, Kc, tx, st, en, fe, li, es, ktx, kst, ken, kfe, kli, kes, hord, O, F0_tx, F0_st, F0_en, F0_fe, F0_li, F0_es, f0_texts, f0_starts, f0_ends, f0_firstEnds, f0_lines, f0_endsWithSeparator, f0_count, f0_bytes⟩ := hQ335
      have N_c := Fr.app N0 Nc
      have Z336 : n0 ≤ h336.size := Nat.le_trans Z324 Kc.1
      have f337 := f325.keep Kc
      have f338 := f326.keep Kc
      have f339 := A324.keep Kc
      refine own_go st335 ?_
      show own_End p e below s _ _ _ (T335.setTop (mkF m 90 #[.val (.int p1), .val (.long p2), .second, .val (.int p3), .val (.int p4), .val (.int p5), .val (.int n314), .val (.int n315), .val (.int sp1), .val (.int sp2), .val (.int l316), .val (.int l317), .val (.int s318), .val (.long j319), .second, .val (.ref b320), .val (.ref b321), .unset, .unset] [(.ref b324)]))
      have ntx : n0 ≤ tx := by omega
      have nst : n0 ≤ st := by omega
      have nen : n0 ≤ en := by omega
      have nfe : n0 ≤ fe := by omega
      have nli : n0 ≤ li := by omega
      have nes : n0 ≤ es := by omega
      obtain ⟨m1, hm1⟩ : ∃ z : Nat, z + 1 = n314.toInt := ⟨(n314.toInt - 1).toNat, by omega⟩
      obtain ⟨m2, hm2⟩ : ∃ z : Nat, z + 1 = n314.toInt + n315.toInt := ⟨(n314.toInt + n315.toInt - 1).toNat, by omega⟩
      have e1 : (1 : Int32).toInt = 1 := by decide
      have hs12 : (n314 + n315).toInt = n314.toInt + n315.toInt := by have := c_iadd n314 n315; have := rng32 (n314 + n315); omega
      have hi1 : (n314 - (1 : Int32)).toInt = m1 := by have := c_isub n314 1; have := rng32 (n314 - 1); omega
      have hi2 : ((n314 + n315) - (1 : Int32)).toInt = m2 := by have := c_isub (n314 + n315) 1; have := rng32 ((n314 + n315) - 1); omega
      refine own_go (fun t k => XS.astore X335.here hx rfl (hb hby at_90) rfl rfl (l' := #[.val (.int p1), .val (.long p2), .second, .val (.int p3), .val (.int p4), .val (.int p5), .val (.int n314), .val (.int n315), .val (.int sp1), .val (.int sp2), .val (.int l316), .val (.int l317), .val (.int s318), .val (.long j319), .second, .val (.ref b320), .val (.ref b321), .val (.ref b324), .unset]) rfl k) ?_
      show own_End p e below s _ _ _ (T335.setTop (mkF m 92 #[.val (.int p1), .val (.long p2), .second, .val (.int p3), .val (.int p4), .val (.int p5), .val (.int n314), .val (.int n315), .val (.int sp1), .val (.int sp2), .val (.int l316), .val (.int l317), .val (.int s318), .val (.long j319), .second, .val (.ref b320), .val (.ref b321), .val (.ref b324), .unset] []))
      refine own_go (fun t k => XS.aload X335.here hx rfl (hb hby at_92) rfl rfl k) ?_
      show own_End p e below s _ _ _ (T335.setTop (mkF m 94 #[.val (.int p1), .val (.long p2), .second, .val (.int p3), .val (.int p4), .val (.int p5), .val (.int n314), .val (.int n315), .val (.int sp1), .val (.int sp2), .val (.int l316), .val (.int l317), .val (.int s318), .val (.long j319), .second, .val (.ref b320), .val (.ref b321), .val (.ref b324), .unset] [(.ref b324)]))
      obtain ⟨T340, X340, e340, st340⟩ := getF X335 hx hZ hown (host := "") (Or.inl (hw _ (List.mem_of_getElem? (i := 31) rfl))) Via.refl e336 f0_ends (g := (mkF m 94 #[.val (.int p1), .val (.long p2), .second, .val (.int p3), .val (.int p4), .val (.int p5), .val (.int n314), .val (.int n315), .val (.int sp1), .val (.int sp2), .val (.int l316), .val (.int l317), .val (.int s318), .val (.long j319), .second, .val (.ref b320), .val (.ref b321), .val (.ref b324), .unset] [(.ref b324)])) rfl rfl (hb hby at_94)
      refine own_go st340 ?_
      show own_End p e below s _ _ _ (T340.setTop (mkF m 97 #[.val (.int p1), .val (.long p2), .second, .val (.int p3), .val (.int p4), .val (.int p5), .val (.int n314), .val (.int n315), .val (.int sp1), .val (.int sp2), .val (.int l316), .val (.int l317), .val (.int s318), .val (.long j319), .second, .val (.ref b320), .val (.ref b321), .val (.ref b324), .unset] [(.ref en)]))
      refine own_go (fun t k => XS.iload X340.here hx rfl (hb hby at_97) rfl k) ?_
      show own_End p e below s _ _ _ (T340.setTop (mkF m 99 #[.val (.int p1), .val (.long p2), .second, .val (.int p3), .val (.int p4), .val (.int p5), .val (.int n314), .val (.int n315), .val (.int sp1), .val (.int sp2), .val (.int l316), .val (.int l317), .val (.int s318), .val (.long j319), .second, .val (.ref b320), .val (.ref b321), .val (.ref b324), .unset] [(.int n314), (.ref en)]))
      refine own_go (fun t k => XS.iconst X340.here hx rfl (hb hby at_99) k) ?_
      show own_End p e below s _ _ _ (T340.setTop (mkF m 100 #[.val (.int p1), .val (.long p2), .second, .val (.int p3), .val (.int p4), .val (.int p5), .val (.int n314), .val (.int n315), .val (.int sp1), .val (.int sp2), .val (.int l316), .val (.int l317), .val (.int s318), .val (.long j319), .second, .val (.ref b320), .val (.ref b321), .val (.ref b324), .unset] [(.int (1 : Int32)), (.int n314), (.ref en)]))
      refine own_go (fun t k => XS.isub X340.here hx rfl (hb hby at_100) rfl k) ?_
      show own_End p e below s _ _ _ (T340.setTop (mkF m 101 #[.val (.int p1), .val (.long p2), .second, .val (.int p3), .val (.int p4), .val (.int p5), .val (.int n314), .val (.int n315), .val (.int sp1), .val (.int sp2), .val (.int l316), .val (.int l317), .val (.int s318), .val (.long j319), .second, .val (.ref b320), .val (.ref b321), .val (.ref b324), .unset] [(.int (n314 - (1 : Int32))), (.ref en)]))
      refine own_go (fun t k => XS.iload X340.here hx rfl (hb hby at_101) rfl k) ?_
      show own_End p e below s _ _ _ (T340.setTop (mkF m 103 #[.val (.int p1), .val (.long p2), .second, .val (.int p3), .val (.int p4), .val (.int p5), .val (.int n314), .val (.int n315), .val (.int sp1), .val (.int sp2), .val (.int l316), .val (.int l317), .val (.int s318), .val (.long j319), .second, .val (.ref b320), .val (.ref b321), .val (.ref b324), .unset] [(.int l316), (.int (n314 - (1 : Int32))), (.ref en)]))
      obtain ⟨T341, h341, X341, e341, W341, F341, st341⟩ := own_fstI X340 hx hZ e340 F0_en (j := (n314 - (1 : Int32))) (x := l316) m1 hi1 (by omega) (pc := 103) (Ls := #[.val (.int p1), .val (.long p2), .second, .val (.int p3), .val (.int p4), .val (.int p5), .val (.int n314), .val (.int n315), .val (.int sp1), .val (.int sp2), .val (.int l316), .val (.int l317), .val (.int s318), .val (.long j319), .second, .val (.ref b320), .val (.ref b321), .val (.ref b324), .unset]) (rest := []) (hb hby at_103)
      have N341 := Fr.snoc X341 N_c nen
      have Z341 : n0 ≤ h341.size := by rw [W341.size]; exact Z336
      refine own_go st341 ?_
      have f342 := f337.wr W341
      have f343 := f338.wr W341
      have f344 := f339.wr W341
      have f345 := F0_tx.other W341 (Nat.ne_of_lt (by omega))
      have f346 := F0_st.other W341 (Nat.ne_of_lt (by omega))
      have f348 := F0_fe.other W341 (Nat.ne_of_gt (by omega))
      have f349 := F0_li.other W341 (Nat.ne_of_gt (by omega))
      have f350 := F0_es.other W341 (Nat.ne_of_gt (by omega))
      have f351 := f0_texts.other W341 (Or.inl (Nat.ne_of_lt (by omega)))
      have f352 := f0_starts.other W341 (Or.inl (Nat.ne_of_lt (by omega)))
      have f353 := f0_ends.other W341 (Or.inl (Nat.ne_of_lt (by omega)))
      have f354 := f0_firstEnds.other W341 (Or.inl (Nat.ne_of_lt (by omega)))
      have f355 := f0_lines.other W341 (Or.inl (Nat.ne_of_lt (by omega)))
      have f356 := f0_endsWithSeparator.other W341 (Or.inl (Nat.ne_of_lt (by omega)))
      have f357 := f0_count.other W341 (Or.inl (Nat.ne_of_lt (by omega)))
      have f358 := f0_bytes.other W341 (Or.inl (Nat.ne_of_lt (by omega)))
      show own_End p e below s _ _ _ (T341.setTop (mkF m 104 #[.val (.int p1), .val (.long p2), .second, .val (.int p3), .val (.int p4), .val (.int p5), .val (.int n314), .val (.int n315), .val (.int sp1), .val (.int sp2), .val (.int l316), .val (.int l317), .val (.int s318), .val (.long j319), .second, .val (.ref b320), .val (.ref b321), .val (.ref b324), .unset] []))
      refine own_go (fun t k => XS.aload X341.here hx rfl (hb hby at_104) rfl rfl k) ?_
      show own_End p e below s _ _ _ (T341.setTop (mkF m 106 #[.val (.int p1), .val (.long p2), .second, .val (.int p3), .val (.int p4), .val (.int p5), .val (.int n314), .val (.int n315), .val (.int sp1), .val (.int sp2), .val (.int l316), .val (.int l317), .val (.int s318), .val (.long j319), .second, .val (.ref b320), .val (.ref b321), .val (.ref b324), .unset] [(.ref b324)]))
      obtain ⟨T359, X359, e359, st359⟩ := getF X341 hx hZ hown (host := "") (Or.inl (hw _ (List.mem_of_getElem? (i := 31) rfl))) Via.refl e341 f353 (g := (mkF m 106 #[.val (.int p1), .val (.long p2), .second, .val (.int p3), .val (.int p4), .val (.int p5), .val (.int n314), .val (.int n315), .val (.int sp1), .val (.int sp2), .val (.int l316), .val (.int l317), .val (.int s318), .val (.long j319), .second, .val (.ref b320), .val (.ref b321), .val (.ref b324), .unset] [(.ref b324)])) rfl rfl (hb hby at_106)
      refine own_go st359 ?_
      show own_End p e below s _ _ _ (T359.setTop (mkF m 109 #[.val (.int p1), .val (.long p2), .second, .val (.int p3), .val (.int p4), .val (.int p5), .val (.int n314), .val (.int n315), .val (.int sp1), .val (.int sp2), .val (.int l316), .val (.int l317), .val (.int s318), .val (.long j319), .second, .val (.ref b320), .val (.ref b321), .val (.ref b324), .unset] [(.ref en)]))
      refine own_go (fun t k => XS.iload X359.here hx rfl (hb hby at_109) rfl k) ?_
      show own_End p e below s _ _ _ (T359.setTop (mkF m 111 #[.val (.int p1), .val (.long p2), .second, .val (.int p3), .val (.int p4), .val (.int p5), .val (.int n314), .val (.int n315), .val (.int sp1), .val (.int sp2), .val (.int l316), .val (.int l317), .val (.int s318), .val (.long j319), .second, .val (.ref b320), .val (.ref b321), .val (.ref b324), .unset] [(.int n314), (.ref en)]))
      refine own_go (fun t k => XS.iload X359.here hx rfl (hb hby at_111) rfl k) ?_
      show own_End p e below s _ _ _ (T359.setTop (mkF m 113 #[.val (.int p1), .val (.long p2), .second, .val (.int p3), .val (.int p4), .val (.int p5), .val (.int n314), .val (.int n315), .val (.int sp1), .val (.int sp2), .val (.int l316), .val (.int l317), .val (.int s318), .val (.long j319), .second, .val (.ref b320), .val (.ref b321), .val (.ref b324), .unset] [(.int n315), (.int n314), (.ref en)]))
      refine own_go (fun t k => XS.iadd X359.here hx rfl (hb hby at_113) rfl k) ?_
      show own_End p e below s _ _ _ (T359.setTop (mkF m 114 #[.val (.int p1), .val (.long p2), .second, .val (.int p3), .val (.int p4), .val (.int p5), .val (.int n314), .val (.int n315), .val (.int sp1), .val (.int sp2), .val (.int l316), .val (.int l317), .val (.int s318), .val (.long j319), .second, .val (.ref b320), .val (.ref b321), .val (.ref b324), .unset] [(.int (n314 + n315)), (.ref en)]))
      refine own_go (fun t k => XS.iconst X359.here hx rfl (hb hby at_114) k) ?_
      show own_End p e below s _ _ _ (T359.setTop (mkF m 115 #[.val (.int p1), .val (.long p2), .second, .val (.int p3), .val (.int p4), .val (.int p5), .val (.int n314), .val (.int n315), .val (.int sp1), .val (.int sp2), .val (.int l316), .val (.int l317), .val (.int s318), .val (.long j319), .second, .val (.ref b320), .val (.ref b321), .val (.ref b324), .unset] [(.int (1 : Int32)), (.int (n314 + n315)), (.ref en)]))
      refine own_go (fun t k => XS.isub X359.here hx rfl (hb hby at_115) rfl k) ?_
      show own_End p e below s _ _ _ (T359.setTop (mkF m 116 #[.val (.int p1), .val (.long p2), .second, .val (.int p3), .val (.int p4), .val (.int p5), .val (.int n314), .val (.int n315), .val (.int sp1), .val (.int sp2), .val (.int l316), .val (.int l317), .val (.int s318), .val (.long j319), .second, .val (.ref b320), .val (.ref b321), .val (.ref b324), .unset] [(.int ((n314 + n315) - (1 : Int32))), (.ref en)]))
      refine own_go (fun t k => XS.iload X359.here hx rfl (hb hby at_116) rfl k) ?_
      show own_End p e below s _ _ _ (T359.setTop (mkF m 118 #[.val (.int p1), .val (.long p2), .second, .val (.int p3), .val (.int p4), .val (.int p5), .val (.int n314), .val (.int n315), .val (.int sp1), .val (.int sp2), .val (.int l316), .val (.int l317), .val (.int s318), .val (.long j319), .second, .val (.ref b320), .val (.ref b321), .val (.ref b324), .unset] [(.int l317), (.int ((n314 + n315) - (1 : Int32))), (.ref en)]))
      obtain ⟨T360, h360, X360, e360, W360, F360, st360⟩ := own_fstI X359 hx hZ e359 F341 (j := ((n314 + n315) - (1 : Int32))) (x := l317) m2 hi2 (by omega) (pc := 118) (Ls := #[.val (.int p1), .val (.long p2), .second, .val (.int p3), .val (.int p4), .val (.int p5), .val (.int n314), .val (.int n315), .val (.int sp1), .val (.int sp2), .val (.int l316), .val (.int l317), .val (.int s318), .val (.long j319), .second, .val (.ref b320), .val (.ref b321), .val (.ref b324), .unset]) (rest := []) (hb hby at_118)
      have N360 := Fr.snoc X360 N341 nen
      have Z360 : n0 ≤ h360.size := by rw [W360.size]; exact Z341
      refine own_go st360 ?_
      have f361 := f342.wr W360
      have f362 := f343.wr W360
      have f363 := f344.wr W360
      have f364 := f345.other W360 (Nat.ne_of_lt (by omega))
      have f365 := f346.other W360 (Nat.ne_of_lt (by omega))
      have f367 := f348.other W360 (Nat.ne_of_gt (by omega))
      have f368 := f349.other W360 (Nat.ne_of_gt (by omega))
      have f369 := f350.other W360 (Nat.ne_of_gt (by omega))
      have f370 := f351.other W360 (Or.inl (Nat.ne_of_lt (by omega)))
      have f371 := f352.other W360 (Or.inl (Nat.ne_of_lt (by omega)))
      have f372 := f353.other W360 (Or.inl (Nat.ne_of_lt (by omega)))
      have f373 := f354.other W360 (Or.inl (Nat.ne_of_lt (by omega)))
      have f374 := f355.other W360 (Or.inl (Nat.ne_of_lt (by omega)))
      have f375 := f356.other W360 (Or.inl (Nat.ne_of_lt (by omega)))
      have f376 := f357.other W360 (Or.inl (Nat.ne_of_lt (by omega)))
      have f377 := f358.other W360 (Or.inl (Nat.ne_of_lt (by omega)))
      show own_End p e below s _ _ _ (T360.setTop (mkF m 119 #[.val (.int p1), .val (.long p2), .second, .val (.int p3), .val (.int p4), .val (.int p5), .val (.int n314), .val (.int n315), .val (.int sp1), .val (.int sp2), .val (.int l316), .val (.int l317), .val (.int s318), .val (.long j319), .second, .val (.ref b320), .val (.ref b321), .val (.ref b324), .unset] []))
      have hne : m1 ≠ m2 := by omega
      refine own_go (fun t k => XS.aload X360.here hx rfl (hb hby at_119) rfl rfl k) ?_
      show own_End p e below s _ _ _ (T360.setTop (mkF m 121 #[.val (.int p1), .val (.long p2), .second, .val (.int p3), .val (.int p4), .val (.int p5), .val (.int n314), .val (.int n315), .val (.int sp1), .val (.int sp2), .val (.int l316), .val (.int l317), .val (.int s318), .val (.long j319), .second, .val (.ref b320), .val (.ref b321), .val (.ref b324), .unset] [(.ref b324)]))
      refine own_go (fun t k => XS.aload X360.here hx rfl (hb hby at_121) rfl rfl k) ?_
      show own_End p e below s _ _ _ (T360.setTop (mkF m 123 #[.val (.int p1), .val (.long p2), .second, .val (.int p3), .val (.int p4), .val (.int p5), .val (.int n314), .val (.int n315), .val (.int sp1), .val (.int sp2), .val (.int l316), .val (.int l317), .val (.int s318), .val (.long j319), .second, .val (.ref b320), .val (.ref b321), .val (.ref b324), .unset] [(.ref b320), (.ref b324)]))
      refine own_go (fun t k => XS.iloadN X360.here hx rfl (hb hby at_123) rfl k) ?_
      show own_End p e below s _ _ _ (T360.setTop (mkF m 124 #[.val (.int p1), .val (.long p2), .second, .val (.int p3), .val (.int p4), .val (.int p5), .val (.int n314), .val (.int n315), .val (.int sp1), .val (.int sp2), .val (.int l316), .val (.int l317), .val (.int s318), .val (.long j319), .second, .val (.ref b320), .val (.ref b321), .val (.ref b324), .unset] [(.int p1), (.ref b320), (.ref b324)]))
      refine own_go (fun t k => XS.iload X360.here hx rfl (hb hby at_124) rfl k) ?_
      show own_End p e below s _ _ _ (T360.setTop (mkF m 126 #[.val (.int p1), .val (.long p2), .second, .val (.int p3), .val (.int p4), .val (.int p5), .val (.int n314), .val (.int n315), .val (.int sp1), .val (.int sp2), .val (.int l316), .val (.int l317), .val (.int s318), .val (.long j319), .second, .val (.ref b320), .val (.ref b321), .val (.ref b324), .unset] [(.int n314), (.int p1), (.ref b320), (.ref b324)]))
      refine own_go (fun t k => XT.lloadN X360.here hx rfl (hb hby at_126) rfl k) ?_
      show own_End p e below s _ _ _ (T360.setTop (mkF m 127 #[.val (.int p1), .val (.long p2), .second, .val (.int p3), .val (.int p4), .val (.int p5), .val (.int n314), .val (.int n315), .val (.int sp1), .val (.int sp2), .val (.int l316), .val (.int l317), .val (.int s318), .val (.long j319), .second, .val (.ref b320), .val (.ref b321), .val (.ref b324), .unset] [(.long p2), (.int n314), (.int p1), (.ref b320), (.ref b324)]))
      refine own_go (fun t k => XS.iload X360.here hx rfl (hb hby at_127) rfl k) ?_
      show own_End p e below s _ _ _ (T360.setTop (mkF m 129 #[.val (.int p1), .val (.long p2), .second, .val (.int p3), .val (.int p4), .val (.int p5), .val (.int n314), .val (.int n315), .val (.int sp1), .val (.int sp2), .val (.int l316), .val (.int l317), .val (.int s318), .val (.long j319), .second, .val (.ref b320), .val (.ref b321), .val (.ref b324), .unset] [(.int sp1), (.long p2), (.int n314), (.int p1), (.ref b320), (.ref b324)]))
      obtain ⟨v378, T378, L378, X378, hQ378, st378⟩ := own_callV X360 hx hZ (C := "com/example/frage/frage/table/Records") (y := (⟨"com/example/frage/frage/table/Records", "add", "([BIIJZ)V"⟩ : MethodName)) 0 hown (hw _ (List.mem_of_getElem? (i := 32) rfl)) (hw _ (List.mem_of_getElem? (i := 33) rfl)) (hw _ (List.mem_of_getElem? (i := 35) rfl)) (hw _ (List.mem_of_getElem? (i := 34) rfl)) (hw _ (List.mem_of_getElem? (i := 6) rfl)) (hw _ (List.mem_of_getElem? (i := 36) rfl)) (by decide) (rm3 l Z a0 hw [] b324 b320 p1 n314 p2 sp1 h360 n0 Z360 tx st en fe li es ktx kst ken kfe kli kes _ _ _ _ _ _ 0 0 hord nb324 f363 f364 f365 F360 f367 f368 f369 f370 f371 f372 f373 f374 f375 f376 f377 O f361 0 m1 l316 (by decide) (by decide) (by decide) hi1 (by omega) (by rw [own_up_ne hne, own_up_eq])) e360 f363 (pc := 129) (Ls := #[.val (.int p1), .val (.long p2), .second, .val (.int p3), .val (.int p4), .val (.int p5), .val (.int n314), .val (.int n315), .val (.int sp1), .val (.int sp2), .val (.int l316), .val (.int l317), .val (.int s318), .val (.long j319), .second, .val (.ref b320), .val (.ref b321), .val (.ref b324), .unset]) [(.ref b320), (.int p1), (.int n314), (.long p2), (.int sp1)] [] (by rw [hml]; rfl) rfl rfl (lenOf pd_aBIIJZ_V rfl) (Nat.le_of_eq rfl) (hb hby at_129) (by decide) (by decide) (by decide) (by decide)
      obtain ⟨h379, e379⟩ : ∃ z, T378.heap = z := ⟨_, rfl⟩
      rw [e379] at hQ378
      obtain ⟨rfl, Na1, Ka1, F1_tx, F1_st, F1_en, F1_fe, F1_li, F1_es, f1_texts, f1_starts, f1_ends, f1_firstEnds, f1_lines, f1_endsWithSeparator, f1_count, f1_bytes⟩ := hQ378
      have N_a1 := Fr.app N360 Na1
      have Z379 : n0 ≤ h379.size := Nat.le_trans Z360 Ka1.1
      have f380 := f361.keep Ka1
      have f381 := f362.keep Ka1
      have f382 := f363.keep Ka1
      have f383 := F360.keep Ka1 (ninS (Nat.ne_of_gt (by omega)) (ninS (Nat.ne_of_gt (by omega)) (ninS (Nat.ne_of_gt (by omega)) (ninS (Nat.ne_of_lt (by omega)) (ninS (Nat.ne_of_lt (by omega)) (ninS (Nat.ne_of_lt (by omega)) nin0))))))
      refine own_go st378 ?_
      show own_End p e below s _ _ _ (T378.setTop (mkF m 132 #[.val (.int p1), .val (.long p2), .second, .val (.int p3), .val (.int p4), .val (.int p5), .val (.int n314), .val (.int n315), .val (.int sp1), .val (.int sp2), .val (.int l316), .val (.int l317), .val (.int s318), .val (.long j319), .second, .val (.ref b320), .val (.ref b321), .val (.ref b324), .unset] []))
      rw [show ((0 : Int32) + (1 : Int32)) = (1 : Int32) by decide] at f1_count
      rw [Int32.zero_add] at f1_bytes
      refine own_go (fun t k => XS.aload X378.here hx rfl (hb hby at_132) rfl rfl k) ?_
      show own_End p e below s _ _ _ (T378.setTop (mkF m 134 #[.val (.int p1), .val (.long p2), .second, .val (.int p3), .val (.int p4), .val (.int p5), .val (.int n314), .val (.int n315), .val (.int sp1), .val (.int sp2), .val (.int l316), .val (.int l317), .val (.int s318), .val (.long j319), .second, .val (.ref b320), .val (.ref b321), .val (.ref b324), .unset] [(.ref b324)]))
      obtain ⟨T384, X384, e384, st384⟩ := getF X378 hx hZ hown (host := "") (Or.inl (hw _ (List.mem_of_getElem? (i := 42) rfl))) Via.refl e379 f1_count (g := (mkF m 134 #[.val (.int p1), .val (.long p2), .second, .val (.int p3), .val (.int p4), .val (.int p5), .val (.int n314), .val (.int n315), .val (.int sp1), .val (.int sp2), .val (.int l316), .val (.int l317), .val (.int s318), .val (.long j319), .second, .val (.ref b320), .val (.ref b321), .val (.ref b324), .unset] [(.ref b324)])) rfl rfl (hb hby at_134)
      refine own_go st384 ?_
      show own_End p e below s _ _ _ (T384.setTop (mkF m 137 #[.val (.int p1), .val (.long p2), .second, .val (.int p3), .val (.int p4), .val (.int p5), .val (.int n314), .val (.int n315), .val (.int sp1), .val (.int sp2), .val (.int l316), .val (.int l317), .val (.int s318), .val (.long j319), .second, .val (.ref b320), .val (.ref b321), .val (.ref b324), .unset] [(.int (1 : Int32))]))
      refine own_go (fun t k => XS.iconst X384.here hx rfl (hb hby at_137) k) ?_
      show own_End p e below s _ _ _ (T384.setTop (mkF m 138 #[.val (.int p1), .val (.long p2), .second, .val (.int p3), .val (.int p4), .val (.int p5), .val (.int n314), .val (.int n315), .val (.int sp1), .val (.int sp2), .val (.int l316), .val (.int l317), .val (.int s318), .val (.long j319), .second, .val (.ref b320), .val (.ref b321), .val (.ref b324), .unset] [(.int (1 : Int32)), (.int (1 : Int32))]))
      refine own_go (fun t k => XS.icmpNo X384.here hx rfl (hb hby at_138) rfl (teq rfl).2 k) ?_
      show own_End p e below s _ _ _ (T384.setTop (mkF m 141 #[.val (.int p1), .val (.long p2), .second, .val (.int p3), .val (.int p4), .val (.int p5), .val (.int n314), .val (.int n315), .val (.int sp1), .val (.int sp2), .val (.int l316), .val (.int l317), .val (.int s318), .val (.long j319), .second, .val (.ref b320), .val (.ref b321), .val (.ref b324), .unset] []))
      refine own_go (fun t k => XS.aload X384.here hx rfl (hb hby at_141) rfl rfl k) ?_
      show own_End p e below s _ _ _ (T384.setTop (mkF m 143 #[.val (.int p1), .val (.long p2), .second, .val (.int p3), .val (.int p4), .val (.int p5), .val (.int n314), .val (.int n315), .val (.int sp1), .val (.int sp2), .val (.int l316), .val (.int l317), .val (.int s318), .val (.long j319), .second, .val (.ref b320), .val (.ref b321), .val (.ref b324), .unset] [(.ref b324)]))
      obtain ⟨T385, X385, e385, st385⟩ := getF X384 hx hZ hown (host := "") (Or.inl (hw _ (List.mem_of_getElem? (i := 43) rfl))) Via.refl e384 f1_texts (g := (mkF m 143 #[.val (.int p1), .val (.long p2), .second, .val (.int p3), .val (.int p4), .val (.int p5), .val (.int n314), .val (.int n315), .val (.int sp1), .val (.int sp2), .val (.int l316), .val (.int l317), .val (.int s318), .val (.long j319), .second, .val (.ref b320), .val (.ref b321), .val (.ref b324), .unset] [(.ref b324)])) rfl rfl (hb hby at_143)
      refine own_go st385 ?_
      show own_End p e below s _ _ _ (T385.setTop (mkF m 146 #[.val (.int p1), .val (.long p2), .second, .val (.int p3), .val (.int p4), .val (.int p5), .val (.int n314), .val (.int n315), .val (.int sp1), .val (.int sp2), .val (.int l316), .val (.int l317), .val (.int s318), .val (.long j319), .second, .val (.ref b320), .val (.ref b321), .val (.ref b324), .unset] [(.ref tx)]))
      refine own_go (fun t k => XS.iconst X385.here hx rfl (hb hby at_146) k) ?_
      show own_End p e below s _ _ _ (T385.setTop (mkF m 147 #[.val (.int p1), .val (.long p2), .second, .val (.int p3), .val (.int p4), .val (.int p5), .val (.int n314), .val (.int n315), .val (.int sp1), .val (.int sp2), .val (.int l316), .val (.int l317), .val (.int s318), .val (.long j319), .second, .val (.ref b320), .val (.ref b321), .val (.ref b324), .unset] [(.int (0 : Int32)), (.ref tx)]))
      refine own_go (own_fldA X385 hx hZ e385 F1_tx rfl (j := (0 : Int32)) (v := (.ref b320)) 0 (by decide) (by decide) rfl (pc := 147) (Ls := #[.val (.int p1), .val (.long p2), .second, .val (.int p3), .val (.int p4), .val (.int p5), .val (.int n314), .val (.int n315), .val (.int sp1), .val (.int sp2), .val (.int l316), .val (.int l317), .val (.int s318), .val (.long j319), .second, .val (.ref b320), .val (.ref b321), .val (.ref b324), .unset]) (rest := []) (hb hby at_147)) ?_
      show own_End p e below s _ _ _ (T385.setTop (mkF m 148 #[.val (.int p1), .val (.long p2), .second, .val (.int p3), .val (.int p4), .val (.int p5), .val (.int n314), .val (.int n315), .val (.int sp1), .val (.int sp2), .val (.int l316), .val (.int l317), .val (.int s318), .val (.long j319), .second, .val (.ref b320), .val (.ref b321), .val (.ref b324), .unset] [(.ref b320)]))
      refine own_go (fun t k => XS.aload X385.here hx rfl (hb hby at_148) rfl rfl k) ?_
      show own_End p e below s _ _ _ (T385.setTop (mkF m 150 #[.val (.int p1), .val (.long p2), .second, .val (.int p3), .val (.int p4), .val (.int p5), .val (.int n314), .val (.int n315), .val (.int sp1), .val (.int sp2), .val (.int l316), .val (.int l317), .val (.int s318), .val (.long j319), .second, .val (.ref b320), .val (.ref b321), .val (.ref b324), .unset] [(.ref b320), (.ref b320)]))
      refine own_go (fun t k => XT.acmpNo X385.here hx rfl (hb hby at_150) rfl rfl rfl (by simp [XT.acmp]) k) ?_
      show own_End p e below s _ _ _ (T385.setTop (mkF m 153 #[.val (.int p1), .val (.long p2), .second, .val (.int p3), .val (.int p4), .val (.int p5), .val (.int n314), .val (.int n315), .val (.int sp1), .val (.int sp2), .val (.int l316), .val (.int l317), .val (.int s318), .val (.long j319), .second, .val (.ref b320), .val (.ref b321), .val (.ref b324), .unset] []))
      refine own_go (fun t k => XS.aload X385.here hx rfl (hb hby at_153) rfl rfl k) ?_
      show own_End p e below s _ _ _ (T385.setTop (mkF m 155 #[.val (.int p1), .val (.long p2), .second, .val (.int p3), .val (.int p4), .val (.int p5), .val (.int n314), .val (.int n315), .val (.int sp1), .val (.int sp2), .val (.int l316), .val (.int l317), .val (.int s318), .val (.long j319), .second, .val (.ref b320), .val (.ref b321), .val (.ref b324), .unset] [(.ref b324)]))
      obtain ⟨T386, X386, e386, st386⟩ := getF X385 hx hZ hown (host := "") (Or.inl (hw _ (List.mem_of_getElem? (i := 44) rfl))) Via.refl e385 f1_starts (g := (mkF m 155 #[.val (.int p1), .val (.long p2), .second, .val (.int p3), .val (.int p4), .val (.int p5), .val (.int n314), .val (.int n315), .val (.int sp1), .val (.int sp2), .val (.int l316), .val (.int l317), .val (.int s318), .val (.long j319), .second, .val (.ref b320), .val (.ref b321), .val (.ref b324), .unset] [(.ref b324)])) rfl rfl (hb hby at_155)
      refine own_go st386 ?_
      show own_End p e below s _ _ _ (T386.setTop (mkF m 158 #[.val (.int p1), .val (.long p2), .second, .val (.int p3), .val (.int p4), .val (.int p5), .val (.int n314), .val (.int n315), .val (.int sp1), .val (.int sp2), .val (.int l316), .val (.int l317), .val (.int s318), .val (.long j319), .second, .val (.ref b320), .val (.ref b321), .val (.ref b324), .unset] [(.ref st)]))
      refine own_go (fun t k => XS.iconst X386.here hx rfl (hb hby at_158) k) ?_
      show own_End p e below s _ _ _ (T386.setTop (mkF m 159 #[.val (.int p1), .val (.long p2), .second, .val (.int p3), .val (.int p4), .val (.int p5), .val (.int n314), .val (.int n315), .val (.int sp1), .val (.int sp2), .val (.int l316), .val (.int l317), .val (.int s318), .val (.long j319), .second, .val (.ref b320), .val (.ref b321), .val (.ref b324), .unset] [(.int (0 : Int32)), (.ref st)]))
      refine own_go (own_fldI X386 hx hZ e386 F1_st (j := (0 : Int32)) (v := (.int p1)) 0 (by decide) (by decide) rfl (pc := 159) (Ls := #[.val (.int p1), .val (.long p2), .second, .val (.int p3), .val (.int p4), .val (.int p5), .val (.int n314), .val (.int n315), .val (.int sp1), .val (.int sp2), .val (.int l316), .val (.int l317), .val (.int s318), .val (.long j319), .second, .val (.ref b320), .val (.ref b321), .val (.ref b324), .unset]) (rest := []) (hb hby at_159)) ?_
      show own_End p e below s _ _ _ (T386.setTop (mkF m 160 #[.val (.int p1), .val (.long p2), .second, .val (.int p3), .val (.int p4), .val (.int p5), .val (.int n314), .val (.int n315), .val (.int sp1), .val (.int sp2), .val (.int l316), .val (.int l317), .val (.int s318), .val (.long j319), .second, .val (.ref b320), .val (.ref b321), .val (.ref b324), .unset] [(.int p1)]))
      refine own_go (fun t k => XS.iloadN X386.here hx rfl (hb hby at_160) rfl k) ?_
      show own_End p e below s _ _ _ (T386.setTop (mkF m 161 #[.val (.int p1), .val (.long p2), .second, .val (.int p3), .val (.int p4), .val (.int p5), .val (.int n314), .val (.int n315), .val (.int sp1), .val (.int sp2), .val (.int l316), .val (.int l317), .val (.int s318), .val (.long j319), .second, .val (.ref b320), .val (.ref b321), .val (.ref b324), .unset] [(.int p1), (.int p1)]))
      refine own_go (fun t k => XS.icmpNo X386.here hx rfl (hb hby at_161) rfl (teq rfl).2 k) ?_
      show own_End p e below s _ _ _ (T386.setTop (mkF m 164 #[.val (.int p1), .val (.long p2), .second, .val (.int p3), .val (.int p4), .val (.int p5), .val (.int n314), .val (.int n315), .val (.int sp1), .val (.int sp2), .val (.int l316), .val (.int l317), .val (.int s318), .val (.long j319), .second, .val (.ref b320), .val (.ref b321), .val (.ref b324), .unset] []))
      refine own_go (fun t k => XS.aload X386.here hx rfl (hb hby at_164) rfl rfl k) ?_
      show own_End p e below s _ _ _ (T386.setTop (mkF m 166 #[.val (.int p1), .val (.long p2), .second, .val (.int p3), .val (.int p4), .val (.int p5), .val (.int n314), .val (.int n315), .val (.int sp1), .val (.int sp2), .val (.int l316), .val (.int l317), .val (.int s318), .val (.long j319), .second, .val (.ref b320), .val (.ref b321), .val (.ref b324), .unset] [(.ref b324)]))
      obtain ⟨T387, X387, e387, st387⟩ := getF X386 hx hZ hown (host := "") (Or.inl (hw _ (List.mem_of_getElem? (i := 45) rfl))) Via.refl e386 f1_lines (g := (mkF m 166 #[.val (.int p1), .val (.long p2), .second, .val (.int p3), .val (.int p4), .val (.int p5), .val (.int n314), .val (.int n315), .val (.int sp1), .val (.int sp2), .val (.int l316), .val (.int l317), .val (.int s318), .val (.long j319), .second, .val (.ref b320), .val (.ref b321), .val (.ref b324), .unset] [(.ref b324)])) rfl rfl (hb hby at_166)
      refine own_go st387 ?_
      show own_End p e below s _ _ _ (T387.setTop (mkF m 169 #[.val (.int p1), .val (.long p2), .second, .val (.int p3), .val (.int p4), .val (.int p5), .val (.int n314), .val (.int n315), .val (.int sp1), .val (.int sp2), .val (.int l316), .val (.int l317), .val (.int s318), .val (.long j319), .second, .val (.ref b320), .val (.ref b321), .val (.ref b324), .unset] [(.ref li)]))
      refine own_go (fun t k => XS.iconst X387.here hx rfl (hb hby at_169) k) ?_
      show own_End p e below s _ _ _ (T387.setTop (mkF m 170 #[.val (.int p1), .val (.long p2), .second, .val (.int p3), .val (.int p4), .val (.int p5), .val (.int n314), .val (.int n315), .val (.int sp1), .val (.int sp2), .val (.int l316), .val (.int l317), .val (.int s318), .val (.long j319), .second, .val (.ref b320), .val (.ref b321), .val (.ref b324), .unset] [(.int (0 : Int32)), (.ref li)]))
      refine own_go (own_fldJ X387 hx hZ e387 F1_li (j := (0 : Int32)) (v := (.long p2)) 0 (by decide) (by decide) rfl (pc := 170) (Ls := #[.val (.int p1), .val (.long p2), .second, .val (.int p3), .val (.int p4), .val (.int p5), .val (.int n314), .val (.int n315), .val (.int sp1), .val (.int sp2), .val (.int l316), .val (.int l317), .val (.int s318), .val (.long j319), .second, .val (.ref b320), .val (.ref b321), .val (.ref b324), .unset]) (rest := []) (hb hby at_170)) ?_
      show own_End p e below s _ _ _ (T387.setTop (mkF m 171 #[.val (.int p1), .val (.long p2), .second, .val (.int p3), .val (.int p4), .val (.int p5), .val (.int n314), .val (.int n315), .val (.int sp1), .val (.int sp2), .val (.int l316), .val (.int l317), .val (.int s318), .val (.long j319), .second, .val (.ref b320), .val (.ref b321), .val (.ref b324), .unset] [(.long p2)]))
      refine own_go (fun t k => XT.lloadN X387.here hx rfl (hb hby at_171) rfl k) ?_
      show own_End p e below s _ _ _ (T387.setTop (mkF m 172 #[.val (.int p1), .val (.long p2), .second, .val (.int p3), .val (.int p4), .val (.int p5), .val (.int n314), .val (.int n315), .val (.int sp1), .val (.int sp2), .val (.int l316), .val (.int l317), .val (.int s318), .val (.long j319), .second, .val (.ref b320), .val (.ref b321), .val (.ref b324), .unset] [(.long p2), (.long p2)]))
      refine own_go (fun t k => XT.lcmp X387.here hx rfl (hb hby at_172) rfl k) ?_
      show own_End p e below s _ _ _ (T387.setTop (mkF m 173 #[.val (.int p1), .val (.long p2), .second, .val (.int p3), .val (.int p4), .val (.int p5), .val (.int n314), .val (.int n315), .val (.int sp1), .val (.int sp2), .val (.int l316), .val (.int l317), .val (.int s318), .val (.long j319), .second, .val (.ref b320), .val (.ref b321), .val (.ref b324), .unset] [(.int (XT.cmpL p2 p2))]))
      refine own_go (fun t k => XS.ifNo X387.here hx rfl (hb hby at_173) rfl (own_lneN rfl (fun z => z rfl)) k) ?_
      show own_End p e below s _ _ _ (T387.setTop (mkF m 176 #[.val (.int p1), .val (.long p2), .second, .val (.int p3), .val (.int p4), .val (.int p5), .val (.int n314), .val (.int n315), .val (.int sp1), .val (.int sp2), .val (.int l316), .val (.int l317), .val (.int s318), .val (.long j319), .second, .val (.ref b320), .val (.ref b321), .val (.ref b324), .unset] []))
      refine own_go (fun t k => XS.aload X387.here hx rfl (hb hby at_176) rfl rfl k) ?_
      show own_End p e below s _ _ _ (T387.setTop (mkF m 178 #[.val (.int p1), .val (.long p2), .second, .val (.int p3), .val (.int p4), .val (.int p5), .val (.int n314), .val (.int n315), .val (.int sp1), .val (.int sp2), .val (.int l316), .val (.int l317), .val (.int s318), .val (.long j319), .second, .val (.ref b320), .val (.ref b321), .val (.ref b324), .unset] [(.ref b324)]))
      obtain ⟨T388, X388, e388, st388⟩ := getF X387 hx hZ hown (host := "") (Or.inl (hw _ (List.mem_of_getElem? (i := 46) rfl))) Via.refl e387 f1_endsWithSeparator (g := (mkF m 178 #[.val (.int p1), .val (.long p2), .second, .val (.int p3), .val (.int p4), .val (.int p5), .val (.int n314), .val (.int n315), .val (.int sp1), .val (.int sp2), .val (.int l316), .val (.int l317), .val (.int s318), .val (.long j319), .second, .val (.ref b320), .val (.ref b321), .val (.ref b324), .unset] [(.ref b324)])) rfl rfl (hb hby at_178)
      refine own_go st388 ?_
      show own_End p e below s _ _ _ (T388.setTop (mkF m 181 #[.val (.int p1), .val (.long p2), .second, .val (.int p3), .val (.int p4), .val (.int p5), .val (.int n314), .val (.int n315), .val (.int sp1), .val (.int sp2), .val (.int l316), .val (.int l317), .val (.int s318), .val (.long j319), .second, .val (.ref b320), .val (.ref b321), .val (.ref b324), .unset] [(.ref es)]))
      refine own_go (fun t k => XS.iconst X388.here hx rfl (hb hby at_181) k) ?_
      show own_End p e below s _ _ _ (T388.setTop (mkF m 182 #[.val (.int p1), .val (.long p2), .second, .val (.int p3), .val (.int p4), .val (.int p5), .val (.int n314), .val (.int n315), .val (.int sp1), .val (.int sp2), .val (.int l316), .val (.int l317), .val (.int s318), .val (.long j319), .second, .val (.ref b320), .val (.ref b321), .val (.ref b324), .unset] [(.int (0 : Int32)), (.ref es)]))
      refine own_go (own_fldZ X388 hx hZ e388 F1_es (j := (0 : Int32)) (v := (.int (nar .boolean sp1))) 0 (by decide) (by decide) rfl (pc := 182) (Ls := #[.val (.int p1), .val (.long p2), .second, .val (.int p3), .val (.int p4), .val (.int p5), .val (.int n314), .val (.int n315), .val (.int sp1), .val (.int sp2), .val (.int l316), .val (.int l317), .val (.int s318), .val (.long j319), .second, .val (.ref b320), .val (.ref b321), .val (.ref b324), .unset]) (rest := []) (hb hby at_182)) ?_
      show own_End p e below s _ _ _ (T388.setTop (mkF m 183 #[.val (.int p1), .val (.long p2), .second, .val (.int p3), .val (.int p4), .val (.int p5), .val (.int n314), .val (.int n315), .val (.int sp1), .val (.int sp2), .val (.int l316), .val (.int l317), .val (.int s318), .val (.long j319), .second, .val (.ref b320), .val (.ref b321), .val (.ref b324), .unset] [(.int (nar .boolean sp1))]))
      refine own_go (fun t k => XS.iload X388.here hx rfl (hb hby at_183) rfl k) ?_
      show own_End p e below s _ _ _ (T388.setTop (mkF m 185 #[.val (.int p1), .val (.long p2), .second, .val (.int p3), .val (.int p4), .val (.int p5), .val (.int n314), .val (.int n315), .val (.int sp1), .val (.int sp2), .val (.int l316), .val (.int l317), .val (.int s318), .val (.long j319), .second, .val (.ref b320), .val (.ref b321), .val (.ref b324), .unset] [(.int sp1), (.int (nar .boolean sp1))]))
      refine own_go (fun t k => XS.icmpNo X388.here hx rfl (hb hby at_185) rfl (teq hsp1).2 k) ?_
      show own_End p e below s _ _ _ (T388.setTop (mkF m 188 #[.val (.int p1), .val (.long p2), .second, .val (.int p3), .val (.int p4), .val (.int p5), .val (.int n314), .val (.int n315), .val (.int sp1), .val (.int sp2), .val (.int l316), .val (.int l317), .val (.int s318), .val (.long j319), .second, .val (.ref b320), .val (.ref b321), .val (.ref b324), .unset] []))
      refine own_go (fun t k => XS.aload X388.here hx rfl (hb hby at_188) rfl rfl k) ?_
      show own_End p e below s _ _ _ (T388.setTop (mkF m 190 #[.val (.int p1), .val (.long p2), .second, .val (.int p3), .val (.int p4), .val (.int p5), .val (.int n314), .val (.int n315), .val (.int sp1), .val (.int sp2), .val (.int l316), .val (.int l317), .val (.int s318), .val (.long j319), .second, .val (.ref b320), .val (.ref b321), .val (.ref b324), .unset] [(.ref b324)]))
      obtain ⟨T389, X389, e389, st389⟩ := getF X388 hx hZ hown (host := "") (Or.inl (hw _ (List.mem_of_getElem? (i := 47) rfl))) Via.refl e388 f1_firstEnds (g := (mkF m 190 #[.val (.int p1), .val (.long p2), .second, .val (.int p3), .val (.int p4), .val (.int p5), .val (.int n314), .val (.int n315), .val (.int sp1), .val (.int sp2), .val (.int l316), .val (.int l317), .val (.int s318), .val (.long j319), .second, .val (.ref b320), .val (.ref b321), .val (.ref b324), .unset] [(.ref b324)])) rfl rfl (hb hby at_190)
      refine own_go st389 ?_
      show own_End p e below s _ _ _ (T389.setTop (mkF m 193 #[.val (.int p1), .val (.long p2), .second, .val (.int p3), .val (.int p4), .val (.int p5), .val (.int n314), .val (.int n315), .val (.int sp1), .val (.int sp2), .val (.int l316), .val (.int l317), .val (.int s318), .val (.long j319), .second, .val (.ref b320), .val (.ref b321), .val (.ref b324), .unset] [(.ref fe)]))
      refine own_go (fun t k => XS.iconst X389.here hx rfl (hb hby at_193) k) ?_
      show own_End p e below s _ _ _ (T389.setTop (mkF m 194 #[.val (.int p1), .val (.long p2), .second, .val (.int p3), .val (.int p4), .val (.int p5), .val (.int n314), .val (.int n315), .val (.int sp1), .val (.int sp2), .val (.int l316), .val (.int l317), .val (.int s318), .val (.long j319), .second, .val (.ref b320), .val (.ref b321), .val (.ref b324), .unset] [(.int (0 : Int32)), (.ref fe)]))
      refine own_go (own_fldI X389 hx hZ e389 F1_fe (j := (0 : Int32)) (v := (.int (0 : Int32))) 0 (by decide) (by decide) rfl (pc := 194) (Ls := #[.val (.int p1), .val (.long p2), .second, .val (.int p3), .val (.int p4), .val (.int p5), .val (.int n314), .val (.int n315), .val (.int sp1), .val (.int sp2), .val (.int l316), .val (.int l317), .val (.int s318), .val (.long j319), .second, .val (.ref b320), .val (.ref b321), .val (.ref b324), .unset]) (rest := []) (hb hby at_194)) ?_
      show own_End p e below s _ _ _ (T389.setTop (mkF m 195 #[.val (.int p1), .val (.long p2), .second, .val (.int p3), .val (.int p4), .val (.int p5), .val (.int n314), .val (.int n315), .val (.int sp1), .val (.int sp2), .val (.int l316), .val (.int l317), .val (.int s318), .val (.long j319), .second, .val (.ref b320), .val (.ref b321), .val (.ref b324), .unset] [(.int (0 : Int32))]))
      refine own_go (fun t k => XS.ifNo X389.here hx rfl (hb hby at_195) rfl (by decide) k) ?_
      show own_End p e below s _ _ _ (T389.setTop (mkF m 198 #[.val (.int p1), .val (.long p2), .second, .val (.int p3), .val (.int p4), .val (.int p5), .val (.int n314), .val (.int n315), .val (.int sp1), .val (.int sp2), .val (.int l316), .val (.int l317), .val (.int s318), .val (.long j319), .second, .val (.ref b320), .val (.ref b321), .val (.ref b324), .unset] []))
      refine own_go (fun t k => XS.aload X389.here hx rfl (hb hby at_198) rfl rfl k) ?_
      show own_End p e below s _ _ _ (T389.setTop (mkF m 200 #[.val (.int p1), .val (.long p2), .second, .val (.int p3), .val (.int p4), .val (.int p5), .val (.int n314), .val (.int n315), .val (.int sp1), .val (.int sp2), .val (.int l316), .val (.int l317), .val (.int s318), .val (.long j319), .second, .val (.ref b320), .val (.ref b321), .val (.ref b324), .unset] [(.ref b324)]))
      obtain ⟨T390, X390, e390, st390⟩ := getF X389 hx hZ hown (host := "") (Or.inl (hw _ (List.mem_of_getElem? (i := 47) rfl))) Via.refl e389 f1_firstEnds (g := (mkF m 200 #[.val (.int p1), .val (.long p2), .second, .val (.int p3), .val (.int p4), .val (.int p5), .val (.int n314), .val (.int n315), .val (.int sp1), .val (.int sp2), .val (.int l316), .val (.int l317), .val (.int s318), .val (.long j319), .second, .val (.ref b320), .val (.ref b321), .val (.ref b324), .unset] [(.ref b324)])) rfl rfl (hb hby at_200)
      refine own_go st390 ?_
      show own_End p e below s _ _ _ (T390.setTop (mkF m 203 #[.val (.int p1), .val (.long p2), .second, .val (.int p3), .val (.int p4), .val (.int p5), .val (.int n314), .val (.int n315), .val (.int sp1), .val (.int sp2), .val (.int l316), .val (.int l317), .val (.int s318), .val (.long j319), .second, .val (.ref b320), .val (.ref b321), .val (.ref b324), .unset] [(.ref fe)]))
      refine own_go (fun t k => XS.iconst X390.here hx rfl (hb hby at_203) k) ?_
      show own_End p e below s _ _ _ (T390.setTop (mkF m 204 #[.val (.int p1), .val (.long p2), .second, .val (.int p3), .val (.int p4), .val (.int p5), .val (.int n314), .val (.int n315), .val (.int sp1), .val (.int sp2), .val (.int l316), .val (.int l317), .val (.int s318), .val (.long j319), .second, .val (.ref b320), .val (.ref b321), .val (.ref b324), .unset] [(.int (1 : Int32)), (.ref fe)]))
      refine own_go (own_fldI X390 hx hZ e390 F1_fe (j := (1 : Int32)) (v := (.int n314)) 1 (by decide) (by decide) rfl (pc := 204) (Ls := #[.val (.int p1), .val (.long p2), .second, .val (.int p3), .val (.int p4), .val (.int p5), .val (.int n314), .val (.int n315), .val (.int sp1), .val (.int sp2), .val (.int l316), .val (.int l317), .val (.int s318), .val (.long j319), .second, .val (.ref b320), .val (.ref b321), .val (.ref b324), .unset]) (rest := []) (hb hby at_204)) ?_
      show own_End p e below s _ _ _ (T390.setTop (mkF m 205 #[.val (.int p1), .val (.long p2), .second, .val (.int p3), .val (.int p4), .val (.int p5), .val (.int n314), .val (.int n315), .val (.int sp1), .val (.int sp2), .val (.int l316), .val (.int l317), .val (.int s318), .val (.long j319), .second, .val (.ref b320), .val (.ref b321), .val (.ref b324), .unset] [(.int n314)]))
      refine own_go (fun t k => XS.iload X390.here hx rfl (hb hby at_205) rfl k) ?_
      show own_End p e below s _ _ _ (T390.setTop (mkF m 207 #[.val (.int p1), .val (.long p2), .second, .val (.int p3), .val (.int p4), .val (.int p5), .val (.int n314), .val (.int n315), .val (.int sp1), .val (.int sp2), .val (.int l316), .val (.int l317), .val (.int s318), .val (.long j319), .second, .val (.ref b320), .val (.ref b321), .val (.ref b324), .unset] [(.int n314), (.int n314)]))
      refine own_go (fun t k => XS.icmpNo X390.here hx rfl (hb hby at_207) rfl (teq rfl).2 k) ?_
      show own_End p e below s _ _ _ (T390.setTop (mkF m 210 #[.val (.int p1), .val (.long p2), .second, .val (.int p3), .val (.int p4), .val (.int p5), .val (.int n314), .val (.int n315), .val (.int sp1), .val (.int sp2), .val (.int l316), .val (.int l317), .val (.int s318), .val (.long j319), .second, .val (.ref b320), .val (.ref b321), .val (.ref b324), .unset] []))
      refine own_go (fun t k => XS.aload X390.here hx rfl (hb hby at_210) rfl rfl k) ?_
      show own_End p e below s _ _ _ (T390.setTop (mkF m 212 #[.val (.int p1), .val (.long p2), .second, .val (.int p3), .val (.int p4), .val (.int p5), .val (.int n314), .val (.int n315), .val (.int sp1), .val (.int sp2), .val (.int l316), .val (.int l317), .val (.int s318), .val (.long j319), .second, .val (.ref b320), .val (.ref b321), .val (.ref b324), .unset] [(.ref b324)]))
      refine own_go (fun t k => XS.iconst X390.here hx rfl (hb hby at_212) k) ?_
      show own_End p e below s _ _ _ (T390.setTop (mkF m 213 #[.val (.int p1), .val (.long p2), .second, .val (.int p3), .val (.int p4), .val (.int p5), .val (.int n314), .val (.int n315), .val (.int sp1), .val (.int sp2), .val (.int l316), .val (.int l317), .val (.int s318), .val (.long j319), .second, .val (.ref b320), .val (.ref b321), .val (.ref b324), .unset] [(.int (0 : Int32)), (.ref b324)]))
      obtain ⟨v391, T391, L391, X391, hQ391, st391⟩ := own_callV X390 hx hZ (C := "com/example/frage/frage/table/Records") (y := (⟨"com/example/frage/frage/table/Records", "fields", "(I)I"⟩ : MethodName)) 0 hown (hw _ (List.mem_of_getElem? (i := 48) rfl)) (hw _ (List.mem_of_getElem? (i := 49) rfl)) (hw _ (List.mem_of_getElem? (i := 51) rfl)) (hw _ (List.mem_of_getElem? (i := 50) rfl)) (hw _ (List.mem_of_getElem? (i := 6) rfl)) (hw _ (List.mem_of_getElem? (i := 52) rfl)) (by decide) (rm4 l Z a0 hw [] b324 (0 : Int32) h379 n0 Z379 tx st en fe li es ktx kst ken kfe kli kes _ _ _ _ _ _ 1 l316 hord nb324 f382 F1_tx F1_st F1_en F1_fe F1_li F1_es f1_texts f1_starts f1_ends f1_firstEnds f1_lines f1_endsWithSeparator f1_count f1_bytes 0 0 n314 (by decide) (by decide) (by decide) rfl rfl) e390 f382 (pc := 213) (Ls := #[.val (.int p1), .val (.long p2), .second, .val (.int p3), .val (.int p4), .val (.int p5), .val (.int n314), .val (.int n315), .val (.int sp1), .val (.int sp2), .val (.int l316), .val (.int l317), .val (.int s318), .val (.long j319), .second, .val (.ref b320), .val (.ref b321), .val (.ref b324), .unset]) [(.int (0 : Int32))] [] (by rw [hml]; rfl) rfl rfl (lenOf pd_I_I rfl) (Nat.le_of_eq rfl) (hb hby at_213) (by decide) (by decide) (by decide) (by decide)
      obtain ⟨rfl, Nd392, e392⟩ := hQ391
      have N392 := Fr.app N_a1 Nd392
      refine own_go st391 ?_
      show own_End p e below s _ _ _ (T391.setTop (mkF m 216 #[.val (.int p1), .val (.long p2), .second, .val (.int p3), .val (.int p4), .val (.int p5), .val (.int n314), .val (.int n315), .val (.int sp1), .val (.int sp2), .val (.int l316), .val (.int l317), .val (.int s318), .val (.long j319), .second, .val (.ref b320), .val (.ref b321), .val (.ref b324), .unset] [(.int (n314 - (0 : Int32)))]))
      refine own_go (fun t k => XS.iload X391.here hx rfl (hb hby at_216) rfl k) ?_
      show own_End p e below s _ _ _ (T391.setTop (mkF m 218 #[.val (.int p1), .val (.long p2), .second, .val (.int p3), .val (.int p4), .val (.int p5), .val (.int n314), .val (.int n315), .val (.int sp1), .val (.int sp2), .val (.int l316), .val (.int l317), .val (.int s318), .val (.long j319), .second, .val (.ref b320), .val (.ref b321), .val (.ref b324), .unset] [(.int n314), (.int (n314 - (0 : Int32)))]))
      refine own_go (fun t k => XS.icmpNo X391.here hx rfl (hb hby at_218) rfl (teq (Int32.sub_zero _)).2 k) ?_
      show own_End p e below s _ _ _ (T391.setTop (mkF m 221 #[.val (.int p1), .val (.long p2), .second, .val (.int p3), .val (.int p4), .val (.int p5), .val (.int n314), .val (.int n315), .val (.int sp1), .val (.int sp2), .val (.int l316), .val (.int l317), .val (.int s318), .val (.long j319), .second, .val (.ref b320), .val (.ref b321), .val (.ref b324), .unset] []))
      refine own_go (fun t k => XS.aload X391.here hx rfl (hb hby at_221) rfl rfl k) ?_
      show own_End p e below s _ _ _ (T391.setTop (mkF m 223 #[.val (.int p1), .val (.long p2), .second, .val (.int p3), .val (.int p4), .val (.int p5), .val (.int n314), .val (.int n315), .val (.int sp1), .val (.int sp2), .val (.int l316), .val (.int l317), .val (.int s318), .val (.long j319), .second, .val (.ref b320), .val (.ref b321), .val (.ref b324), .unset] [(.ref b324)]))
      obtain ⟨v393, T393, L393, X393, hQ393, st393⟩ := own_callV X391 hx hZ (C := "com/example/frage/frage/table/Records") (y := (⟨"com/example/frage/frage/table/Records", "full", "()Z"⟩ : MethodName)) 0 hown (hw _ (List.mem_of_getElem? (i := 53) rfl)) (hw _ (List.mem_of_getElem? (i := 54) rfl)) (hw _ (List.mem_of_getElem? (i := 56) rfl)) (hw _ (List.mem_of_getElem? (i := 55) rfl)) (hw _ (List.mem_of_getElem? (i := 6) rfl)) (hw _ (List.mem_of_getElem? (i := 57) rfl)) (by decide) (rm5 l Z a0 hw [] b324 h379 n0 Z379 tx st en fe li es ktx kst ken kfe kli kes _ _ _ _ _ _ 1 l316 hord nb324 f382 F1_tx F1_st F1_en F1_fe F1_li F1_es f1_texts f1_starts f1_ends f1_firstEnds f1_lines f1_endsWithSeparator f1_count f1_bytes (by decide)) e392 f382 (pc := 223) (Ls := #[.val (.int p1), .val (.long p2), .second, .val (.int p3), .val (.int p4), .val (.int p5), .val (.int n314), .val (.int n315), .val (.int sp1), .val (.int sp2), .val (.int l316), .val (.int l317), .val (.int s318), .val (.long j319), .second, .val (.ref b320), .val (.ref b321), .val (.ref b324), .unset]) [] [] (by rw [hml]; rfl) rfl rfl (lenOf pd__Z rfl) (Nat.le_of_eq rfl) (hb hby at_223) (by decide) (by decide) (by decide) (by decide)
      obtain ⟨rfl, Nd394, e394⟩ := hQ393
      have N394 := Fr.app N392 Nd394
      refine own_go st393 ?_
      show own_End p e below s _ _ _ (T393.setTop (mkF m 226 #[.val (.int p1), .val (.long p2), .second, .val (.int p3), .val (.int p4), .val (.int p5), .val (.int n314), .val (.int n315), .val (.int sp1), .val (.int sp2), .val (.int l316), .val (.int l317), .val (.int s318), .val (.long j319), .second, .val (.ref b320), .val (.ref b321), .val (.ref b324), .unset] [(.int (if 262144 ≤ l316.toInt then 1 else 0))]))
      refine own_go (fun t k => XS.iload X393.here hx rfl (hb hby at_226) rfl k) ?_
      show own_End p e below s _ _ _ (T393.setTop (mkF m 228 #[.val (.int p1), .val (.long p2), .second, .val (.int p3), .val (.int p4), .val (.int p5), .val (.int n314), .val (.int n315), .val (.int sp1), .val (.int sp2), .val (.int l316), .val (.int l317), .val (.int s318), .val (.long j319), .second, .val (.ref b320), .val (.ref b321), .val (.ref b324), .unset] [(.int l316), (.int (if 262144 ≤ l316.toInt then 1 else 0))]))
      refine own_go (X393.ldcInt (own := "com/example/frage/frage/table/RecordsAddPinLaw") (index := 52) (v := 262144) hx hown (mvT hZ (hw _ (List.mem_of_getElem? (i := 59) rfl))) (g := (mkF m 228 #[.val (.int p1), .val (.long p2), .second, .val (.int p3), .val (.int p4), .val (.int p5), .val (.int n314), .val (.int n315), .val (.int sp1), .val (.int sp2), .val (.int l316), .val (.int l317), .val (.int s318), .val (.long j319), .second, .val (.ref b320), .val (.ref b321), .val (.ref b324), .unset] [(.int l316), (.int (if 262144 ≤ l316.toInt then 1 else 0))])) rfl (hb hby at_228)) ?_
      show own_End p e below s _ _ _ (T393.setTop (mkF m 230 #[.val (.int p1), .val (.long p2), .second, .val (.int p3), .val (.int p4), .val (.int p5), .val (.int n314), .val (.int n315), .val (.int sp1), .val (.int sp2), .val (.int l316), .val (.int l317), .val (.int s318), .val (.long j319), .second, .val (.ref b320), .val (.ref b321), .val (.ref b324), .unset] [(.int (262144 : Int32)), (.int l316), (.int (if 262144 ≤ l316.toInt then 1 else 0))]))
      refine own_join (fun G => True → G (T393.setTop (mkF m 246 #[.val (.int p1), .val (.long p2), .second, .val (.int p3), .val (.int p4), .val (.int p5), .val (.int n314), .val (.int n315), .val (.int sp1), .val (.int sp2), .val (.int l316), .val (.int l317), .val (.int s318), .val (.long j319), .second, .val (.ref b320), .val (.ref b321), .val (.ref b324), .unset] [(.int (1 : Int32))]))) ?_ ?_
      ·
        intro j_246
        show own_End p e below s _ _ _ (T393.setTop (mkF m 246 #[.val (.int p1), .val (.long p2), .second, .val (.int p3), .val (.int p4), .val (.int p5), .val (.int n314), .val (.int n315), .val (.int sp1), .val (.int sp2), .val (.int l316), .val (.int l317), .val (.int s318), .val (.long j319), .second, .val (.ref b320), .val (.ref b321), .val (.ref b324), .unset] [(.int (1 : Int32))]))
        refine own_go (fun t k => XS.istore X393.here hx rfl (hb hby at_246) rfl (l' := #[.val (.int p1), .val (.long p2), .second, .val (.int p3), .val (.int p4), .val (.int p5), .val (.int n314), .val (.int n315), .val (.int sp1), .val (.int sp2), .val (.int l316), .val (.int l317), .val (.int s318), .val (.long j319), .second, .val (.ref b320), .val (.ref b321), .val (.ref b324), .val (.int (1 : Int32))]) rfl k) ?_
        show own_End p e below s _ _ _ (T393.setTop (mkF m 248 #[.val (.int p1), .val (.long p2), .second, .val (.int p3), .val (.int p4), .val (.int p5), .val (.int n314), .val (.int n315), .val (.int sp1), .val (.int sp2), .val (.int l316), .val (.int l317), .val (.int s318), .val (.long j319), .second, .val (.ref b320), .val (.ref b321), .val (.ref b324), .val (.int (1 : Int32))] []))
        refine own_go (fun t k => XS.aload X393.here hx rfl (hb hby at_248) rfl rfl k) ?_
        show own_End p e below s _ _ _ (T393.setTop (mkF m 250 #[.val (.int p1), .val (.long p2), .second, .val (.int p3), .val (.int p4), .val (.int p5), .val (.int n314), .val (.int n315), .val (.int sp1), .val (.int sp2), .val (.int l316), .val (.int l317), .val (.int s318), .val (.long j319), .second, .val (.ref b320), .val (.ref b321), .val (.ref b324), .val (.int (1 : Int32))] [(.ref b324)]))
        refine own_go (fun t k => XS.aload X393.here hx rfl (hb hby at_250) rfl rfl k) ?_
        show own_End p e below s _ _ _ (T393.setTop (mkF m 252 #[.val (.int p1), .val (.long p2), .second, .val (.int p3), .val (.int p4), .val (.int p5), .val (.int n314), .val (.int n315), .val (.int sp1), .val (.int sp2), .val (.int l316), .val (.int l317), .val (.int s318), .val (.long j319), .second, .val (.ref b320), .val (.ref b321), .val (.ref b324), .val (.int (1 : Int32))] [(.ref b321), (.ref b324)]))
        refine own_go (fun t k => XS.iload X393.here hx rfl (hb hby at_252) rfl k) ?_
        show own_End p e below s _ _ _ (T393.setTop (mkF m 254 #[.val (.int p1), .val (.long p2), .second, .val (.int p3), .val (.int p4), .val (.int p5), .val (.int n314), .val (.int n315), .val (.int sp1), .val (.int sp2), .val (.int l316), .val (.int l317), .val (.int s318), .val (.long j319), .second, .val (.ref b320), .val (.ref b321), .val (.ref b324), .val (.int (1 : Int32))] [(.int s318), (.ref b321), (.ref b324)]))
        refine own_go (fun t k => XS.iload X393.here hx rfl (hb hby at_254) rfl k) ?_
        show own_End p e below s _ _ _ (T393.setTop (mkF m 256 #[.val (.int p1), .val (.long p2), .second, .val (.int p3), .val (.int p4), .val (.int p5), .val (.int n314), .val (.int n315), .val (.int sp1), .val (.int sp2), .val (.int l316), .val (.int l317), .val (.int s318), .val (.long j319), .second, .val (.ref b320), .val (.ref b321), .val (.ref b324), .val (.int (1 : Int32))] [(.int n314), (.int s318), (.ref b321), (.ref b324)]))
        refine own_go (fun t k => XS.iload X393.here hx rfl (hb hby at_256) rfl k) ?_
        show own_End p e below s _ _ _ (T393.setTop (mkF m 258 #[.val (.int p1), .val (.long p2), .second, .val (.int p3), .val (.int p4), .val (.int p5), .val (.int n314), .val (.int n315), .val (.int sp1), .val (.int sp2), .val (.int l316), .val (.int l317), .val (.int s318), .val (.long j319), .second, .val (.ref b320), .val (.ref b321), .val (.ref b324), .val (.int (1 : Int32))] [(.int n315), (.int n314), (.int s318), (.ref b321), (.ref b324)]))
        refine own_go (fun t k => XS.iadd X393.here hx rfl (hb hby at_258) rfl k) ?_
        show own_End p e below s _ _ _ (T393.setTop (mkF m 259 #[.val (.int p1), .val (.long p2), .second, .val (.int p3), .val (.int p4), .val (.int p5), .val (.int n314), .val (.int n315), .val (.int sp1), .val (.int sp2), .val (.int l316), .val (.int l317), .val (.int s318), .val (.long j319), .second, .val (.ref b320), .val (.ref b321), .val (.ref b324), .val (.int (1 : Int32))] [(.int (n314 + n315)), (.int s318), (.ref b321), (.ref b324)]))
        refine own_go (fun t k => XT.lload X393.here hx rfl (hb hby at_259) rfl k) ?_
        show own_End p e below s _ _ _ (T393.setTop (mkF m 261 #[.val (.int p1), .val (.long p2), .second, .val (.int p3), .val (.int p4), .val (.int p5), .val (.int n314), .val (.int n315), .val (.int sp1), .val (.int sp2), .val (.int l316), .val (.int l317), .val (.int s318), .val (.long j319), .second, .val (.ref b320), .val (.ref b321), .val (.ref b324), .val (.int (1 : Int32))] [(.long j319), (.int (n314 + n315)), (.int s318), (.ref b321), (.ref b324)]))
        refine own_go (fun t k => XS.iload X393.here hx rfl (hb hby at_261) rfl k) ?_
        show own_End p e below s _ _ _ (T393.setTop (mkF m 263 #[.val (.int p1), .val (.long p2), .second, .val (.int p3), .val (.int p4), .val (.int p5), .val (.int n314), .val (.int n315), .val (.int sp1), .val (.int sp2), .val (.int l316), .val (.int l317), .val (.int s318), .val (.long j319), .second, .val (.ref b320), .val (.ref b321), .val (.ref b324), .val (.int (1 : Int32))] [(.int sp2), (.long j319), (.int (n314 + n315)), (.int s318), (.ref b321), (.ref b324)]))
        obtain ⟨v395, T395, L395, X395, hQ395, st395⟩ := own_callV X393 hx hZ (C := "com/example/frage/frage/table/Records") (y := (⟨"com/example/frage/frage/table/Records", "add", "([BIIJZ)V"⟩ : MethodName)) 0 hown (hw _ (List.mem_of_getElem? (i := 32) rfl)) (hw _ (List.mem_of_getElem? (i := 33) rfl)) (hw _ (List.mem_of_getElem? (i := 35) rfl)) (hw _ (List.mem_of_getElem? (i := 34) rfl)) (hw _ (List.mem_of_getElem? (i := 6) rfl)) (hw _ (List.mem_of_getElem? (i := 36) rfl)) (by decide) (rm3 l Z a0 hw [] b324 b321 s318 (n314 + n315) j319 sp2 h379 n0 Z379 tx st en fe li es ktx kst ken kfe kli kes _ _ _ _ _ _ 1 l316 hord nb324 f382 F1_tx F1_st F1_en F1_fe F1_li F1_es f1_texts f1_starts f1_ends f1_firstEnds f1_lines f1_endsWithSeparator f1_count f1_bytes O f381 1 m2 l317 (by decide) (by decide) (by decide) hi2 (by omega) own_up_eq) e394 f382 (pc := 263) (Ls := #[.val (.int p1), .val (.long p2), .second, .val (.int p3), .val (.int p4), .val (.int p5), .val (.int n314), .val (.int n315), .val (.int sp1), .val (.int sp2), .val (.int l316), .val (.int l317), .val (.int s318), .val (.long j319), .second, .val (.ref b320), .val (.ref b321), .val (.ref b324), .val (.int (1 : Int32))]) [(.ref b321), (.int s318), (.int (n314 + n315)), (.long j319), (.int sp2)] [] (by rw [hml]; rfl) rfl rfl (lenOf pd_aBIIJZ_V rfl) (Nat.le_of_eq rfl) (hb hby at_263) (by decide) (by decide) (by decide) (by decide)
        obtain ⟨h396, e396⟩ : ∃ z, T395.heap = z := ⟨_, rfl⟩
        rw [e396] at hQ395
        obtain ⟨rfl, Na2, Ka2, F2_tx, F2_st, F2_en, F2_fe, F2_li, F2_es, f2_texts, f2_starts, f2_ends, f2_firstEnds, f2_lines, f2_endsWithSeparator, f2_count, f2_bytes⟩ := hQ395
        have N_a2 := Fr.app N394 Na2
        have Z396 : n0 ≤ h396.size := Nat.le_trans Z379 Ka2.1
        have f397 := f380.keep Ka2
        have f398 := f381.keep Ka2
        have f399 := f382.keep Ka2
        have f400 := F1_en.keep Ka2 (ninS (Nat.ne_of_gt (by omega)) (ninS (Nat.ne_of_gt (by omega)) (ninS (Nat.ne_of_gt (by omega)) (ninS (Nat.ne_of_lt (by omega)) (ninS (Nat.ne_of_lt (by omega)) (ninS (Nat.ne_of_lt (by omega)) nin0))))))
        refine own_go st395 ?_
        show own_End p e below s _ _ _ (T395.setTop (mkF m 266 #[.val (.int p1), .val (.long p2), .second, .val (.int p3), .val (.int p4), .val (.int p5), .val (.int n314), .val (.int n315), .val (.int sp1), .val (.int sp2), .val (.int l316), .val (.int l317), .val (.int s318), .val (.long j319), .second, .val (.ref b320), .val (.ref b321), .val (.ref b324), .val (.int (1 : Int32))] []))
        rw [show ((1 : Int32) + (1 : Int32)) = (2 : Int32) by decide] at f2_count
        refine own_go (fun t k => XS.iload X395.here hx rfl (hb hby at_266) rfl k) ?_
        show own_End p e below s _ _ _ (T395.setTop (mkF m 268 #[.val (.int p1), .val (.long p2), .second, .val (.int p3), .val (.int p4), .val (.int p5), .val (.int n314), .val (.int n315), .val (.int sp1), .val (.int sp2), .val (.int l316), .val (.int l317), .val (.int s318), .val (.long j319), .second, .val (.ref b320), .val (.ref b321), .val (.ref b324), .val (.int (1 : Int32))] [(.int (1 : Int32))]))
        refine own_go (fun t k => XS.ifNo X395.here hx rfl (hb hby at_268) rfl rfl k) ?_
        show own_End p e below s _ _ _ (T395.setTop (mkF m 271 #[.val (.int p1), .val (.long p2), .second, .val (.int p3), .val (.int p4), .val (.int p5), .val (.int n314), .val (.int n315), .val (.int sp1), .val (.int sp2), .val (.int l316), .val (.int l317), .val (.int s318), .val (.long j319), .second, .val (.ref b320), .val (.ref b321), .val (.ref b324), .val (.int (1 : Int32))] []))
        refine own_go (fun t k => XS.aload X395.here hx rfl (hb hby at_271) rfl rfl k) ?_
        show own_End p e below s _ _ _ (T395.setTop (mkF m 273 #[.val (.int p1), .val (.long p2), .second, .val (.int p3), .val (.int p4), .val (.int p5), .val (.int n314), .val (.int n315), .val (.int sp1), .val (.int sp2), .val (.int l316), .val (.int l317), .val (.int s318), .val (.long j319), .second, .val (.ref b320), .val (.ref b321), .val (.ref b324), .val (.int (1 : Int32))] [(.ref b324)]))
        obtain ⟨T401, X401, e401, st401⟩ := getF X395 hx hZ hown (host := "") (Or.inl (hw _ (List.mem_of_getElem? (i := 42) rfl))) Via.refl e396 f2_count (g := (mkF m 273 #[.val (.int p1), .val (.long p2), .second, .val (.int p3), .val (.int p4), .val (.int p5), .val (.int n314), .val (.int n315), .val (.int sp1), .val (.int sp2), .val (.int l316), .val (.int l317), .val (.int s318), .val (.long j319), .second, .val (.ref b320), .val (.ref b321), .val (.ref b324), .val (.int (1 : Int32))] [(.ref b324)])) rfl rfl (hb hby at_273)
        refine own_go st401 ?_
        show own_End p e below s _ _ _ (T401.setTop (mkF m 276 #[.val (.int p1), .val (.long p2), .second, .val (.int p3), .val (.int p4), .val (.int p5), .val (.int n314), .val (.int n315), .val (.int sp1), .val (.int sp2), .val (.int l316), .val (.int l317), .val (.int s318), .val (.long j319), .second, .val (.ref b320), .val (.ref b321), .val (.ref b324), .val (.int (1 : Int32))] [(.int (2 : Int32))]))
        refine own_go (fun t k => XS.iconst X401.here hx rfl (hb hby at_276) k) ?_
        show own_End p e below s _ _ _ (T401.setTop (mkF m 277 #[.val (.int p1), .val (.long p2), .second, .val (.int p3), .val (.int p4), .val (.int p5), .val (.int n314), .val (.int n315), .val (.int sp1), .val (.int sp2), .val (.int l316), .val (.int l317), .val (.int s318), .val (.long j319), .second, .val (.ref b320), .val (.ref b321), .val (.ref b324), .val (.int (1 : Int32))] [(.int (2 : Int32)), (.int (2 : Int32))]))
        refine own_go (fun t k => XS.icmpNo X401.here hx rfl (hb hby at_277) rfl (teq rfl).2 k) ?_
        show own_End p e below s _ _ _ (T401.setTop (mkF m 280 #[.val (.int p1), .val (.long p2), .second, .val (.int p3), .val (.int p4), .val (.int p5), .val (.int n314), .val (.int n315), .val (.int sp1), .val (.int sp2), .val (.int l316), .val (.int l317), .val (.int s318), .val (.long j319), .second, .val (.ref b320), .val (.ref b321), .val (.ref b324), .val (.int (1 : Int32))] []))
        refine own_go (fun t k => XS.aload X401.here hx rfl (hb hby at_280) rfl rfl k) ?_
        show own_End p e below s _ _ _ (T401.setTop (mkF m 282 #[.val (.int p1), .val (.long p2), .second, .val (.int p3), .val (.int p4), .val (.int p5), .val (.int n314), .val (.int n315), .val (.int sp1), .val (.int sp2), .val (.int l316), .val (.int l317), .val (.int s318), .val (.long j319), .second, .val (.ref b320), .val (.ref b321), .val (.ref b324), .val (.int (1 : Int32))] [(.ref b324)]))
        obtain ⟨T402, X402, e402, st402⟩ := getF X401 hx hZ hown (host := "") (Or.inl (hw _ (List.mem_of_getElem? (i := 43) rfl))) Via.refl e401 f2_texts (g := (mkF m 282 #[.val (.int p1), .val (.long p2), .second, .val (.int p3), .val (.int p4), .val (.int p5), .val (.int n314), .val (.int n315), .val (.int sp1), .val (.int sp2), .val (.int l316), .val (.int l317), .val (.int s318), .val (.long j319), .second, .val (.ref b320), .val (.ref b321), .val (.ref b324), .val (.int (1 : Int32))] [(.ref b324)])) rfl rfl (hb hby at_282)
        refine own_go st402 ?_
        show own_End p e below s _ _ _ (T402.setTop (mkF m 285 #[.val (.int p1), .val (.long p2), .second, .val (.int p3), .val (.int p4), .val (.int p5), .val (.int n314), .val (.int n315), .val (.int sp1), .val (.int sp2), .val (.int l316), .val (.int l317), .val (.int s318), .val (.long j319), .second, .val (.ref b320), .val (.ref b321), .val (.ref b324), .val (.int (1 : Int32))] [(.ref tx)]))
        refine own_go (fun t k => XS.iconst X402.here hx rfl (hb hby at_285) k) ?_
        show own_End p e below s _ _ _ (T402.setTop (mkF m 286 #[.val (.int p1), .val (.long p2), .second, .val (.int p3), .val (.int p4), .val (.int p5), .val (.int n314), .val (.int n315), .val (.int sp1), .val (.int sp2), .val (.int l316), .val (.int l317), .val (.int s318), .val (.long j319), .second, .val (.ref b320), .val (.ref b321), .val (.ref b324), .val (.int (1 : Int32))] [(.int (0 : Int32)), (.ref tx)]))
        refine own_go (own_fldA X402 hx hZ e402 F2_tx rfl (j := (0 : Int32)) (v := (.ref b320)) 0 (by decide) (by decide) rfl (pc := 286) (Ls := #[.val (.int p1), .val (.long p2), .second, .val (.int p3), .val (.int p4), .val (.int p5), .val (.int n314), .val (.int n315), .val (.int sp1), .val (.int sp2), .val (.int l316), .val (.int l317), .val (.int s318), .val (.long j319), .second, .val (.ref b320), .val (.ref b321), .val (.ref b324), .val (.int (1 : Int32))]) (rest := []) (hb hby at_286)) ?_
        show own_End p e below s _ _ _ (T402.setTop (mkF m 287 #[.val (.int p1), .val (.long p2), .second, .val (.int p3), .val (.int p4), .val (.int p5), .val (.int n314), .val (.int n315), .val (.int sp1), .val (.int sp2), .val (.int l316), .val (.int l317), .val (.int s318), .val (.long j319), .second, .val (.ref b320), .val (.ref b321), .val (.ref b324), .val (.int (1 : Int32))] [(.ref b320)]))
        refine own_go (fun t k => XS.aload X402.here hx rfl (hb hby at_287) rfl rfl k) ?_
        show own_End p e below s _ _ _ (T402.setTop (mkF m 289 #[.val (.int p1), .val (.long p2), .second, .val (.int p3), .val (.int p4), .val (.int p5), .val (.int n314), .val (.int n315), .val (.int sp1), .val (.int sp2), .val (.int l316), .val (.int l317), .val (.int s318), .val (.long j319), .second, .val (.ref b320), .val (.ref b321), .val (.ref b324), .val (.int (1 : Int32))] [(.ref b320), (.ref b320)]))
        refine own_go (fun t k => XT.acmpNo X402.here hx rfl (hb hby at_289) rfl rfl rfl (by simp [XT.acmp]) k) ?_
        show own_End p e below s _ _ _ (T402.setTop (mkF m 292 #[.val (.int p1), .val (.long p2), .second, .val (.int p3), .val (.int p4), .val (.int p5), .val (.int n314), .val (.int n315), .val (.int sp1), .val (.int sp2), .val (.int l316), .val (.int l317), .val (.int s318), .val (.long j319), .second, .val (.ref b320), .val (.ref b321), .val (.ref b324), .val (.int (1 : Int32))] []))
        refine own_go (fun t k => XS.aload X402.here hx rfl (hb hby at_292) rfl rfl k) ?_
        show own_End p e below s _ _ _ (T402.setTop (mkF m 294 #[.val (.int p1), .val (.long p2), .second, .val (.int p3), .val (.int p4), .val (.int p5), .val (.int n314), .val (.int n315), .val (.int sp1), .val (.int sp2), .val (.int l316), .val (.int l317), .val (.int s318), .val (.long j319), .second, .val (.ref b320), .val (.ref b321), .val (.ref b324), .val (.int (1 : Int32))] [(.ref b324)]))
        obtain ⟨T403, X403, e403, st403⟩ := getF X402 hx hZ hown (host := "") (Or.inl (hw _ (List.mem_of_getElem? (i := 44) rfl))) Via.refl e402 f2_starts (g := (mkF m 294 #[.val (.int p1), .val (.long p2), .second, .val (.int p3), .val (.int p4), .val (.int p5), .val (.int n314), .val (.int n315), .val (.int sp1), .val (.int sp2), .val (.int l316), .val (.int l317), .val (.int s318), .val (.long j319), .second, .val (.ref b320), .val (.ref b321), .val (.ref b324), .val (.int (1 : Int32))] [(.ref b324)])) rfl rfl (hb hby at_294)
        refine own_go st403 ?_
        show own_End p e below s _ _ _ (T403.setTop (mkF m 297 #[.val (.int p1), .val (.long p2), .second, .val (.int p3), .val (.int p4), .val (.int p5), .val (.int n314), .val (.int n315), .val (.int sp1), .val (.int sp2), .val (.int l316), .val (.int l317), .val (.int s318), .val (.long j319), .second, .val (.ref b320), .val (.ref b321), .val (.ref b324), .val (.int (1 : Int32))] [(.ref st)]))
        refine own_go (fun t k => XS.iconst X403.here hx rfl (hb hby at_297) k) ?_
        show own_End p e below s _ _ _ (T403.setTop (mkF m 298 #[.val (.int p1), .val (.long p2), .second, .val (.int p3), .val (.int p4), .val (.int p5), .val (.int n314), .val (.int n315), .val (.int sp1), .val (.int sp2), .val (.int l316), .val (.int l317), .val (.int s318), .val (.long j319), .second, .val (.ref b320), .val (.ref b321), .val (.ref b324), .val (.int (1 : Int32))] [(.int (0 : Int32)), (.ref st)]))
        refine own_go (own_fldI X403 hx hZ e403 F2_st (j := (0 : Int32)) (v := (.int p1)) 0 (by decide) (by decide) rfl (pc := 298) (Ls := #[.val (.int p1), .val (.long p2), .second, .val (.int p3), .val (.int p4), .val (.int p5), .val (.int n314), .val (.int n315), .val (.int sp1), .val (.int sp2), .val (.int l316), .val (.int l317), .val (.int s318), .val (.long j319), .second, .val (.ref b320), .val (.ref b321), .val (.ref b324), .val (.int (1 : Int32))]) (rest := []) (hb hby at_298)) ?_
        show own_End p e below s _ _ _ (T403.setTop (mkF m 299 #[.val (.int p1), .val (.long p2), .second, .val (.int p3), .val (.int p4), .val (.int p5), .val (.int n314), .val (.int n315), .val (.int sp1), .val (.int sp2), .val (.int l316), .val (.int l317), .val (.int s318), .val (.long j319), .second, .val (.ref b320), .val (.ref b321), .val (.ref b324), .val (.int (1 : Int32))] [(.int p1)]))
        refine own_go (fun t k => XS.iloadN X403.here hx rfl (hb hby at_299) rfl k) ?_
        show own_End p e below s _ _ _ (T403.setTop (mkF m 300 #[.val (.int p1), .val (.long p2), .second, .val (.int p3), .val (.int p4), .val (.int p5), .val (.int n314), .val (.int n315), .val (.int sp1), .val (.int sp2), .val (.int l316), .val (.int l317), .val (.int s318), .val (.long j319), .second, .val (.ref b320), .val (.ref b321), .val (.ref b324), .val (.int (1 : Int32))] [(.int p1), (.int p1)]))
        refine own_go (fun t k => XS.icmpNo X403.here hx rfl (hb hby at_300) rfl (teq rfl).2 k) ?_
        show own_End p e below s _ _ _ (T403.setTop (mkF m 303 #[.val (.int p1), .val (.long p2), .second, .val (.int p3), .val (.int p4), .val (.int p5), .val (.int n314), .val (.int n315), .val (.int sp1), .val (.int sp2), .val (.int l316), .val (.int l317), .val (.int s318), .val (.long j319), .second, .val (.ref b320), .val (.ref b321), .val (.ref b324), .val (.int (1 : Int32))] []))
        refine own_go (fun t k => XS.aload X403.here hx rfl (hb hby at_303) rfl rfl k) ?_
        show own_End p e below s _ _ _ (T403.setTop (mkF m 305 #[.val (.int p1), .val (.long p2), .second, .val (.int p3), .val (.int p4), .val (.int p5), .val (.int n314), .val (.int n315), .val (.int sp1), .val (.int sp2), .val (.int l316), .val (.int l317), .val (.int s318), .val (.long j319), .second, .val (.ref b320), .val (.ref b321), .val (.ref b324), .val (.int (1 : Int32))] [(.ref b324)]))
        obtain ⟨T404, X404, e404, st404⟩ := getF X403 hx hZ hown (host := "") (Or.inl (hw _ (List.mem_of_getElem? (i := 45) rfl))) Via.refl e403 f2_lines (g := (mkF m 305 #[.val (.int p1), .val (.long p2), .second, .val (.int p3), .val (.int p4), .val (.int p5), .val (.int n314), .val (.int n315), .val (.int sp1), .val (.int sp2), .val (.int l316), .val (.int l317), .val (.int s318), .val (.long j319), .second, .val (.ref b320), .val (.ref b321), .val (.ref b324), .val (.int (1 : Int32))] [(.ref b324)])) rfl rfl (hb hby at_305)
        refine own_go st404 ?_
        show own_End p e below s _ _ _ (T404.setTop (mkF m 308 #[.val (.int p1), .val (.long p2), .second, .val (.int p3), .val (.int p4), .val (.int p5), .val (.int n314), .val (.int n315), .val (.int sp1), .val (.int sp2), .val (.int l316), .val (.int l317), .val (.int s318), .val (.long j319), .second, .val (.ref b320), .val (.ref b321), .val (.ref b324), .val (.int (1 : Int32))] [(.ref li)]))
        refine own_go (fun t k => XS.iconst X404.here hx rfl (hb hby at_308) k) ?_
        show own_End p e below s _ _ _ (T404.setTop (mkF m 309 #[.val (.int p1), .val (.long p2), .second, .val (.int p3), .val (.int p4), .val (.int p5), .val (.int n314), .val (.int n315), .val (.int sp1), .val (.int sp2), .val (.int l316), .val (.int l317), .val (.int s318), .val (.long j319), .second, .val (.ref b320), .val (.ref b321), .val (.ref b324), .val (.int (1 : Int32))] [(.int (0 : Int32)), (.ref li)]))
        refine own_go (own_fldJ X404 hx hZ e404 F2_li (j := (0 : Int32)) (v := (.long p2)) 0 (by decide) (by decide) rfl (pc := 309) (Ls := #[.val (.int p1), .val (.long p2), .second, .val (.int p3), .val (.int p4), .val (.int p5), .val (.int n314), .val (.int n315), .val (.int sp1), .val (.int sp2), .val (.int l316), .val (.int l317), .val (.int s318), .val (.long j319), .second, .val (.ref b320), .val (.ref b321), .val (.ref b324), .val (.int (1 : Int32))]) (rest := []) (hb hby at_309)) ?_
        show own_End p e below s _ _ _ (T404.setTop (mkF m 310 #[.val (.int p1), .val (.long p2), .second, .val (.int p3), .val (.int p4), .val (.int p5), .val (.int n314), .val (.int n315), .val (.int sp1), .val (.int sp2), .val (.int l316), .val (.int l317), .val (.int s318), .val (.long j319), .second, .val (.ref b320), .val (.ref b321), .val (.ref b324), .val (.int (1 : Int32))] [(.long p2)]))
        refine own_go (fun t k => XT.lloadN X404.here hx rfl (hb hby at_310) rfl k) ?_
        show own_End p e below s _ _ _ (T404.setTop (mkF m 311 #[.val (.int p1), .val (.long p2), .second, .val (.int p3), .val (.int p4), .val (.int p5), .val (.int n314), .val (.int n315), .val (.int sp1), .val (.int sp2), .val (.int l316), .val (.int l317), .val (.int s318), .val (.long j319), .second, .val (.ref b320), .val (.ref b321), .val (.ref b324), .val (.int (1 : Int32))] [(.long p2), (.long p2)]))
        refine own_go (fun t k => XT.lcmp X404.here hx rfl (hb hby at_311) rfl k) ?_
        show own_End p e below s _ _ _ (T404.setTop (mkF m 312 #[.val (.int p1), .val (.long p2), .second, .val (.int p3), .val (.int p4), .val (.int p5), .val (.int n314), .val (.int n315), .val (.int sp1), .val (.int sp2), .val (.int l316), .val (.int l317), .val (.int s318), .val (.long j319), .second, .val (.ref b320), .val (.ref b321), .val (.ref b324), .val (.int (1 : Int32))] [(.int (XT.cmpL p2 p2))]))
        refine own_go (fun t k => XS.ifNo X404.here hx rfl (hb hby at_312) rfl (own_lneN rfl (fun z => z rfl)) k) ?_
        show own_End p e below s _ _ _ (T404.setTop (mkF m 315 #[.val (.int p1), .val (.long p2), .second, .val (.int p3), .val (.int p4), .val (.int p5), .val (.int n314), .val (.int n315), .val (.int sp1), .val (.int sp2), .val (.int l316), .val (.int l317), .val (.int s318), .val (.long j319), .second, .val (.ref b320), .val (.ref b321), .val (.ref b324), .val (.int (1 : Int32))] []))
        refine own_go (fun t k => XS.aload X404.here hx rfl (hb hby at_315) rfl rfl k) ?_
        show own_End p e below s _ _ _ (T404.setTop (mkF m 317 #[.val (.int p1), .val (.long p2), .second, .val (.int p3), .val (.int p4), .val (.int p5), .val (.int n314), .val (.int n315), .val (.int sp1), .val (.int sp2), .val (.int l316), .val (.int l317), .val (.int s318), .val (.long j319), .second, .val (.ref b320), .val (.ref b321), .val (.ref b324), .val (.int (1 : Int32))] [(.ref b324)]))
        obtain ⟨T405, X405, e405, st405⟩ := getF X404 hx hZ hown (host := "") (Or.inl (hw _ (List.mem_of_getElem? (i := 46) rfl))) Via.refl e404 f2_endsWithSeparator (g := (mkF m 317 #[.val (.int p1), .val (.long p2), .second, .val (.int p3), .val (.int p4), .val (.int p5), .val (.int n314), .val (.int n315), .val (.int sp1), .val (.int sp2), .val (.int l316), .val (.int l317), .val (.int s318), .val (.long j319), .second, .val (.ref b320), .val (.ref b321), .val (.ref b324), .val (.int (1 : Int32))] [(.ref b324)])) rfl rfl (hb hby at_317)
        refine own_go st405 ?_
        show own_End p e below s _ _ _ (T405.setTop (mkF m 320 #[.val (.int p1), .val (.long p2), .second, .val (.int p3), .val (.int p4), .val (.int p5), .val (.int n314), .val (.int n315), .val (.int sp1), .val (.int sp2), .val (.int l316), .val (.int l317), .val (.int s318), .val (.long j319), .second, .val (.ref b320), .val (.ref b321), .val (.ref b324), .val (.int (1 : Int32))] [(.ref es)]))
        refine own_go (fun t k => XS.iconst X405.here hx rfl (hb hby at_320) k) ?_
        show own_End p e below s _ _ _ (T405.setTop (mkF m 321 #[.val (.int p1), .val (.long p2), .second, .val (.int p3), .val (.int p4), .val (.int p5), .val (.int n314), .val (.int n315), .val (.int sp1), .val (.int sp2), .val (.int l316), .val (.int l317), .val (.int s318), .val (.long j319), .second, .val (.ref b320), .val (.ref b321), .val (.ref b324), .val (.int (1 : Int32))] [(.int (0 : Int32)), (.ref es)]))
        refine own_go (own_fldZ X405 hx hZ e405 F2_es (j := (0 : Int32)) (v := (.int (nar .boolean sp1))) 0 (by decide) (by decide) rfl (pc := 321) (Ls := #[.val (.int p1), .val (.long p2), .second, .val (.int p3), .val (.int p4), .val (.int p5), .val (.int n314), .val (.int n315), .val (.int sp1), .val (.int sp2), .val (.int l316), .val (.int l317), .val (.int s318), .val (.long j319), .second, .val (.ref b320), .val (.ref b321), .val (.ref b324), .val (.int (1 : Int32))]) (rest := []) (hb hby at_321)) ?_
        show own_End p e below s _ _ _ (T405.setTop (mkF m 322 #[.val (.int p1), .val (.long p2), .second, .val (.int p3), .val (.int p4), .val (.int p5), .val (.int n314), .val (.int n315), .val (.int sp1), .val (.int sp2), .val (.int l316), .val (.int l317), .val (.int s318), .val (.long j319), .second, .val (.ref b320), .val (.ref b321), .val (.ref b324), .val (.int (1 : Int32))] [(.int (nar .boolean sp1))]))
        refine own_go (fun t k => XS.iload X405.here hx rfl (hb hby at_322) rfl k) ?_
        show own_End p e below s _ _ _ (T405.setTop (mkF m 324 #[.val (.int p1), .val (.long p2), .second, .val (.int p3), .val (.int p4), .val (.int p5), .val (.int n314), .val (.int n315), .val (.int sp1), .val (.int sp2), .val (.int l316), .val (.int l317), .val (.int s318), .val (.long j319), .second, .val (.ref b320), .val (.ref b321), .val (.ref b324), .val (.int (1 : Int32))] [(.int sp1), (.int (nar .boolean sp1))]))
        refine own_go (fun t k => XS.icmpNo X405.here hx rfl (hb hby at_324) rfl (teq hsp1).2 k) ?_
        show own_End p e below s _ _ _ (T405.setTop (mkF m 327 #[.val (.int p1), .val (.long p2), .second, .val (.int p3), .val (.int p4), .val (.int p5), .val (.int n314), .val (.int n315), .val (.int sp1), .val (.int sp2), .val (.int l316), .val (.int l317), .val (.int s318), .val (.long j319), .second, .val (.ref b320), .val (.ref b321), .val (.ref b324), .val (.int (1 : Int32))] []))
        refine own_go (fun t k => XS.aload X405.here hx rfl (hb hby at_327) rfl rfl k) ?_
        show own_End p e below s _ _ _ (T405.setTop (mkF m 329 #[.val (.int p1), .val (.long p2), .second, .val (.int p3), .val (.int p4), .val (.int p5), .val (.int n314), .val (.int n315), .val (.int sp1), .val (.int sp2), .val (.int l316), .val (.int l317), .val (.int s318), .val (.long j319), .second, .val (.ref b320), .val (.ref b321), .val (.ref b324), .val (.int (1 : Int32))] [(.ref b324)]))
        obtain ⟨T406, X406, e406, st406⟩ := getF X405 hx hZ hown (host := "") (Or.inl (hw _ (List.mem_of_getElem? (i := 47) rfl))) Via.refl e405 f2_firstEnds (g := (mkF m 329 #[.val (.int p1), .val (.long p2), .second, .val (.int p3), .val (.int p4), .val (.int p5), .val (.int n314), .val (.int n315), .val (.int sp1), .val (.int sp2), .val (.int l316), .val (.int l317), .val (.int s318), .val (.long j319), .second, .val (.ref b320), .val (.ref b321), .val (.ref b324), .val (.int (1 : Int32))] [(.ref b324)])) rfl rfl (hb hby at_329)
        refine own_go st406 ?_
        show own_End p e below s _ _ _ (T406.setTop (mkF m 332 #[.val (.int p1), .val (.long p2), .second, .val (.int p3), .val (.int p4), .val (.int p5), .val (.int n314), .val (.int n315), .val (.int sp1), .val (.int sp2), .val (.int l316), .val (.int l317), .val (.int s318), .val (.long j319), .second, .val (.ref b320), .val (.ref b321), .val (.ref b324), .val (.int (1 : Int32))] [(.ref fe)]))
        refine own_go (fun t k => XS.iconst X406.here hx rfl (hb hby at_332) k) ?_
        show own_End p e below s _ _ _ (T406.setTop (mkF m 333 #[.val (.int p1), .val (.long p2), .second, .val (.int p3), .val (.int p4), .val (.int p5), .val (.int n314), .val (.int n315), .val (.int sp1), .val (.int sp2), .val (.int l316), .val (.int l317), .val (.int s318), .val (.long j319), .second, .val (.ref b320), .val (.ref b321), .val (.ref b324), .val (.int (1 : Int32))] [(.int (1 : Int32)), (.ref fe)]))
        refine own_go (own_fldI X406 hx hZ e406 F2_fe (j := (1 : Int32)) (v := (.int n314)) 1 (by decide) (by decide) rfl (pc := 333) (Ls := #[.val (.int p1), .val (.long p2), .second, .val (.int p3), .val (.int p4), .val (.int p5), .val (.int n314), .val (.int n315), .val (.int sp1), .val (.int sp2), .val (.int l316), .val (.int l317), .val (.int s318), .val (.long j319), .second, .val (.ref b320), .val (.ref b321), .val (.ref b324), .val (.int (1 : Int32))]) (rest := []) (hb hby at_333)) ?_
        show own_End p e below s _ _ _ (T406.setTop (mkF m 334 #[.val (.int p1), .val (.long p2), .second, .val (.int p3), .val (.int p4), .val (.int p5), .val (.int n314), .val (.int n315), .val (.int sp1), .val (.int sp2), .val (.int l316), .val (.int l317), .val (.int s318), .val (.long j319), .second, .val (.ref b320), .val (.ref b321), .val (.ref b324), .val (.int (1 : Int32))] [(.int n314)]))
        refine own_go (fun t k => XS.iload X406.here hx rfl (hb hby at_334) rfl k) ?_
        show own_End p e below s _ _ _ (T406.setTop (mkF m 336 #[.val (.int p1), .val (.long p2), .second, .val (.int p3), .val (.int p4), .val (.int p5), .val (.int n314), .val (.int n315), .val (.int sp1), .val (.int sp2), .val (.int l316), .val (.int l317), .val (.int s318), .val (.long j319), .second, .val (.ref b320), .val (.ref b321), .val (.ref b324), .val (.int (1 : Int32))] [(.int n314), (.int n314)]))
        refine own_go (fun t k => XS.icmpNo X406.here hx rfl (hb hby at_336) rfl (teq rfl).2 k) ?_
        show own_End p e below s _ _ _ (T406.setTop (mkF m 339 #[.val (.int p1), .val (.long p2), .second, .val (.int p3), .val (.int p4), .val (.int p5), .val (.int n314), .val (.int n315), .val (.int sp1), .val (.int sp2), .val (.int l316), .val (.int l317), .val (.int s318), .val (.long j319), .second, .val (.ref b320), .val (.ref b321), .val (.ref b324), .val (.int (1 : Int32))] []))
        refine own_go (fun t k => XS.aload X406.here hx rfl (hb hby at_339) rfl rfl k) ?_
        show own_End p e below s _ _ _ (T406.setTop (mkF m 341 #[.val (.int p1), .val (.long p2), .second, .val (.int p3), .val (.int p4), .val (.int p5), .val (.int n314), .val (.int n315), .val (.int sp1), .val (.int sp2), .val (.int l316), .val (.int l317), .val (.int s318), .val (.long j319), .second, .val (.ref b320), .val (.ref b321), .val (.ref b324), .val (.int (1 : Int32))] [(.ref b324)]))
        obtain ⟨T407, X407, e407, st407⟩ := getF X406 hx hZ hown (host := "") (Or.inl (hw _ (List.mem_of_getElem? (i := 43) rfl))) Via.refl e406 f2_texts (g := (mkF m 341 #[.val (.int p1), .val (.long p2), .second, .val (.int p3), .val (.int p4), .val (.int p5), .val (.int n314), .val (.int n315), .val (.int sp1), .val (.int sp2), .val (.int l316), .val (.int l317), .val (.int s318), .val (.long j319), .second, .val (.ref b320), .val (.ref b321), .val (.ref b324), .val (.int (1 : Int32))] [(.ref b324)])) rfl rfl (hb hby at_341)
        refine own_go st407 ?_
        show own_End p e below s _ _ _ (T407.setTop (mkF m 344 #[.val (.int p1), .val (.long p2), .second, .val (.int p3), .val (.int p4), .val (.int p5), .val (.int n314), .val (.int n315), .val (.int sp1), .val (.int sp2), .val (.int l316), .val (.int l317), .val (.int s318), .val (.long j319), .second, .val (.ref b320), .val (.ref b321), .val (.ref b324), .val (.int (1 : Int32))] [(.ref tx)]))
        refine own_go (fun t k => XS.iconst X407.here hx rfl (hb hby at_344) k) ?_
        show own_End p e below s _ _ _ (T407.setTop (mkF m 345 #[.val (.int p1), .val (.long p2), .second, .val (.int p3), .val (.int p4), .val (.int p5), .val (.int n314), .val (.int n315), .val (.int sp1), .val (.int sp2), .val (.int l316), .val (.int l317), .val (.int s318), .val (.long j319), .second, .val (.ref b320), .val (.ref b321), .val (.ref b324), .val (.int (1 : Int32))] [(.int (1 : Int32)), (.ref tx)]))
        refine own_go (own_fldA X407 hx hZ e407 F2_tx rfl (j := (1 : Int32)) (v := (.ref b321)) 1 (by decide) (by decide) rfl (pc := 345) (Ls := #[.val (.int p1), .val (.long p2), .second, .val (.int p3), .val (.int p4), .val (.int p5), .val (.int n314), .val (.int n315), .val (.int sp1), .val (.int sp2), .val (.int l316), .val (.int l317), .val (.int s318), .val (.long j319), .second, .val (.ref b320), .val (.ref b321), .val (.ref b324), .val (.int (1 : Int32))]) (rest := []) (hb hby at_345)) ?_
        show own_End p e below s _ _ _ (T407.setTop (mkF m 346 #[.val (.int p1), .val (.long p2), .second, .val (.int p3), .val (.int p4), .val (.int p5), .val (.int n314), .val (.int n315), .val (.int sp1), .val (.int sp2), .val (.int l316), .val (.int l317), .val (.int s318), .val (.long j319), .second, .val (.ref b320), .val (.ref b321), .val (.ref b324), .val (.int (1 : Int32))] [(.ref b321)]))
        refine own_go (fun t k => XS.aload X407.here hx rfl (hb hby at_346) rfl rfl k) ?_
        show own_End p e below s _ _ _ (T407.setTop (mkF m 348 #[.val (.int p1), .val (.long p2), .second, .val (.int p3), .val (.int p4), .val (.int p5), .val (.int n314), .val (.int n315), .val (.int sp1), .val (.int sp2), .val (.int l316), .val (.int l317), .val (.int s318), .val (.long j319), .second, .val (.ref b320), .val (.ref b321), .val (.ref b324), .val (.int (1 : Int32))] [(.ref b321), (.ref b321)]))
        refine own_go (fun t k => XT.acmpNo X407.here hx rfl (hb hby at_348) rfl rfl rfl (by simp [XT.acmp]) k) ?_
        show own_End p e below s _ _ _ (T407.setTop (mkF m 351 #[.val (.int p1), .val (.long p2), .second, .val (.int p3), .val (.int p4), .val (.int p5), .val (.int n314), .val (.int n315), .val (.int sp1), .val (.int sp2), .val (.int l316), .val (.int l317), .val (.int s318), .val (.long j319), .second, .val (.ref b320), .val (.ref b321), .val (.ref b324), .val (.int (1 : Int32))] []))
        refine own_go (fun t k => XS.aload X407.here hx rfl (hb hby at_351) rfl rfl k) ?_
        show own_End p e below s _ _ _ (T407.setTop (mkF m 353 #[.val (.int p1), .val (.long p2), .second, .val (.int p3), .val (.int p4), .val (.int p5), .val (.int n314), .val (.int n315), .val (.int sp1), .val (.int sp2), .val (.int l316), .val (.int l317), .val (.int s318), .val (.long j319), .second, .val (.ref b320), .val (.ref b321), .val (.ref b324), .val (.int (1 : Int32))] [(.ref b324)]))
        obtain ⟨T408, X408, e408, st408⟩ := getF X407 hx hZ hown (host := "") (Or.inl (hw _ (List.mem_of_getElem? (i := 44) rfl))) Via.refl e407 f2_starts (g := (mkF m 353 #[.val (.int p1), .val (.long p2), .second, .val (.int p3), .val (.int p4), .val (.int p5), .val (.int n314), .val (.int n315), .val (.int sp1), .val (.int sp2), .val (.int l316), .val (.int l317), .val (.int s318), .val (.long j319), .second, .val (.ref b320), .val (.ref b321), .val (.ref b324), .val (.int (1 : Int32))] [(.ref b324)])) rfl rfl (hb hby at_353)
        refine own_go st408 ?_
        show own_End p e below s _ _ _ (T408.setTop (mkF m 356 #[.val (.int p1), .val (.long p2), .second, .val (.int p3), .val (.int p4), .val (.int p5), .val (.int n314), .val (.int n315), .val (.int sp1), .val (.int sp2), .val (.int l316), .val (.int l317), .val (.int s318), .val (.long j319), .second, .val (.ref b320), .val (.ref b321), .val (.ref b324), .val (.int (1 : Int32))] [(.ref st)]))
        refine own_go (fun t k => XS.iconst X408.here hx rfl (hb hby at_356) k) ?_
        show own_End p e below s _ _ _ (T408.setTop (mkF m 357 #[.val (.int p1), .val (.long p2), .second, .val (.int p3), .val (.int p4), .val (.int p5), .val (.int n314), .val (.int n315), .val (.int sp1), .val (.int sp2), .val (.int l316), .val (.int l317), .val (.int s318), .val (.long j319), .second, .val (.ref b320), .val (.ref b321), .val (.ref b324), .val (.int (1 : Int32))] [(.int (1 : Int32)), (.ref st)]))
        refine own_go (own_fldI X408 hx hZ e408 F2_st (j := (1 : Int32)) (v := (.int s318)) 1 (by decide) (by decide) rfl (pc := 357) (Ls := #[.val (.int p1), .val (.long p2), .second, .val (.int p3), .val (.int p4), .val (.int p5), .val (.int n314), .val (.int n315), .val (.int sp1), .val (.int sp2), .val (.int l316), .val (.int l317), .val (.int s318), .val (.long j319), .second, .val (.ref b320), .val (.ref b321), .val (.ref b324), .val (.int (1 : Int32))]) (rest := []) (hb hby at_357)) ?_
        show own_End p e below s _ _ _ (T408.setTop (mkF m 358 #[.val (.int p1), .val (.long p2), .second, .val (.int p3), .val (.int p4), .val (.int p5), .val (.int n314), .val (.int n315), .val (.int sp1), .val (.int sp2), .val (.int l316), .val (.int l317), .val (.int s318), .val (.long j319), .second, .val (.ref b320), .val (.ref b321), .val (.ref b324), .val (.int (1 : Int32))] [(.int s318)]))
        refine own_go (fun t k => XS.iload X408.here hx rfl (hb hby at_358) rfl k) ?_
        show own_End p e below s _ _ _ (T408.setTop (mkF m 360 #[.val (.int p1), .val (.long p2), .second, .val (.int p3), .val (.int p4), .val (.int p5), .val (.int n314), .val (.int n315), .val (.int sp1), .val (.int sp2), .val (.int l316), .val (.int l317), .val (.int s318), .val (.long j319), .second, .val (.ref b320), .val (.ref b321), .val (.ref b324), .val (.int (1 : Int32))] [(.int s318), (.int s318)]))
        refine own_go (fun t k => XS.icmpNo X408.here hx rfl (hb hby at_360) rfl (teq rfl).2 k) ?_
        show own_End p e below s _ _ _ (T408.setTop (mkF m 363 #[.val (.int p1), .val (.long p2), .second, .val (.int p3), .val (.int p4), .val (.int p5), .val (.int n314), .val (.int n315), .val (.int sp1), .val (.int sp2), .val (.int l316), .val (.int l317), .val (.int s318), .val (.long j319), .second, .val (.ref b320), .val (.ref b321), .val (.ref b324), .val (.int (1 : Int32))] []))
        refine own_go (fun t k => XS.aload X408.here hx rfl (hb hby at_363) rfl rfl k) ?_
        show own_End p e below s _ _ _ (T408.setTop (mkF m 365 #[.val (.int p1), .val (.long p2), .second, .val (.int p3), .val (.int p4), .val (.int p5), .val (.int n314), .val (.int n315), .val (.int sp1), .val (.int sp2), .val (.int l316), .val (.int l317), .val (.int s318), .val (.long j319), .second, .val (.ref b320), .val (.ref b321), .val (.ref b324), .val (.int (1 : Int32))] [(.ref b324)]))
        obtain ⟨T409, X409, e409, st409⟩ := getF X408 hx hZ hown (host := "") (Or.inl (hw _ (List.mem_of_getElem? (i := 45) rfl))) Via.refl e408 f2_lines (g := (mkF m 365 #[.val (.int p1), .val (.long p2), .second, .val (.int p3), .val (.int p4), .val (.int p5), .val (.int n314), .val (.int n315), .val (.int sp1), .val (.int sp2), .val (.int l316), .val (.int l317), .val (.int s318), .val (.long j319), .second, .val (.ref b320), .val (.ref b321), .val (.ref b324), .val (.int (1 : Int32))] [(.ref b324)])) rfl rfl (hb hby at_365)
        refine own_go st409 ?_
        show own_End p e below s _ _ _ (T409.setTop (mkF m 368 #[.val (.int p1), .val (.long p2), .second, .val (.int p3), .val (.int p4), .val (.int p5), .val (.int n314), .val (.int n315), .val (.int sp1), .val (.int sp2), .val (.int l316), .val (.int l317), .val (.int s318), .val (.long j319), .second, .val (.ref b320), .val (.ref b321), .val (.ref b324), .val (.int (1 : Int32))] [(.ref li)]))
        refine own_go (fun t k => XS.iconst X409.here hx rfl (hb hby at_368) k) ?_
        show own_End p e below s _ _ _ (T409.setTop (mkF m 369 #[.val (.int p1), .val (.long p2), .second, .val (.int p3), .val (.int p4), .val (.int p5), .val (.int n314), .val (.int n315), .val (.int sp1), .val (.int sp2), .val (.int l316), .val (.int l317), .val (.int s318), .val (.long j319), .second, .val (.ref b320), .val (.ref b321), .val (.ref b324), .val (.int (1 : Int32))] [(.int (1 : Int32)), (.ref li)]))
        refine own_go (own_fldJ X409 hx hZ e409 F2_li (j := (1 : Int32)) (v := (.long j319)) 1 (by decide) (by decide) rfl (pc := 369) (Ls := #[.val (.int p1), .val (.long p2), .second, .val (.int p3), .val (.int p4), .val (.int p5), .val (.int n314), .val (.int n315), .val (.int sp1), .val (.int sp2), .val (.int l316), .val (.int l317), .val (.int s318), .val (.long j319), .second, .val (.ref b320), .val (.ref b321), .val (.ref b324), .val (.int (1 : Int32))]) (rest := []) (hb hby at_369)) ?_
        show own_End p e below s _ _ _ (T409.setTop (mkF m 370 #[.val (.int p1), .val (.long p2), .second, .val (.int p3), .val (.int p4), .val (.int p5), .val (.int n314), .val (.int n315), .val (.int sp1), .val (.int sp2), .val (.int l316), .val (.int l317), .val (.int s318), .val (.long j319), .second, .val (.ref b320), .val (.ref b321), .val (.ref b324), .val (.int (1 : Int32))] [(.long j319)]))
        refine own_go (fun t k => XT.lload X409.here hx rfl (hb hby at_370) rfl k) ?_
        show own_End p e below s _ _ _ (T409.setTop (mkF m 372 #[.val (.int p1), .val (.long p2), .second, .val (.int p3), .val (.int p4), .val (.int p5), .val (.int n314), .val (.int n315), .val (.int sp1), .val (.int sp2), .val (.int l316), .val (.int l317), .val (.int s318), .val (.long j319), .second, .val (.ref b320), .val (.ref b321), .val (.ref b324), .val (.int (1 : Int32))] [(.long j319), (.long j319)]))
        refine own_go (fun t k => XT.lcmp X409.here hx rfl (hb hby at_372) rfl k) ?_
        show own_End p e below s _ _ _ (T409.setTop (mkF m 373 #[.val (.int p1), .val (.long p2), .second, .val (.int p3), .val (.int p4), .val (.int p5), .val (.int n314), .val (.int n315), .val (.int sp1), .val (.int sp2), .val (.int l316), .val (.int l317), .val (.int s318), .val (.long j319), .second, .val (.ref b320), .val (.ref b321), .val (.ref b324), .val (.int (1 : Int32))] [(.int (XT.cmpL j319 j319))]))
        refine own_go (fun t k => XS.ifNo X409.here hx rfl (hb hby at_373) rfl (own_lneN rfl (fun z => z rfl)) k) ?_
        show own_End p e below s _ _ _ (T409.setTop (mkF m 376 #[.val (.int p1), .val (.long p2), .second, .val (.int p3), .val (.int p4), .val (.int p5), .val (.int n314), .val (.int n315), .val (.int sp1), .val (.int sp2), .val (.int l316), .val (.int l317), .val (.int s318), .val (.long j319), .second, .val (.ref b320), .val (.ref b321), .val (.ref b324), .val (.int (1 : Int32))] []))
        refine own_go (fun t k => XS.aload X409.here hx rfl (hb hby at_376) rfl rfl k) ?_
        show own_End p e below s _ _ _ (T409.setTop (mkF m 378 #[.val (.int p1), .val (.long p2), .second, .val (.int p3), .val (.int p4), .val (.int p5), .val (.int n314), .val (.int n315), .val (.int sp1), .val (.int sp2), .val (.int l316), .val (.int l317), .val (.int s318), .val (.long j319), .second, .val (.ref b320), .val (.ref b321), .val (.ref b324), .val (.int (1 : Int32))] [(.ref b324)]))
        obtain ⟨T410, X410, e410, st410⟩ := getF X409 hx hZ hown (host := "") (Or.inl (hw _ (List.mem_of_getElem? (i := 46) rfl))) Via.refl e409 f2_endsWithSeparator (g := (mkF m 378 #[.val (.int p1), .val (.long p2), .second, .val (.int p3), .val (.int p4), .val (.int p5), .val (.int n314), .val (.int n315), .val (.int sp1), .val (.int sp2), .val (.int l316), .val (.int l317), .val (.int s318), .val (.long j319), .second, .val (.ref b320), .val (.ref b321), .val (.ref b324), .val (.int (1 : Int32))] [(.ref b324)])) rfl rfl (hb hby at_378)
        refine own_go st410 ?_
        show own_End p e below s _ _ _ (T410.setTop (mkF m 381 #[.val (.int p1), .val (.long p2), .second, .val (.int p3), .val (.int p4), .val (.int p5), .val (.int n314), .val (.int n315), .val (.int sp1), .val (.int sp2), .val (.int l316), .val (.int l317), .val (.int s318), .val (.long j319), .second, .val (.ref b320), .val (.ref b321), .val (.ref b324), .val (.int (1 : Int32))] [(.ref es)]))
        refine own_go (fun t k => XS.iconst X410.here hx rfl (hb hby at_381) k) ?_
        show own_End p e below s _ _ _ (T410.setTop (mkF m 382 #[.val (.int p1), .val (.long p2), .second, .val (.int p3), .val (.int p4), .val (.int p5), .val (.int n314), .val (.int n315), .val (.int sp1), .val (.int sp2), .val (.int l316), .val (.int l317), .val (.int s318), .val (.long j319), .second, .val (.ref b320), .val (.ref b321), .val (.ref b324), .val (.int (1 : Int32))] [(.int (1 : Int32)), (.ref es)]))
        refine own_go (own_fldZ X410 hx hZ e410 F2_es (j := (1 : Int32)) (v := (.int (nar .boolean sp2))) 1 (by decide) (by decide) rfl (pc := 382) (Ls := #[.val (.int p1), .val (.long p2), .second, .val (.int p3), .val (.int p4), .val (.int p5), .val (.int n314), .val (.int n315), .val (.int sp1), .val (.int sp2), .val (.int l316), .val (.int l317), .val (.int s318), .val (.long j319), .second, .val (.ref b320), .val (.ref b321), .val (.ref b324), .val (.int (1 : Int32))]) (rest := []) (hb hby at_382)) ?_
        show own_End p e below s _ _ _ (T410.setTop (mkF m 383 #[.val (.int p1), .val (.long p2), .second, .val (.int p3), .val (.int p4), .val (.int p5), .val (.int n314), .val (.int n315), .val (.int sp1), .val (.int sp2), .val (.int l316), .val (.int l317), .val (.int s318), .val (.long j319), .second, .val (.ref b320), .val (.ref b321), .val (.ref b324), .val (.int (1 : Int32))] [(.int (nar .boolean sp2))]))
        refine own_go (fun t k => XS.iload X410.here hx rfl (hb hby at_383) rfl k) ?_
        show own_End p e below s _ _ _ (T410.setTop (mkF m 385 #[.val (.int p1), .val (.long p2), .second, .val (.int p3), .val (.int p4), .val (.int p5), .val (.int n314), .val (.int n315), .val (.int sp1), .val (.int sp2), .val (.int l316), .val (.int l317), .val (.int s318), .val (.long j319), .second, .val (.ref b320), .val (.ref b321), .val (.ref b324), .val (.int (1 : Int32))] [(.int sp2), (.int (nar .boolean sp2))]))
        refine own_go (fun t k => XS.icmpNo X410.here hx rfl (hb hby at_385) rfl (teq hsp2).2 k) ?_
        show own_End p e below s _ _ _ (T410.setTop (mkF m 388 #[.val (.int p1), .val (.long p2), .second, .val (.int p3), .val (.int p4), .val (.int p5), .val (.int n314), .val (.int n315), .val (.int sp1), .val (.int sp2), .val (.int l316), .val (.int l317), .val (.int s318), .val (.long j319), .second, .val (.ref b320), .val (.ref b321), .val (.ref b324), .val (.int (1 : Int32))] []))
        refine own_go (fun t k => XS.aload X410.here hx rfl (hb hby at_388) rfl rfl k) ?_
        show own_End p e below s _ _ _ (T410.setTop (mkF m 390 #[.val (.int p1), .val (.long p2), .second, .val (.int p3), .val (.int p4), .val (.int p5), .val (.int n314), .val (.int n315), .val (.int sp1), .val (.int sp2), .val (.int l316), .val (.int l317), .val (.int s318), .val (.long j319), .second, .val (.ref b320), .val (.ref b321), .val (.ref b324), .val (.int (1 : Int32))] [(.ref b324)]))
        obtain ⟨T411, X411, e411, st411⟩ := getF X410 hx hZ hown (host := "") (Or.inl (hw _ (List.mem_of_getElem? (i := 47) rfl))) Via.refl e410 f2_firstEnds (g := (mkF m 390 #[.val (.int p1), .val (.long p2), .second, .val (.int p3), .val (.int p4), .val (.int p5), .val (.int n314), .val (.int n315), .val (.int sp1), .val (.int sp2), .val (.int l316), .val (.int l317), .val (.int s318), .val (.long j319), .second, .val (.ref b320), .val (.ref b321), .val (.ref b324), .val (.int (1 : Int32))] [(.ref b324)])) rfl rfl (hb hby at_390)
        refine own_go st411 ?_
        show own_End p e below s _ _ _ (T411.setTop (mkF m 393 #[.val (.int p1), .val (.long p2), .second, .val (.int p3), .val (.int p4), .val (.int p5), .val (.int n314), .val (.int n315), .val (.int sp1), .val (.int sp2), .val (.int l316), .val (.int l317), .val (.int s318), .val (.long j319), .second, .val (.ref b320), .val (.ref b321), .val (.ref b324), .val (.int (1 : Int32))] [(.ref fe)]))
        refine own_go (fun t k => XS.iconst X411.here hx rfl (hb hby at_393) k) ?_
        show own_End p e below s _ _ _ (T411.setTop (mkF m 394 #[.val (.int p1), .val (.long p2), .second, .val (.int p3), .val (.int p4), .val (.int p5), .val (.int n314), .val (.int n315), .val (.int sp1), .val (.int sp2), .val (.int l316), .val (.int l317), .val (.int s318), .val (.long j319), .second, .val (.ref b320), .val (.ref b321), .val (.ref b324), .val (.int (1 : Int32))] [(.int (2 : Int32)), (.ref fe)]))
        refine own_go (own_fldI X411 hx hZ e411 F2_fe (j := (2 : Int32)) (v := (.int (n314 + n315))) 2 (by decide) (by decide) rfl (pc := 394) (Ls := #[.val (.int p1), .val (.long p2), .second, .val (.int p3), .val (.int p4), .val (.int p5), .val (.int n314), .val (.int n315), .val (.int sp1), .val (.int sp2), .val (.int l316), .val (.int l317), .val (.int s318), .val (.long j319), .second, .val (.ref b320), .val (.ref b321), .val (.ref b324), .val (.int (1 : Int32))]) (rest := []) (hb hby at_394)) ?_
        show own_End p e below s _ _ _ (T411.setTop (mkF m 395 #[.val (.int p1), .val (.long p2), .second, .val (.int p3), .val (.int p4), .val (.int p5), .val (.int n314), .val (.int n315), .val (.int sp1), .val (.int sp2), .val (.int l316), .val (.int l317), .val (.int s318), .val (.long j319), .second, .val (.ref b320), .val (.ref b321), .val (.ref b324), .val (.int (1 : Int32))] [(.int (n314 + n315))]))
        refine own_go (fun t k => XS.iload X411.here hx rfl (hb hby at_395) rfl k) ?_
        show own_End p e below s _ _ _ (T411.setTop (mkF m 397 #[.val (.int p1), .val (.long p2), .second, .val (.int p3), .val (.int p4), .val (.int p5), .val (.int n314), .val (.int n315), .val (.int sp1), .val (.int sp2), .val (.int l316), .val (.int l317), .val (.int s318), .val (.long j319), .second, .val (.ref b320), .val (.ref b321), .val (.ref b324), .val (.int (1 : Int32))] [(.int n314), (.int (n314 + n315))]))
        refine own_go (fun t k => XS.iload X411.here hx rfl (hb hby at_397) rfl k) ?_
        show own_End p e below s _ _ _ (T411.setTop (mkF m 399 #[.val (.int p1), .val (.long p2), .second, .val (.int p3), .val (.int p4), .val (.int p5), .val (.int n314), .val (.int n315), .val (.int sp1), .val (.int sp2), .val (.int l316), .val (.int l317), .val (.int s318), .val (.long j319), .second, .val (.ref b320), .val (.ref b321), .val (.ref b324), .val (.int (1 : Int32))] [(.int n315), (.int n314), (.int (n314 + n315))]))
        refine own_go (fun t k => XS.iadd X411.here hx rfl (hb hby at_399) rfl k) ?_
        show own_End p e below s _ _ _ (T411.setTop (mkF m 400 #[.val (.int p1), .val (.long p2), .second, .val (.int p3), .val (.int p4), .val (.int p5), .val (.int n314), .val (.int n315), .val (.int sp1), .val (.int sp2), .val (.int l316), .val (.int l317), .val (.int s318), .val (.long j319), .second, .val (.ref b320), .val (.ref b321), .val (.ref b324), .val (.int (1 : Int32))] [(.int (n314 + n315)), (.int (n314 + n315))]))
        refine own_go (fun t k => XS.icmpNo X411.here hx rfl (hb hby at_400) rfl (teq rfl).2 k) ?_
        show own_End p e below s _ _ _ (T411.setTop (mkF m 403 #[.val (.int p1), .val (.long p2), .second, .val (.int p3), .val (.int p4), .val (.int p5), .val (.int n314), .val (.int n315), .val (.int sp1), .val (.int sp2), .val (.int l316), .val (.int l317), .val (.int s318), .val (.long j319), .second, .val (.ref b320), .val (.ref b321), .val (.ref b324), .val (.int (1 : Int32))] []))
        refine own_go (fun t k => XS.aload X411.here hx rfl (hb hby at_403) rfl rfl k) ?_
        show own_End p e below s _ _ _ (T411.setTop (mkF m 405 #[.val (.int p1), .val (.long p2), .second, .val (.int p3), .val (.int p4), .val (.int p5), .val (.int n314), .val (.int n315), .val (.int sp1), .val (.int sp2), .val (.int l316), .val (.int l317), .val (.int s318), .val (.long j319), .second, .val (.ref b320), .val (.ref b321), .val (.ref b324), .val (.int (1 : Int32))] [(.ref b324)]))
        refine own_go (fun t k => XS.iconst X411.here hx rfl (hb hby at_405) k) ?_
        show own_End p e below s _ _ _ (T411.setTop (mkF m 406 #[.val (.int p1), .val (.long p2), .second, .val (.int p3), .val (.int p4), .val (.int p5), .val (.int n314), .val (.int n315), .val (.int sp1), .val (.int sp2), .val (.int l316), .val (.int l317), .val (.int s318), .val (.long j319), .second, .val (.ref b320), .val (.ref b321), .val (.ref b324), .val (.int (1 : Int32))] [(.int (1 : Int32)), (.ref b324)]))
        obtain ⟨v412, T412, L412, X412, hQ412, st412⟩ := own_callV X411 hx hZ (C := "com/example/frage/frage/table/Records") (y := (⟨"com/example/frage/frage/table/Records", "fields", "(I)I"⟩ : MethodName)) 0 hown (hw _ (List.mem_of_getElem? (i := 48) rfl)) (hw _ (List.mem_of_getElem? (i := 49) rfl)) (hw _ (List.mem_of_getElem? (i := 51) rfl)) (hw _ (List.mem_of_getElem? (i := 50) rfl)) (hw _ (List.mem_of_getElem? (i := 6) rfl)) (hw _ (List.mem_of_getElem? (i := 52) rfl)) (by decide) (rm4 l Z a0 hw [] b324 (1 : Int32) h396 n0 Z396 tx st en fe li es ktx kst ken kfe kli kes _ _ _ _ _ _ 2 (l316 + l317) hord nb324 f399 F2_tx F2_st F2_en F2_fe F2_li F2_es f2_texts f2_starts f2_ends f2_firstEnds f2_lines f2_endsWithSeparator f2_count f2_bytes 1 n314 (n314 + n315) (by decide) (by decide) (by decide) rfl rfl) e411 f399 (pc := 406) (Ls := #[.val (.int p1), .val (.long p2), .second, .val (.int p3), .val (.int p4), .val (.int p5), .val (.int n314), .val (.int n315), .val (.int sp1), .val (.int sp2), .val (.int l316), .val (.int l317), .val (.int s318), .val (.long j319), .second, .val (.ref b320), .val (.ref b321), .val (.ref b324), .val (.int (1 : Int32))]) [(.int (1 : Int32))] [] (by rw [hml]; rfl) rfl rfl (lenOf pd_I_I rfl) (Nat.le_of_eq rfl) (hb hby at_406) (by decide) (by decide) (by decide) (by decide)
        obtain ⟨rfl, Nd413, e413⟩ := hQ412
        have N413 := Fr.app N_a2 Nd413
        refine own_go st412 ?_
        show own_End p e below s _ _ _ (T412.setTop (mkF m 409 #[.val (.int p1), .val (.long p2), .second, .val (.int p3), .val (.int p4), .val (.int p5), .val (.int n314), .val (.int n315), .val (.int sp1), .val (.int sp2), .val (.int l316), .val (.int l317), .val (.int s318), .val (.long j319), .second, .val (.ref b320), .val (.ref b321), .val (.ref b324), .val (.int (1 : Int32))] [(.int ((n314 + n315) - n314))]))
        refine own_go (fun t k => XS.iload X412.here hx rfl (hb hby at_409) rfl k) ?_
        show own_End p e below s _ _ _ (T412.setTop (mkF m 411 #[.val (.int p1), .val (.long p2), .second, .val (.int p3), .val (.int p4), .val (.int p5), .val (.int n314), .val (.int n315), .val (.int sp1), .val (.int sp2), .val (.int l316), .val (.int l317), .val (.int s318), .val (.long j319), .second, .val (.ref b320), .val (.ref b321), .val (.ref b324), .val (.int (1 : Int32))] [(.int n315), (.int ((n314 + n315) - n314))]))
        refine own_go (fun t k => XS.icmpNo X412.here hx rfl (hb hby at_411) rfl (teq (own_cancel n314 n315)).2 k) ?_
        show own_End p e below s _ _ _ (T412.setTop (mkF m 414 #[.val (.int p1), .val (.long p2), .second, .val (.int p3), .val (.int p4), .val (.int p5), .val (.int n314), .val (.int n315), .val (.int sp1), .val (.int sp2), .val (.int l316), .val (.int l317), .val (.int s318), .val (.long j319), .second, .val (.ref b320), .val (.ref b321), .val (.ref b324), .val (.int (1 : Int32))] []))
        refine own_go (fun t k => XS.aload X412.here hx rfl (hb hby at_414) rfl rfl k) ?_
        show own_End p e below s _ _ _ (T412.setTop (mkF m 416 #[.val (.int p1), .val (.long p2), .second, .val (.int p3), .val (.int p4), .val (.int p5), .val (.int n314), .val (.int n315), .val (.int sp1), .val (.int sp2), .val (.int l316), .val (.int l317), .val (.int s318), .val (.long j319), .second, .val (.ref b320), .val (.ref b321), .val (.ref b324), .val (.int (1 : Int32))] [(.ref b324)]))
        obtain ⟨T414, X414, e414, st414⟩ := getF X412 hx hZ hown (host := "") (Or.inl (hw _ (List.mem_of_getElem? (i := 31) rfl))) Via.refl e413 f2_ends (g := (mkF m 416 #[.val (.int p1), .val (.long p2), .second, .val (.int p3), .val (.int p4), .val (.int p5), .val (.int n314), .val (.int n315), .val (.int sp1), .val (.int sp2), .val (.int l316), .val (.int l317), .val (.int s318), .val (.long j319), .second, .val (.ref b320), .val (.ref b321), .val (.ref b324), .val (.int (1 : Int32))] [(.ref b324)])) rfl rfl (hb hby at_416)
        refine own_go st414 ?_
        show own_End p e below s _ _ _ (T414.setTop (mkF m 419 #[.val (.int p1), .val (.long p2), .second, .val (.int p3), .val (.int p4), .val (.int p5), .val (.int n314), .val (.int n315), .val (.int sp1), .val (.int sp2), .val (.int l316), .val (.int l317), .val (.int s318), .val (.long j319), .second, .val (.ref b320), .val (.ref b321), .val (.ref b324), .val (.int (1 : Int32))] [(.ref en)]))
        refine own_go (fun t k => XS.iload X414.here hx rfl (hb hby at_419) rfl k) ?_
        show own_End p e below s _ _ _ (T414.setTop (mkF m 421 #[.val (.int p1), .val (.long p2), .second, .val (.int p3), .val (.int p4), .val (.int p5), .val (.int n314), .val (.int n315), .val (.int sp1), .val (.int sp2), .val (.int l316), .val (.int l317), .val (.int s318), .val (.long j319), .second, .val (.ref b320), .val (.ref b321), .val (.ref b324), .val (.int (1 : Int32))] [(.int n314), (.ref en)]))
        refine own_go (fun t k => XS.iconst X414.here hx rfl (hb hby at_421) k) ?_
        show own_End p e below s _ _ _ (T414.setTop (mkF m 422 #[.val (.int p1), .val (.long p2), .second, .val (.int p3), .val (.int p4), .val (.int p5), .val (.int n314), .val (.int n315), .val (.int sp1), .val (.int sp2), .val (.int l316), .val (.int l317), .val (.int s318), .val (.long j319), .second, .val (.ref b320), .val (.ref b321), .val (.ref b324), .val (.int (1 : Int32))] [(.int (1 : Int32)), (.int n314), (.ref en)]))
        refine own_go (fun t k => XS.isub X414.here hx rfl (hb hby at_422) rfl k) ?_
        show own_End p e below s _ _ _ (T414.setTop (mkF m 423 #[.val (.int p1), .val (.long p2), .second, .val (.int p3), .val (.int p4), .val (.int p5), .val (.int n314), .val (.int n315), .val (.int sp1), .val (.int sp2), .val (.int l316), .val (.int l317), .val (.int s318), .val (.long j319), .second, .val (.ref b320), .val (.ref b321), .val (.ref b324), .val (.int (1 : Int32))] [(.int (n314 - (1 : Int32))), (.ref en)]))
        refine own_go (own_fldI X414 hx hZ e414 F2_en (j := (n314 - (1 : Int32))) (v := (.int l316)) m1 hi1 (by omega) (by rw [own_up_ne hne, own_up_eq]) (pc := 423) (Ls := #[.val (.int p1), .val (.long p2), .second, .val (.int p3), .val (.int p4), .val (.int p5), .val (.int n314), .val (.int n315), .val (.int sp1), .val (.int sp2), .val (.int l316), .val (.int l317), .val (.int s318), .val (.long j319), .second, .val (.ref b320), .val (.ref b321), .val (.ref b324), .val (.int (1 : Int32))]) (rest := []) (hb hby at_423)) ?_
        show own_End p e below s _ _ _ (T414.setTop (mkF m 424 #[.val (.int p1), .val (.long p2), .second, .val (.int p3), .val (.int p4), .val (.int p5), .val (.int n314), .val (.int n315), .val (.int sp1), .val (.int sp2), .val (.int l316), .val (.int l317), .val (.int s318), .val (.long j319), .second, .val (.ref b320), .val (.ref b321), .val (.ref b324), .val (.int (1 : Int32))] [(.int l316)]))
        refine own_go (fun t k => XS.iload X414.here hx rfl (hb hby at_424) rfl k) ?_
        show own_End p e below s _ _ _ (T414.setTop (mkF m 426 #[.val (.int p1), .val (.long p2), .second, .val (.int p3), .val (.int p4), .val (.int p5), .val (.int n314), .val (.int n315), .val (.int sp1), .val (.int sp2), .val (.int l316), .val (.int l317), .val (.int s318), .val (.long j319), .second, .val (.ref b320), .val (.ref b321), .val (.ref b324), .val (.int (1 : Int32))] [(.int l316), (.int l316)]))
        refine own_go (fun t k => XS.icmpNo X414.here hx rfl (hb hby at_426) rfl (teq rfl).2 k) ?_
        show own_End p e below s _ _ _ (T414.setTop (mkF m 429 #[.val (.int p1), .val (.long p2), .second, .val (.int p3), .val (.int p4), .val (.int p5), .val (.int n314), .val (.int n315), .val (.int sp1), .val (.int sp2), .val (.int l316), .val (.int l317), .val (.int s318), .val (.long j319), .second, .val (.ref b320), .val (.ref b321), .val (.ref b324), .val (.int (1 : Int32))] []))
        refine own_go (fun t k => XS.aload X414.here hx rfl (hb hby at_429) rfl rfl k) ?_
        show own_End p e below s _ _ _ (T414.setTop (mkF m 431 #[.val (.int p1), .val (.long p2), .second, .val (.int p3), .val (.int p4), .val (.int p5), .val (.int n314), .val (.int n315), .val (.int sp1), .val (.int sp2), .val (.int l316), .val (.int l317), .val (.int s318), .val (.long j319), .second, .val (.ref b320), .val (.ref b321), .val (.ref b324), .val (.int (1 : Int32))] [(.ref b324)]))
        obtain ⟨T415, X415, e415, st415⟩ := getF X414 hx hZ hown (host := "") (Or.inl (hw _ (List.mem_of_getElem? (i := 31) rfl))) Via.refl e414 f2_ends (g := (mkF m 431 #[.val (.int p1), .val (.long p2), .second, .val (.int p3), .val (.int p4), .val (.int p5), .val (.int n314), .val (.int n315), .val (.int sp1), .val (.int sp2), .val (.int l316), .val (.int l317), .val (.int s318), .val (.long j319), .second, .val (.ref b320), .val (.ref b321), .val (.ref b324), .val (.int (1 : Int32))] [(.ref b324)])) rfl rfl (hb hby at_431)
        refine own_go st415 ?_
        show own_End p e below s _ _ _ (T415.setTop (mkF m 434 #[.val (.int p1), .val (.long p2), .second, .val (.int p3), .val (.int p4), .val (.int p5), .val (.int n314), .val (.int n315), .val (.int sp1), .val (.int sp2), .val (.int l316), .val (.int l317), .val (.int s318), .val (.long j319), .second, .val (.ref b320), .val (.ref b321), .val (.ref b324), .val (.int (1 : Int32))] [(.ref en)]))
        refine own_go (fun t k => XS.iload X415.here hx rfl (hb hby at_434) rfl k) ?_
        show own_End p e below s _ _ _ (T415.setTop (mkF m 436 #[.val (.int p1), .val (.long p2), .second, .val (.int p3), .val (.int p4), .val (.int p5), .val (.int n314), .val (.int n315), .val (.int sp1), .val (.int sp2), .val (.int l316), .val (.int l317), .val (.int s318), .val (.long j319), .second, .val (.ref b320), .val (.ref b321), .val (.ref b324), .val (.int (1 : Int32))] [(.int n314), (.ref en)]))
        refine own_go (fun t k => XS.iload X415.here hx rfl (hb hby at_436) rfl k) ?_
        show own_End p e below s _ _ _ (T415.setTop (mkF m 438 #[.val (.int p1), .val (.long p2), .second, .val (.int p3), .val (.int p4), .val (.int p5), .val (.int n314), .val (.int n315), .val (.int sp1), .val (.int sp2), .val (.int l316), .val (.int l317), .val (.int s318), .val (.long j319), .second, .val (.ref b320), .val (.ref b321), .val (.ref b324), .val (.int (1 : Int32))] [(.int n315), (.int n314), (.ref en)]))
        refine own_go (fun t k => XS.iadd X415.here hx rfl (hb hby at_438) rfl k) ?_
        show own_End p e below s _ _ _ (T415.setTop (mkF m 439 #[.val (.int p1), .val (.long p2), .second, .val (.int p3), .val (.int p4), .val (.int p5), .val (.int n314), .val (.int n315), .val (.int sp1), .val (.int sp2), .val (.int l316), .val (.int l317), .val (.int s318), .val (.long j319), .second, .val (.ref b320), .val (.ref b321), .val (.ref b324), .val (.int (1 : Int32))] [(.int (n314 + n315)), (.ref en)]))
        refine own_go (fun t k => XS.iconst X415.here hx rfl (hb hby at_439) k) ?_
        show own_End p e below s _ _ _ (T415.setTop (mkF m 440 #[.val (.int p1), .val (.long p2), .second, .val (.int p3), .val (.int p4), .val (.int p5), .val (.int n314), .val (.int n315), .val (.int sp1), .val (.int sp2), .val (.int l316), .val (.int l317), .val (.int s318), .val (.long j319), .second, .val (.ref b320), .val (.ref b321), .val (.ref b324), .val (.int (1 : Int32))] [(.int (1 : Int32)), (.int (n314 + n315)), (.ref en)]))
        refine own_go (fun t k => XS.isub X415.here hx rfl (hb hby at_440) rfl k) ?_
        show own_End p e below s _ _ _ (T415.setTop (mkF m 441 #[.val (.int p1), .val (.long p2), .second, .val (.int p3), .val (.int p4), .val (.int p5), .val (.int n314), .val (.int n315), .val (.int sp1), .val (.int sp2), .val (.int l316), .val (.int l317), .val (.int s318), .val (.long j319), .second, .val (.ref b320), .val (.ref b321), .val (.ref b324), .val (.int (1 : Int32))] [(.int ((n314 + n315) - (1 : Int32))), (.ref en)]))
        refine own_go (own_fldI X415 hx hZ e415 F2_en (j := ((n314 + n315) - (1 : Int32))) (v := (.int l317)) m2 hi2 (by omega) own_up_eq (pc := 441) (Ls := #[.val (.int p1), .val (.long p2), .second, .val (.int p3), .val (.int p4), .val (.int p5), .val (.int n314), .val (.int n315), .val (.int sp1), .val (.int sp2), .val (.int l316), .val (.int l317), .val (.int s318), .val (.long j319), .second, .val (.ref b320), .val (.ref b321), .val (.ref b324), .val (.int (1 : Int32))]) (rest := []) (hb hby at_441)) ?_
        show own_End p e below s _ _ _ (T415.setTop (mkF m 442 #[.val (.int p1), .val (.long p2), .second, .val (.int p3), .val (.int p4), .val (.int p5), .val (.int n314), .val (.int n315), .val (.int sp1), .val (.int sp2), .val (.int l316), .val (.int l317), .val (.int s318), .val (.long j319), .second, .val (.ref b320), .val (.ref b321), .val (.ref b324), .val (.int (1 : Int32))] [(.int l317)]))
        refine own_go (fun t k => XS.iload X415.here hx rfl (hb hby at_442) rfl k) ?_
        show own_End p e below s _ _ _ (T415.setTop (mkF m 444 #[.val (.int p1), .val (.long p2), .second, .val (.int p3), .val (.int p4), .val (.int p5), .val (.int n314), .val (.int n315), .val (.int sp1), .val (.int sp2), .val (.int l316), .val (.int l317), .val (.int s318), .val (.long j319), .second, .val (.ref b320), .val (.ref b321), .val (.ref b324), .val (.int (1 : Int32))] [(.int l317), (.int l317)]))
        refine own_go (fun t k => XS.icmpNo X415.here hx rfl (hb hby at_444) rfl (teq rfl).2 k) ?_
        show own_End p e below s _ _ _ (T415.setTop (mkF m 447 #[.val (.int p1), .val (.long p2), .second, .val (.int p3), .val (.int p4), .val (.int p5), .val (.int n314), .val (.int n315), .val (.int sp1), .val (.int sp2), .val (.int l316), .val (.int l317), .val (.int s318), .val (.long j319), .second, .val (.ref b320), .val (.ref b321), .val (.ref b324), .val (.int (1 : Int32))] []))
        refine own_go (fun t k => XS.aload X415.here hx rfl (hb hby at_447) rfl rfl k) ?_
        show own_End p e below s _ _ _ (T415.setTop (mkF m 449 #[.val (.int p1), .val (.long p2), .second, .val (.int p3), .val (.int p4), .val (.int p5), .val (.int n314), .val (.int n315), .val (.int sp1), .val (.int sp2), .val (.int l316), .val (.int l317), .val (.int s318), .val (.long j319), .second, .val (.ref b320), .val (.ref b321), .val (.ref b324), .val (.int (1 : Int32))] [(.ref b324)]))
        obtain ⟨v416, T416, L416, X416, hQ416, st416⟩ := own_callV X415 hx hZ (C := "com/example/frage/frage/table/Records") (y := (⟨"com/example/frage/frage/table/Records", "full", "()Z"⟩ : MethodName)) 0 hown (hw _ (List.mem_of_getElem? (i := 53) rfl)) (hw _ (List.mem_of_getElem? (i := 54) rfl)) (hw _ (List.mem_of_getElem? (i := 56) rfl)) (hw _ (List.mem_of_getElem? (i := 55) rfl)) (hw _ (List.mem_of_getElem? (i := 6) rfl)) (hw _ (List.mem_of_getElem? (i := 57) rfl)) (by decide) (rm5 l Z a0 hw [] b324 h396 n0 Z396 tx st en fe li es ktx kst ken kfe kli kes _ _ _ _ _ _ 2 (l316 + l317) hord nb324 f399 F2_tx F2_st F2_en F2_fe F2_li F2_es f2_texts f2_starts f2_ends f2_firstEnds f2_lines f2_endsWithSeparator f2_count f2_bytes (by decide)) e415 f399 (pc := 449) (Ls := #[.val (.int p1), .val (.long p2), .second, .val (.int p3), .val (.int p4), .val (.int p5), .val (.int n314), .val (.int n315), .val (.int sp1), .val (.int sp2), .val (.int l316), .val (.int l317), .val (.int s318), .val (.long j319), .second, .val (.ref b320), .val (.ref b321), .val (.ref b324), .val (.int (1 : Int32))]) [] [] (by rw [hml]; rfl) rfl rfl (lenOf pd__Z rfl) (Nat.le_of_eq rfl) (hb hby at_449) (by decide) (by decide) (by decide) (by decide)
        obtain ⟨rfl, Nd417, e417⟩ := hQ416
        have N417 := Fr.app N413 Nd417
        refine own_go st416 ?_
        show own_End p e below s _ _ _ (T416.setTop (mkF m 452 #[.val (.int p1), .val (.long p2), .second, .val (.int p3), .val (.int p4), .val (.int p5), .val (.int n314), .val (.int n315), .val (.int sp1), .val (.int sp2), .val (.int l316), .val (.int l317), .val (.int s318), .val (.long j319), .second, .val (.ref b320), .val (.ref b321), .val (.ref b324), .val (.int (1 : Int32))] [(.int (if 262144 ≤ (l316 + l317).toInt then 1 else 0))]))
        refine own_go (fun t k => XS.iload X416.here hx rfl (hb hby at_452) rfl k) ?_
        show own_End p e below s _ _ _ (T416.setTop (mkF m 454 #[.val (.int p1), .val (.long p2), .second, .val (.int p3), .val (.int p4), .val (.int p5), .val (.int n314), .val (.int n315), .val (.int sp1), .val (.int sp2), .val (.int l316), .val (.int l317), .val (.int s318), .val (.long j319), .second, .val (.ref b320), .val (.ref b321), .val (.ref b324), .val (.int (1 : Int32))] [(.int l316), (.int (if 262144 ≤ (l316 + l317).toInt then 1 else 0))]))
        refine own_go (fun t k => XS.iload X416.here hx rfl (hb hby at_454) rfl k) ?_
        show own_End p e below s _ _ _ (T416.setTop (mkF m 456 #[.val (.int p1), .val (.long p2), .second, .val (.int p3), .val (.int p4), .val (.int p5), .val (.int n314), .val (.int n315), .val (.int sp1), .val (.int sp2), .val (.int l316), .val (.int l317), .val (.int s318), .val (.long j319), .second, .val (.ref b320), .val (.ref b321), .val (.ref b324), .val (.int (1 : Int32))] [(.int l317), (.int l316), (.int (if 262144 ≤ (l316 + l317).toInt then 1 else 0))]))
        refine own_go (fun t k => XS.iadd X416.here hx rfl (hb hby at_456) rfl k) ?_
        show own_End p e below s _ _ _ (T416.setTop (mkF m 457 #[.val (.int p1), .val (.long p2), .second, .val (.int p3), .val (.int p4), .val (.int p5), .val (.int n314), .val (.int n315), .val (.int sp1), .val (.int sp2), .val (.int l316), .val (.int l317), .val (.int s318), .val (.long j319), .second, .val (.ref b320), .val (.ref b321), .val (.ref b324), .val (.int (1 : Int32))] [(.int (l316 + l317)), (.int (if 262144 ≤ (l316 + l317).toInt then 1 else 0))]))
        refine own_go (X416.ldcInt (own := "com/example/frage/frage/table/RecordsAddPinLaw") (index := 52) (v := 262144) hx hown (mvT hZ (hw _ (List.mem_of_getElem? (i := 59) rfl))) (g := (mkF m 457 #[.val (.int p1), .val (.long p2), .second, .val (.int p3), .val (.int p4), .val (.int p5), .val (.int n314), .val (.int n315), .val (.int sp1), .val (.int sp2), .val (.int l316), .val (.int l317), .val (.int s318), .val (.long j319), .second, .val (.ref b320), .val (.ref b321), .val (.ref b324), .val (.int (1 : Int32))] [(.int (l316 + l317)), (.int (if 262144 ≤ (l316 + l317).toInt then 1 else 0))])) rfl (hb hby at_457)) ?_
        show own_End p e below s _ _ _ (T416.setTop (mkF m 459 #[.val (.int p1), .val (.long p2), .second, .val (.int p3), .val (.int p4), .val (.int p5), .val (.int n314), .val (.int n315), .val (.int sp1), .val (.int sp2), .val (.int l316), .val (.int l317), .val (.int s318), .val (.long j319), .second, .val (.ref b320), .val (.ref b321), .val (.ref b324), .val (.int (1 : Int32))] [(.int (262144 : Int32)), (.int (l316 + l317)), (.int (if 262144 ≤ (l316 + l317).toInt then 1 else 0))]))
        refine own_join (fun G => True → G (T416.setTop (mkF m 475 #[.val (.int p1), .val (.long p2), .second, .val (.int p3), .val (.int p4), .val (.int p5), .val (.int n314), .val (.int n315), .val (.int sp1), .val (.int sp2), .val (.int l316), .val (.int l317), .val (.int s318), .val (.long j319), .second, .val (.ref b320), .val (.ref b321), .val (.ref b324), .val (.int (1 : Int32))] [(.int (1 : Int32))]))) ?_ ?_
        ·
          intro j_475
          show own_End p e below s _ _ _ (T416.setTop (mkF m 475 #[.val (.int p1), .val (.long p2), .second, .val (.int p3), .val (.int p4), .val (.int p5), .val (.int n314), .val (.int n315), .val (.int sp1), .val (.int sp2), .val (.int l316), .val (.int l317), .val (.int s318), .val (.long j319), .second, .val (.ref b320), .val (.ref b321), .val (.ref b324), .val (.int (1 : Int32))] [(.int (1 : Int32))]))
          refine own_go (fun t k => XS.istore X416.here hx rfl (hb hby at_475) rfl (l' := #[.val (.int p1), .val (.long p2), .second, .val (.int p3), .val (.int p4), .val (.int p5), .val (.int n314), .val (.int n315), .val (.int sp1), .val (.int sp2), .val (.int l316), .val (.int l317), .val (.int s318), .val (.long j319), .second, .val (.ref b320), .val (.ref b321), .val (.ref b324), .val (.int (1 : Int32))]) rfl k) ?_
          show own_End p e below s _ _ _ (T416.setTop (mkF m 477 #[.val (.int p1), .val (.long p2), .second, .val (.int p3), .val (.int p4), .val (.int p5), .val (.int n314), .val (.int n315), .val (.int sp1), .val (.int sp2), .val (.int l316), .val (.int l317), .val (.int s318), .val (.long j319), .second, .val (.ref b320), .val (.ref b321), .val (.ref b324), .val (.int (1 : Int32))] []))
          refine own_go (fun t k => XS.iload X416.here hx rfl (hb hby at_477) rfl k) ?_
          show own_End p e below s _ _ _ (T416.setTop (mkF m 479 #[.val (.int p1), .val (.long p2), .second, .val (.int p3), .val (.int p4), .val (.int p5), .val (.int n314), .val (.int n315), .val (.int sp1), .val (.int sp2), .val (.int l316), .val (.int l317), .val (.int s318), .val (.long j319), .second, .val (.ref b320), .val (.ref b321), .val (.ref b324), .val (.int (1 : Int32))] [(.int (1 : Int32))]))
          exact own_retN X416 hx (t := .boolean) hret hlk (by simp) (hb hby at_479) ⟨rfl, N417⟩ (by decide) (by decide)
        intro J_475
        show own_End p e below s _ _ _ (T416.setTop (mkF m 459 #[.val (.int p1), .val (.long p2), .second, .val (.int p3), .val (.int p4), .val (.int p5), .val (.int n314), .val (.int n315), .val (.int sp1), .val (.int sp2), .val (.int l316), .val (.int l317), .val (.int s318), .val (.long j319), .second, .val (.ref b320), .val (.ref b321), .val (.ref b324), .val (.int (1 : Int32))] [(.int (262144 : Int32)), (.int (l316 + l317)), (.int (if 262144 ≤ (l316 + l317).toInt then 1 else 0))]))
        by_cases qx459 : (l316 + l317).toInt < 262144
        ·
          refine own_go (fun t k => XS.icmpYes X416.here hx rfl (pc0 := 459) (pc' := 466) rfl (hb hby at_459) rfl (own_ltY (k := 262144) (by decide) qx459) (by decide) (by decide) k) ?_
          show own_End p e below s _ _ _ (T416.setTop (mkF m 466 #[.val (.int p1), .val (.long p2), .second, .val (.int p3), .val (.int p4), .val (.int p5), .val (.int n314), .val (.int n315), .val (.int sp1), .val (.int sp2), .val (.int l316), .val (.int l317), .val (.int s318), .val (.long j319), .second, .val (.ref b320), .val (.ref b321), .val (.ref b324), .val (.int (1 : Int32))] [(.int (if 262144 ≤ (l316 + l317).toInt then 1 else 0))]))
          refine own_go (fun t k => XS.iconst X416.here hx rfl (hb hby at_466) k) ?_
          show own_End p e below s _ _ _ (T416.setTop (mkF m 467 #[.val (.int p1), .val (.long p2), .second, .val (.int p3), .val (.int p4), .val (.int p5), .val (.int n314), .val (.int n315), .val (.int sp1), .val (.int sp2), .val (.int l316), .val (.int l317), .val (.int s318), .val (.long j319), .second, .val (.ref b320), .val (.ref b321), .val (.ref b324), .val (.int (1 : Int32))] [(.int (0 : Int32)), (.int (if 262144 ≤ (l316 + l317).toInt then 1 else 0))]))
          refine own_go (fun t k => XS.icmpNo X416.here hx rfl (hb hby at_467) rfl (by rw [if_neg (by omega)]; rfl) k) ?_
          show own_End p e below s _ _ _ (T416.setTop (mkF m 470 #[.val (.int p1), .val (.long p2), .second, .val (.int p3), .val (.int p4), .val (.int p5), .val (.int n314), .val (.int n315), .val (.int sp1), .val (.int sp2), .val (.int l316), .val (.int l317), .val (.int s318), .val (.long j319), .second, .val (.ref b320), .val (.ref b321), .val (.ref b324), .val (.int (1 : Int32))] []))
          refine own_go (fun t k => XS.iconst X416.here hx rfl (hb hby at_470) k) ?_
          show own_End p e below s _ _ _ (T416.setTop (mkF m 471 #[.val (.int p1), .val (.long p2), .second, .val (.int p3), .val (.int p4), .val (.int p5), .val (.int n314), .val (.int n315), .val (.int sp1), .val (.int sp2), .val (.int l316), .val (.int l317), .val (.int s318), .val (.long j319), .second, .val (.ref b320), .val (.ref b321), .val (.ref b324), .val (.int (1 : Int32))] [(.int (1 : Int32))]))
          refine own_go (fun t k => XS.goto X416.here hx rfl (pc0 := 471) (pc' := 475) rfl (hb hby at_471) (by decide) (by decide) k) ?_
          show own_End p e below s _ _ _ (T416.setTop (mkF m 475 #[.val (.int p1), .val (.long p2), .second, .val (.int p3), .val (.int p4), .val (.int p5), .val (.int n314), .val (.int n315), .val (.int sp1), .val (.int sp2), .val (.int l316), .val (.int l317), .val (.int s318), .val (.long j319), .second, .val (.ref b320), .val (.ref b321), .val (.ref b324), .val (.int (1 : Int32))] [(.int (1 : Int32))]))
          exact J_475 trivial
        refine own_go (fun t k => XS.icmpNo X416.here hx rfl (hb hby at_459) rfl (own_ltN (k := 262144) (by decide) qx459) k) ?_
        show own_End p e below s _ _ _ (T416.setTop (mkF m 462 #[.val (.int p1), .val (.long p2), .second, .val (.int p3), .val (.int p4), .val (.int p5), .val (.int n314), .val (.int n315), .val (.int sp1), .val (.int sp2), .val (.int l316), .val (.int l317), .val (.int s318), .val (.long j319), .second, .val (.ref b320), .val (.ref b321), .val (.ref b324), .val (.int (1 : Int32))] [(.int (if 262144 ≤ (l316 + l317).toInt then 1 else 0))]))
        refine own_go (fun t k => XS.iconst X416.here hx rfl (hb hby at_462) k) ?_
        show own_End p e below s _ _ _ (T416.setTop (mkF m 463 #[.val (.int p1), .val (.long p2), .second, .val (.int p3), .val (.int p4), .val (.int p5), .val (.int n314), .val (.int n315), .val (.int sp1), .val (.int sp2), .val (.int l316), .val (.int l317), .val (.int s318), .val (.long j319), .second, .val (.ref b320), .val (.ref b321), .val (.ref b324), .val (.int (1 : Int32))] [(.int (1 : Int32)), (.int (if 262144 ≤ (l316 + l317).toInt then 1 else 0))]))
        refine own_go (fun t k => XS.goto X416.here hx rfl (pc0 := 463) (pc' := 467) rfl (hb hby at_463) (by decide) (by decide) k) ?_
        show own_End p e below s _ _ _ (T416.setTop (mkF m 467 #[.val (.int p1), .val (.long p2), .second, .val (.int p3), .val (.int p4), .val (.int p5), .val (.int n314), .val (.int n315), .val (.int sp1), .val (.int sp2), .val (.int l316), .val (.int l317), .val (.int s318), .val (.long j319), .second, .val (.ref b320), .val (.ref b321), .val (.ref b324), .val (.int (1 : Int32))] [(.int (1 : Int32)), (.int (if 262144 ≤ (l316 + l317).toInt then 1 else 0))]))
        refine own_go (fun t k => XS.icmpNo X416.here hx rfl (hb hby at_467) rfl (by rw [if_pos (by omega)]; rfl) k) ?_
        show own_End p e below s _ _ _ (T416.setTop (mkF m 470 #[.val (.int p1), .val (.long p2), .second, .val (.int p3), .val (.int p4), .val (.int p5), .val (.int n314), .val (.int n315), .val (.int sp1), .val (.int sp2), .val (.int l316), .val (.int l317), .val (.int s318), .val (.long j319), .second, .val (.ref b320), .val (.ref b321), .val (.ref b324), .val (.int (1 : Int32))] []))
        refine own_go (fun t k => XS.iconst X416.here hx rfl (hb hby at_470) k) ?_
        show own_End p e below s _ _ _ (T416.setTop (mkF m 471 #[.val (.int p1), .val (.long p2), .second, .val (.int p3), .val (.int p4), .val (.int p5), .val (.int n314), .val (.int n315), .val (.int sp1), .val (.int sp2), .val (.int l316), .val (.int l317), .val (.int s318), .val (.long j319), .second, .val (.ref b320), .val (.ref b321), .val (.ref b324), .val (.int (1 : Int32))] [(.int (1 : Int32))]))
        refine own_go (fun t k => XS.goto X416.here hx rfl (pc0 := 471) (pc' := 475) rfl (hb hby at_471) (by decide) (by decide) k) ?_
        show own_End p e below s _ _ _ (T416.setTop (mkF m 475 #[.val (.int p1), .val (.long p2), .second, .val (.int p3), .val (.int p4), .val (.int p5), .val (.int n314), .val (.int n315), .val (.int sp1), .val (.int sp2), .val (.int l316), .val (.int l317), .val (.int s318), .val (.long j319), .second, .val (.ref b320), .val (.ref b321), .val (.ref b324), .val (.int (1 : Int32))] [(.int (1 : Int32))]))
        exact J_475 trivial
      intro J_246
      show own_End p e below s _ _ _ (T393.setTop (mkF m 230 #[.val (.int p1), .val (.long p2), .second, .val (.int p3), .val (.int p4), .val (.int p5), .val (.int n314), .val (.int n315), .val (.int sp1), .val (.int sp2), .val (.int l316), .val (.int l317), .val (.int s318), .val (.long j319), .second, .val (.ref b320), .val (.ref b321), .val (.ref b324), .unset] [(.int (262144 : Int32)), (.int l316), (.int (if 262144 ≤ l316.toInt then 1 else 0))]))
      by_cases qx230 : l316.toInt < 262144
      ·
        refine own_go (fun t k => XS.icmpYes X393.here hx rfl (pc0 := 230) (pc' := 237) rfl (hb hby at_230) rfl (own_ltY (k := 262144) (by decide) qx230) (by decide) (by decide) k) ?_
        show own_End p e below s _ _ _ (T393.setTop (mkF m 237 #[.val (.int p1), .val (.long p2), .second, .val (.int p3), .val (.int p4), .val (.int p5), .val (.int n314), .val (.int n315), .val (.int sp1), .val (.int sp2), .val (.int l316), .val (.int l317), .val (.int s318), .val (.long j319), .second, .val (.ref b320), .val (.ref b321), .val (.ref b324), .unset] [(.int (if 262144 ≤ l316.toInt then 1 else 0))]))
        refine own_go (fun t k => XS.iconst X393.here hx rfl (hb hby at_237) k) ?_
        show own_End p e below s _ _ _ (T393.setTop (mkF m 238 #[.val (.int p1), .val (.long p2), .second, .val (.int p3), .val (.int p4), .val (.int p5), .val (.int n314), .val (.int n315), .val (.int sp1), .val (.int sp2), .val (.int l316), .val (.int l317), .val (.int s318), .val (.long j319), .second, .val (.ref b320), .val (.ref b321), .val (.ref b324), .unset] [(.int (0 : Int32)), (.int (if 262144 ≤ l316.toInt then 1 else 0))]))
        refine own_go (fun t k => XS.icmpNo X393.here hx rfl (hb hby at_238) rfl (by rw [if_neg (by omega)]; rfl) k) ?_
        show own_End p e below s _ _ _ (T393.setTop (mkF m 241 #[.val (.int p1), .val (.long p2), .second, .val (.int p3), .val (.int p4), .val (.int p5), .val (.int n314), .val (.int n315), .val (.int sp1), .val (.int sp2), .val (.int l316), .val (.int l317), .val (.int s318), .val (.long j319), .second, .val (.ref b320), .val (.ref b321), .val (.ref b324), .unset] []))
        refine own_go (fun t k => XS.iconst X393.here hx rfl (hb hby at_241) k) ?_
        show own_End p e below s _ _ _ (T393.setTop (mkF m 242 #[.val (.int p1), .val (.long p2), .second, .val (.int p3), .val (.int p4), .val (.int p5), .val (.int n314), .val (.int n315), .val (.int sp1), .val (.int sp2), .val (.int l316), .val (.int l317), .val (.int s318), .val (.long j319), .second, .val (.ref b320), .val (.ref b321), .val (.ref b324), .unset] [(.int (1 : Int32))]))
        refine own_go (fun t k => XS.goto X393.here hx rfl (pc0 := 242) (pc' := 246) rfl (hb hby at_242) (by decide) (by decide) k) ?_
        show own_End p e below s _ _ _ (T393.setTop (mkF m 246 #[.val (.int p1), .val (.long p2), .second, .val (.int p3), .val (.int p4), .val (.int p5), .val (.int n314), .val (.int n315), .val (.int sp1), .val (.int sp2), .val (.int l316), .val (.int l317), .val (.int s318), .val (.long j319), .second, .val (.ref b320), .val (.ref b321), .val (.ref b324), .unset] [(.int (1 : Int32))]))
        exact J_246 trivial
      refine own_go (fun t k => XS.icmpNo X393.here hx rfl (hb hby at_230) rfl (own_ltN (k := 262144) (by decide) qx230) k) ?_
      show own_End p e below s _ _ _ (T393.setTop (mkF m 233 #[.val (.int p1), .val (.long p2), .second, .val (.int p3), .val (.int p4), .val (.int p5), .val (.int n314), .val (.int n315), .val (.int sp1), .val (.int sp2), .val (.int l316), .val (.int l317), .val (.int s318), .val (.long j319), .second, .val (.ref b320), .val (.ref b321), .val (.ref b324), .unset] [(.int (if 262144 ≤ l316.toInt then 1 else 0))]))
      refine own_go (fun t k => XS.iconst X393.here hx rfl (hb hby at_233) k) ?_
      show own_End p e below s _ _ _ (T393.setTop (mkF m 234 #[.val (.int p1), .val (.long p2), .second, .val (.int p3), .val (.int p4), .val (.int p5), .val (.int n314), .val (.int n315), .val (.int sp1), .val (.int sp2), .val (.int l316), .val (.int l317), .val (.int s318), .val (.long j319), .second, .val (.ref b320), .val (.ref b321), .val (.ref b324), .unset] [(.int (1 : Int32)), (.int (if 262144 ≤ l316.toInt then 1 else 0))]))
      refine own_go (fun t k => XS.goto X393.here hx rfl (pc0 := 234) (pc' := 238) rfl (hb hby at_234) (by decide) (by decide) k) ?_
      show own_End p e below s _ _ _ (T393.setTop (mkF m 238 #[.val (.int p1), .val (.long p2), .second, .val (.int p3), .val (.int p4), .val (.int p5), .val (.int n314), .val (.int n315), .val (.int sp1), .val (.int sp2), .val (.int l316), .val (.int l317), .val (.int s318), .val (.long j319), .second, .val (.ref b320), .val (.ref b321), .val (.ref b324), .unset] [(.int (1 : Int32)), (.int (if 262144 ≤ l316.toInt then 1 else 0))]))
      refine own_go (fun t k => XS.icmpNo X393.here hx rfl (hb hby at_238) rfl (by rw [if_pos (by omega)]; rfl) k) ?_
      show own_End p e below s _ _ _ (T393.setTop (mkF m 241 #[.val (.int p1), .val (.long p2), .second, .val (.int p3), .val (.int p4), .val (.int p5), .val (.int n314), .val (.int n315), .val (.int sp1), .val (.int sp2), .val (.int l316), .val (.int l317), .val (.int s318), .val (.long j319), .second, .val (.ref b320), .val (.ref b321), .val (.ref b324), .unset] []))
      refine own_go (fun t k => XS.iconst X393.here hx rfl (hb hby at_241) k) ?_
      show own_End p e below s _ _ _ (T393.setTop (mkF m 242 #[.val (.int p1), .val (.long p2), .second, .val (.int p3), .val (.int p4), .val (.int p5), .val (.int n314), .val (.int n315), .val (.int sp1), .val (.int sp2), .val (.int l316), .val (.int l317), .val (.int s318), .val (.long j319), .second, .val (.ref b320), .val (.ref b321), .val (.ref b324), .unset] [(.int (1 : Int32))]))
      refine own_go (fun t k => XS.goto X393.here hx rfl (pc0 := 242) (pc' := 246) rfl (hb hby at_242) (by decide) (by decide) k) ?_
      show own_End p e below s _ _ _ (T393.setTop (mkF m 246 #[.val (.int p1), .val (.long p2), .second, .val (.int p3), .val (.int p4), .val (.int p5), .val (.int n314), .val (.int n315), .val (.int sp1), .val (.int sp2), .val (.int l316), .val (.int l317), .val (.int s318), .val (.long j319), .second, .val (.ref b320), .val (.ref b321), .val (.ref b324), .unset] [(.int (1 : Int32))]))
      exact J_246 trivial
    intro J_sp2
    show own_End p e below s _ _ _ (s0.setTop (mkF m 38 #[.val (.int p1), .val (.long p2), .second, .val (.int p3), .val (.int p4), .val (.int p5), .val (.int n314), .val (.int n315), .val (.int sp1), .unset, .unset, .unset, .unset, .unset, .unset, .unset, .unset, .unset, .unset] [(.int (p5 &&& (32 : Int32)))]))
    by_cases qssp2 : (p5 &&& (32 : Int32)).toInt = 0
    ·
      refine own_go (fun t k => XS.ifYes X0.here hx rfl (pc0 := 38) (pc' := 45) rfl (hb hby at_38) rfl (own_0 (own_eqY (k := 0) rfl qssp2)) (by decide) (by decide) k) ?_
      show own_End p e below s _ _ _ (s0.setTop (mkF m 45 #[.val (.int p1), .val (.long p2), .second, .val (.int p3), .val (.int p4), .val (.int p5), .val (.int n314), .val (.int n315), .val (.int sp1), .unset, .unset, .unset, .unset, .unset, .unset, .unset, .unset, .unset, .unset] []))
      refine own_go (fun t k => XS.iconst X0.here hx rfl (hb hby at_45) k) ?_
      show own_End p e below s _ _ _ (s0.setTop (mkF m 46 #[.val (.int p1), .val (.long p2), .second, .val (.int p3), .val (.int p4), .val (.int p5), .val (.int n314), .val (.int n315), .val (.int sp1), .unset, .unset, .unset, .unset, .unset, .unset, .unset, .unset, .unset, .unset] [(.int (0 : Int32))]))
      exact J_sp2 _ rfl
    refine own_go (fun t k => XS.ifNo X0.here hx rfl (hb hby at_38) rfl (own_0 (own_eqN (k := 0) rfl qssp2)) k) ?_
    show own_End p e below s _ _ _ (s0.setTop (mkF m 41 #[.val (.int p1), .val (.long p2), .second, .val (.int p3), .val (.int p4), .val (.int p5), .val (.int n314), .val (.int n315), .val (.int sp1), .unset, .unset, .unset, .unset, .unset, .unset, .unset, .unset, .unset, .unset] []))
    refine own_go (fun t k => XS.iconst X0.here hx rfl (hb hby at_41) k) ?_
    show own_End p e below s _ _ _ (s0.setTop (mkF m 42 #[.val (.int p1), .val (.long p2), .second, .val (.int p3), .val (.int p4), .val (.int p5), .val (.int n314), .val (.int n315), .val (.int sp1), .unset, .unset, .unset, .unset, .unset, .unset, .unset, .unset, .unset, .unset] [(.int (1 : Int32))]))
    refine own_go (fun t k => XS.goto X0.here hx rfl (pc0 := 42) (pc' := 46) rfl (hb hby at_42) (by decide) (by decide) k) ?_
    show own_End p e below s _ _ _ (s0.setTop (mkF m 46 #[.val (.int p1), .val (.long p2), .second, .val (.int p3), .val (.int p4), .val (.int p5), .val (.int n314), .val (.int n315), .val (.int sp1), .unset, .unset, .unset, .unset, .unset, .unset, .unset, .unset, .unset, .unset] [(.int (1 : Int32))]))
    exact J_sp2 _ rfl
  intro J_sp1
  show own_End p e below s _ _ _ (s0.setTop (mkF m 23 #[.val (.int p1), .val (.long p2), .second, .val (.int p3), .val (.int p4), .val (.int p5), .val (.int n314), .val (.int n315), .unset, .unset, .unset, .unset, .unset, .unset, .unset, .unset, .unset, .unset, .unset] [(.int (p5 &&& (16 : Int32)))]))
  by_cases qssp1 : (p5 &&& (16 : Int32)).toInt = 0
  ·
    refine own_go (fun t k => XS.ifYes X0.here hx rfl (pc0 := 23) (pc' := 30) rfl (hb hby at_23) rfl (own_0 (own_eqY (k := 0) rfl qssp1)) (by decide) (by decide) k) ?_
    show own_End p e below s _ _ _ (s0.setTop (mkF m 30 #[.val (.int p1), .val (.long p2), .second, .val (.int p3), .val (.int p4), .val (.int p5), .val (.int n314), .val (.int n315), .unset, .unset, .unset, .unset, .unset, .unset, .unset, .unset, .unset, .unset, .unset] []))
    refine own_go (fun t k => XS.iconst X0.here hx rfl (hb hby at_30) k) ?_
    show own_End p e below s _ _ _ (s0.setTop (mkF m 31 #[.val (.int p1), .val (.long p2), .second, .val (.int p3), .val (.int p4), .val (.int p5), .val (.int n314), .val (.int n315), .unset, .unset, .unset, .unset, .unset, .unset, .unset, .unset, .unset, .unset, .unset] [(.int (0 : Int32))]))
    exact J_sp1 _ rfl
  refine own_go (fun t k => XS.ifNo X0.here hx rfl (hb hby at_23) rfl (own_0 (own_eqN (k := 0) rfl qssp1)) k) ?_
  show own_End p e below s _ _ _ (s0.setTop (mkF m 26 #[.val (.int p1), .val (.long p2), .second, .val (.int p3), .val (.int p4), .val (.int p5), .val (.int n314), .val (.int n315), .unset, .unset, .unset, .unset, .unset, .unset, .unset, .unset, .unset, .unset, .unset] []))
  refine own_go (fun t k => XS.iconst X0.here hx rfl (hb hby at_26) k) ?_
  show own_End p e below s _ _ _ (s0.setTop (mkF m 27 #[.val (.int p1), .val (.long p2), .second, .val (.int p3), .val (.int p4), .val (.int p5), .val (.int n314), .val (.int n315), .unset, .unset, .unset, .unset, .unset, .unset, .unset, .unset, .unset, .unset, .unset] [(.int (1 : Int32))]))
  refine own_go (fun t k => XS.goto X0.here hx rfl (pc0 := 27) (pc' := 31) rfl (hb hby at_27) (by decide) (by decide) k) ?_
  show own_End p e below s _ _ _ (s0.setTop (mkF m 31 #[.val (.int p1), .val (.long p2), .second, .val (.int p3), .val (.int p4), .val (.int p5), .val (.int n314), .val (.int n315), .unset, .unset, .unset, .unset, .unset, .unset, .unset, .unset, .unset, .unset, .unset] [(.int (1 : Int32))]))
  exact J_sp1 _ rfl
set_option maxRecDepth 65536 in
set_option maxHeartbeats 40000000 in
theorem comes_1 {Post : Tables → Env → Array Value → State → Outcome → State → Prop} (hpost : ∀ tb e args s v u, (limb_1_1.after args s (.returned v) u = true ∧ limb_1_2.after args s (.returned v) u = true ∧ True) → FrameEnd s (.returned v) u (Jvm.fieldLocs frame_1_writes args s ++ Jvm.arrayLocs frame_1_arrays args s ++ Jvm.staticLocs frame_1_statics s) 32 172160 → Post tb e args s (.returned v) u) :
    ArmFor flags0 classFile x code maxLocals ret World_1 tables_1 room_1 Calls_1 rest_1 Pre_1 Post := by
  intro l hfl _ _ p e ha hc hk s m args below hf hA hF happ hP
  obtain ⟨hcalls, hrest, hpre⟩ := hP
  obtain ⟨-, -, -, hnamed, -, -, -, hat⟩ := (Spec.applies_iff hf).mp happ
  obtain ⟨hg, hn⟩ := and_e (Cond.before_iff.mp (show (Jvm.Cond.and given_1 narrow_1).before args s = true from hpre))
  obtain ⟨g0, r0⟩ := and_e hg
  obtain ⟨g1, r1⟩ := and_e r0
  obtain ⟨g2, r2⟩ := and_e r1
  obtain ⟨g3, r3⟩ := and_e r2
  obtain ⟨g4, r4⟩ := and_e r3
  obtain ⟨w0, w1, w2, w3, w4, rfl⟩ : ∃ w0 w1 w2 w3 w4 : Value, args = #[w0, w1, w2, w3, w4] := by
    have hs : args.size = 5 := by simpa [Cond.value, given_1] using g0
    obtain ⟨L⟩ := args
    match L, hs with
    | [w0, w1, w2, w3, w4], _ => exact ⟨w0, w1, w2, w3, w4, rfl⟩
  have hw := fun d (hd : d ∈ tables_1) => atoms_spec (ws := Jvm.Cond.code x code maxLocals ret :: tables_1) hat d (List.mem_cons_of_mem _ hd)
  have hfit : Fit s := fun {y c} hc i hi => by
    obtain ⟨ha, rfl⟩ := Array.getElem?_eq_some_iff.mp hc
    have q := List.all_eq_true.mp ((Array.all_eq_true_iff_forall_mem.mp hF) _ (Array.getElem_mem ha)) i (List.mem_range.mpr hi)
    simpa [Array.getElem?_eq_getElem hi] using q
  obtain ⟨i0, ei0⟩ := is_v g1
  obtain rfl : w0 = (.int i0) := Option.some.inj ei0
  obtain ⟨i1, ei1⟩ := isL_v g2
  obtain rfl : w1 = (.long i1) := Option.some.inj ei1
  obtain ⟨i2, ei2⟩ := is_v g3
  obtain rfl : w2 = (.int i2) := Option.some.inj ei2
  obtain ⟨i3, ei3⟩ := is_v g4
  obtain rfl : w3 = (.int i3) := Option.some.inj ei3
  obtain ⟨i4, ei4⟩ := is_v r4
  obtain rfl : w4 = (.int i4) := Option.some.inj ei4
  obtain ⟨n, o, h1, h2, h3, _, L, rfl, ⟨rfl, N⟩, hq⟩ := rm0 l s _ hw tables_1 i0 i1 i2 i3 i4 s.heap s.heap.size (Nat.le_refl _)  p e ha hc hk s m _ below hf ((Spec.applies_iff_loose hf).mp happ).1 ⟨rfl, State.Warmed39.refl s, rfl⟩ trivial
  refine ⟨n, _, h1, h2, h3, hpost _ _ _ _ _ _ ⟨Cond.after_iff.mpr rfl, Cond.after_iff.mpr (eq_i res_at (Term.int_eval (1)) rfl), trivial⟩ ⟨hq.1, hq.2.1, (hq.2.2.sift fun y hy => Or.inr (N y hy)).mono (by decide) (by decide)⟩⟩
theorem main_1_1 : Claimed_1_1 := comes_1 fun _ _ _ _ _ _ h hF => ⟨h.1, hF⟩
theorem main_1_2 : Claimed_1_2 := comes_1 fun _ _ _ _ _ _ h hF => ⟨h.2.1, hF⟩
end Jvm.Pilot.@@N@@
namespace Jvm.Pilot.@@N@@
open Jvm Jvm.ClassFile Sem Op Lib Jvm.Free Jvm.Stand Jvm.Pilot.@@N@@.Jvm.D
/-! MADE BY PROGRAM (witnessworld.py) out of the Statement's table words and the real class files: 13 classes; the members and pool entries that the words name. The judged class is class 1, her method 1. -/
namespace start1
open Jvm.ClassFile
def u (s : String) : CpInfo := .utf8 (stringToUtf16 s)
/-- a pool by its gaps: so many unusable entries, then the entry; so many at the end -/
def gap : Nat → List CpInfo → List CpInfo
  | 0, r => r
  | n + 1, r => .unusable :: gap n r
def poolList (es : List (Nat × CpInfo)) (last : Nat) : List CpInfo := es.foldr (fun e r => gap e.1 (e.2 :: r)) (gap last [])
def pool (es : List (Nat × CpInfo)) (last : Nat) : Array CpInfo := ⟨poolList es last⟩
def fileOf (pool : Array CpInfo) (this : Nat) (attrs : Array Attribute := #[]) (ms : Array MethodInfo := #[]) (fl : Nat := 33) (sup : Nat := 0) (ifs : Array Nat := #[]) (fds : Array FieldInfo := #[]) : ClassFile where
  minorVersion := 0
  majorVersion := 65
  constantPool := pool
  accessFlags := fl
  thisClass := this
  superClass := sup
  interfaces := ifs
  fields := fds
  methods := ms
  attributes := attrs
def plain (name : String) (sup : Option ClassId) : Class where
  name := name
  kind := .ordinary
  loader := none
  accessFlags := 33
  super := sup
  interfaces := #[]
  cf := none
  fields := #[]
  methods := #[]
  instanceTypes := #[]
  staticTypes := #[]
  resolved := #[]
  callSites := []
  init := .initialized
  statics := none
  mirror := none

def pool0 : Array CpInfo := pool [(5, u "<init>"), (0, u "()V"), (1, .class_ 10), (1, u "java/lang/Object")] 113

def k0c0 : Code := { maxStack := 0, maxLocals := 1, code := object_method_1_code, exceptionTable := #[], attributes := #[] }
def k0m0 : Method := { name := "<init>", desc := "()V", sig := { parameters := [], returnType := none }, accessFlags := 1, code := some k0c0 }
/-- java/lang/Object -/
def k0 : Class := { plain "java/lang/Object" none with
  accessFlags := 33
  interfaces := #[]
  cf := some (fileOf pool0 8 #[] #[{ accessFlags := 1, nameIndex := 5, descriptorIndex := 6, attributes := #[] }] 33 0 #[] #[])
  fields := #[]
  methods := #[k0m0]
  instanceTypes := #[]
  staticTypes := #[]
  resolved := Array.replicate 124 none
  statics := none }

def pool1 : Array CpInfo := pool [(2, .class_ 4), (0, .nameAndType 5 6), (0, u "java/lang/Object"), (0, u "<init>"), (0, u "()V"), (0, .integer 524287), (0, .integer 262143), (0, .long 18446744073709551615), (1, .class_ 12), (0, u "com/example/frage/frage/table/Records"), (0, .methodref 11 3), (0, .fieldref 11 15), (0, .nameAndType 16 17), (0, u "ends"), (0, u "[I"), (0, .methodref 11 19), (0, .nameAndType 20 21), (0, u "add"), (0, u "([BIIJZ)V"), (0, .fieldref 11 23), (0, .nameAndType 24 25), (0, u "count"), (0, u "I"), (0, .fieldref 11 27), (0, .nameAndType 28 29), (0, u "texts"), (0, u "[[B"), (0, .fieldref 11 31), (0, .nameAndType 32 17), (0, u "starts"), (0, .fieldref 11 34), (0, .nameAndType 35 36), (0, u "lines"), (0, u "[J"), (0, .fieldref 11 38), (0, .nameAndType 39 40), (0, u "endsWithSeparator"), (0, u "[Z"), (0, .fieldref 11 42), (0, .nameAndType 43 17), (0, u "firstEnds"), (0, .methodref 11 45), (0, .nameAndType 46 47), (0, u "fields"), (0, u "(I)I"), (0, .methodref 11 49), (0, .nameAndType 50 51), (0, u "full"), (0, u "()Z"), (0, .integer 262144), (0, .class_ 54), (0, u "com/example/frage/frage/table/RecordsAddPinLaw"), (2, u "law"), (0, u "(IJIII)Z")] 5

def k1m0 : Method := { name := "<init>", desc := "()V", sig := { parameters := [], returnType := none }, accessFlags := 1, code := none }
def k1c1 : Code := { maxStack := 7, maxLocals := 19, code := code, exceptionTable := #[], attributes := #[] }
def k1m1 : Method := { name := "law", desc := "(IJIII)Z", sig := { parameters := [.int, .long, .int, .int, .int], returnType := some .boolean }, accessFlags := 9, code := some k1c1 }
/-- com/example/frage/frage/table/RecordsAddPinLaw -/
def k1 : Class := { plain "com/example/frage/frage/table/RecordsAddPinLaw" (some 0) with
  accessFlags := 49
  interfaces := #[]
  cf := some (fileOf pool1 53 #[] #[{ accessFlags := 1, nameIndex := 5, descriptorIndex := 6, attributes := #[] }, { accessFlags := 9, nameIndex := 57, descriptorIndex := 58, attributes := #[] }] 49 2 #[] #[])
  fields := #[]
  methods := #[k1m0, k1m1]
  instanceTypes := #[]
  staticTypes := #[]
  resolved := Array.replicate 64 none
  statics := none }

def pool2 : Array CpInfo := pool [(1, .methodref 2 3), (0, .class_ 4), (0, .nameAndType 5 6), (0, u "java/lang/Object"), (0, u "<init>"), (0, u "()V"), (0, .class_ 8), (0, u "com/example/frage/frage/table/Records"), (0, .class_ 10), (0, u "[B"), (0, .fieldref 7 12), (0, .nameAndType 13 14), (0, u "texts"), (0, u "[[B"), (0, .fieldref 7 16), (0, .nameAndType 17 18), (0, u "starts"), (0, u "[I"), (0, .integer 65536), (0, .fieldref 7 21), (0, .nameAndType 22 18), (0, u "ends"), (0, .fieldref 7 24), (0, .nameAndType 25 18), (0, u "firstEnds"), (0, .fieldref 7 27), (0, .nameAndType 28 29), (0, u "lines"), (0, u "[J"), (0, .fieldref 7 31), (0, .nameAndType 32 33), (0, u "endsWithSeparator"), (0, u "[Z"), (0, .fieldref 7 35), (0, .nameAndType 36 37), (0, u "count"), (0, u "I"), (0, .fieldref 7 39), (0, .nameAndType 40 37), (0, u "bytes"), (0, .integer 262144), (33, u "()Z"), (17, u "add"), (0, u "([BIIJZ)V"), (0, u "MOST"), (2, u "MOST_BYTES"), (2, u "full"), (1, u "fields"), (0, u "(I)I")] 4

def k2c0 : Code := { maxStack := 2, maxLocals := 1, code := prog_42_method_1_code, exceptionTable := #[], attributes := #[] }
def k2m0 : Method := { name := "<init>", desc := "()V", sig := { parameters := [], returnType := none }, accessFlags := 0, code := some k2c0 }
def k2c1 : Code := { maxStack := 2, maxLocals := 1, code := prog_42_method_2_code, exceptionTable := #[], attributes := #[] }
def k2m1 : Method := { name := "full", desc := "()Z", sig := { parameters := [], returnType := some .boolean }, accessFlags := 0, code := some k2c1 }
def k2c2 : Code := { maxStack := 3, maxLocals := 2, code := prog_42_method_3_code, exceptionTable := #[], attributes := #[] }
def k2m2 : Method := { name := "fields", desc := "(I)I", sig := { parameters := [.int], returnType := some .int }, accessFlags := 0, code := some k2c2 }
def k2c3 : Code := { maxStack := 5, maxLocals := 7, code := prog_42_method_5_code, exceptionTable := #[], attributes := #[] }
def k2m3 : Method := { name := "add", desc := "([BIIJZ)V", sig := { parameters := [(.array .byte), .int, .int, .long, .boolean], returnType := none }, accessFlags := 0, code := some k2c3 }
/-- com/example/frage/frage/table/Records -/
def k2 : Class := { plain "com/example/frage/frage/table/Records" (some 0) with
  accessFlags := 48
  interfaces := #[]
  cf := some (fileOf pool2 7 #[] #[{ accessFlags := 0, nameIndex := 5, descriptorIndex := 6, attributes := #[] }, { accessFlags := 0, nameIndex := 101, descriptorIndex := 75, attributes := #[] }, { accessFlags := 0, nameIndex := 103, descriptorIndex := 104, attributes := #[] }, { accessFlags := 0, nameIndex := 93, descriptorIndex := 94, attributes := #[] }] 48 2 #[] #[{ accessFlags := 24, nameIndex := 95, descriptorIndex := 37, attributes := #[] }, { accessFlags := 24, nameIndex := 98, descriptorIndex := 37, attributes := #[] }, { accessFlags := 16, nameIndex := 13, descriptorIndex := 14, attributes := #[] }, { accessFlags := 16, nameIndex := 17, descriptorIndex := 18, attributes := #[] }, { accessFlags := 0, nameIndex := 22, descriptorIndex := 18, attributes := #[] }, { accessFlags := 16, nameIndex := 25, descriptorIndex := 18, attributes := #[] }, { accessFlags := 16, nameIndex := 28, descriptorIndex := 29, attributes := #[] }, { accessFlags := 16, nameIndex := 32, descriptorIndex := 33, attributes := #[] }, { accessFlags := 0, nameIndex := 36, descriptorIndex := 37, attributes := #[] }, { accessFlags := 2, nameIndex := 40, descriptorIndex := 37, attributes := #[] }])
  fields := #[{ name := "MOST", type := .int, accessFlags := 24, slot := 0, constantValue := 0 }, { name := "MOST_BYTES", type := .int, accessFlags := 24, slot := 1, constantValue := 0 }, { name := "texts", type := (.array (.array .byte)), accessFlags := 16, slot := 0, constantValue := 0 }, { name := "starts", type := (.array .int), accessFlags := 16, slot := 1, constantValue := 0 }, { name := "ends", type := (.array .int), accessFlags := 0, slot := 2, constantValue := 0 }, { name := "firstEnds", type := (.array .int), accessFlags := 16, slot := 3, constantValue := 0 }, { name := "lines", type := (.array .long), accessFlags := 16, slot := 4, constantValue := 0 }, { name := "endsWithSeparator", type := (.array .boolean), accessFlags := 16, slot := 5, constantValue := 0 }, { name := "count", type := .int, accessFlags := 0, slot := 6, constantValue := 0 }, { name := "bytes", type := .int, accessFlags := 2, slot := 7, constantValue := 0 }]
  methods := #[k2m0, k2m1, k2m2, k2m3]
  instanceTypes := #[(.array (.array .byte)), (.array .int), (.array .int), (.array .int), (.array .long), (.array .boolean), .int, .int]
  staticTypes := #[.int, .int]
  resolved := Array.replicate 109 none
  statics := none }

def pool3 : Array CpInfo := pool [(1, u "java/lang/Cloneable"), (0, .class_ 1), (0, u "java/lang/Object"), (0, .class_ 3)] 3

/-- java/lang/Cloneable -/
def k3 : Class := { plain "java/lang/Cloneable" (some 0) with
  accessFlags := 1537
  interfaces := #[]
  cf := some (fileOf pool3 2 #[] #[] 1537 4 #[] #[])
  fields := #[]
  methods := #[]
  instanceTypes := #[]
  staticTypes := #[]
  resolved := Array.replicate 8 none
  statics := none }

def pool4 : Array CpInfo := pool [(1, u "java/io/Serializable"), (0, .class_ 1), (0, u "java/lang/Object"), (0, .class_ 3)] 3

/-- java/io/Serializable -/
def k4 : Class := { plain "java/io/Serializable" (some 0) with
  accessFlags := 1537
  interfaces := #[]
  cf := some (fileOf pool4 2 #[] #[] 1537 4 #[] #[])
  fields := #[]
  methods := #[]
  instanceTypes := #[]
  staticTypes := #[]
  resolved := Array.replicate 8 none
  statics := none }

/-- the primitive boolean -/
def k5 : Class := { plain "boolean" none with kind := .primitive 'Z', accessFlags := 0x411 }
/-- [Z -/
def k6 : Class := { plain "[Z" (some 0) with kind := .array 5 .boolean, interfaces := #[3, 4], accessFlags := 1041 }

/-- the primitive byte -/
def k7 : Class := { plain "byte" none with kind := .primitive 'B', accessFlags := 0x411 }
/-- [B -/
def k8 : Class := { plain "[B" (some 0) with kind := .array 7 .byte, interfaces := #[3, 4], accessFlags := 1041 }

/-- the primitive int -/
def k9 : Class := { plain "int" none with kind := .primitive 'I', accessFlags := 0x411 }
/-- [I -/
def k10 : Class := { plain "[I" (some 0) with kind := .array 9 .int, interfaces := #[3, 4], accessFlags := 1041 }

/-- the primitive long -/
def k11 : Class := { plain "long" none with kind := .primitive 'J', accessFlags := 0x411 }
/-- [J -/
def k12 : Class := { plain "[J" (some 0) with kind := .array 11 .long, interfaces := #[3, 4], accessFlags := 1041 }

def k13 : Class := { plain "[[B" (some 0) with kind := .array 8 (.array .byte), interfaces := #[3, 4], accessFlags := 1041 }
def heap : Heap := #[]
def classes : Array Class := #[k0, k1, k2, k3, k4, k5, k6, k7, k8, k9, k10, k11, k12, k13]
def interned : List (Array UInt16 × Addr) := []
def slotsUsed : Nat := 0
def theMethod : MethodId := ⟨1, 1⟩
def args0 : Array Value := #[.int 5, .long 3, .int 7, .int 4, .int 9]
def aboutOver (below : List Frame) : State where
  vm := { classes := classes, interned := interned.toArray }
  heap := heap
  slotsUsed := slotsUsed
  threads := #[{ frames := .invoking theMethod args0 :: below }]
def below0 : List Frame := [.native { method := ⟨0, 0⟩, args := #[] }]
def about1 : State := aboutOver below0
def p0 : Program := .bare "" "" ""
def e0 : Env := launch0.env 0 0 0
theorem w_frames : about1.frames = Frame.invoking theMethod args0 :: below0 := rfl
set_option maxRecDepth 65536 in
theorem w_args : argsFit about1.vm theMethod args0 = true := by decide +kernel
set_option maxRecDepth 65536 in
theorem w_heap : heapFits about1 = true := by decide +kernel
set_option maxRecDepth 65536 in
theorem w_runnable : about1.curStatus? = some .runnable := by decide +kernel
set_option maxRecDepth 65536 in
theorem w_alone : about1.alone = true := by decide +kernel
set_option maxRecDepth 65536 in
theorem w_named : about1.methodNamed? x = some theMethod := by decide +kernel
set_option maxRecDepth 65536 in
theorem w_hears : about1.hears theMethod below0 = true := by decide +kernel
set_option maxRecDepth 65536 in
theorem w_ripe : about1.ripe theMethod args0 below0 = true := by decide +kernel
theorem w_running : about1.status = .running := rfl
set_option maxRecDepth 65536 in
theorem w_room : about1.hasRoom e0.platform room_1 = true :=
  launch0.hasRoom_least _ room_1 (by decide +kernel) (by decide +kernel) (by decide +kernel) (by decide +kernel) (by decide +kernel) (by decide +kernel)
theorem allAtoms_all (ts : List Jvm.Cond) (a : Array Jvm.Value) (st : Jvm.State) : (allAtoms ts).before a st = ts.all (fun c => c.before a st) := by
  induction ts with
  | nil => rfl
  | cons c t ih =>
    show (Jvm.Cond.and c (allAtoms t)).before a st = _
    rw [Jvm.Cond.before_and, ih, List.all_cons]
def words1 : List Jvm.Cond := Jvm.Cond.code x code maxLocals ret :: tables_1
/-- a 'code' word, met by the world's own term for the bytes: nothing is compared byte by byte -/
theorem code_word {y : MethodName} {bytes : ByteArray} {mx : Nat} {rt : Option FieldType} {a : Array Value} {s : State} {m : MethodId} {meth : Method} {c : Code} (h1 : s.methodNamed? y = some m) (h2 : s.vm.method? m = some meth) (h3 : meth.code = some c) (h4 : c.code = bytes)
    (h5 : (c.maxLocals == mx && c.exceptionTable.isEmpty && decide (c.maxStack ≤ mostOperands) && decide (meth.sig.returnType = rt) && !meth.locks && decide (parseMethodDescriptor y.desc = some meth.sig)) = true) : (Jvm.Cond.code y bytes mx rt).before a s = true := by
  simp only [Bool.and_eq_true, beq_iff_eq, Bool.not_eq_true', decide_eq_true_eq] at h5
  obtain ⟨⟨⟨⟨⟨g1, g2⟩, g3⟩, g4⟩, g5⟩, g6⟩ := h5
  simp [Cond.before, Cond.holds, Cond.value, h1, h2, h3, h4, g1, g2, g3, g4, g5, g6]
def isCode : Jvm.Cond → Bool
  | .code _ _ _ _ => true
  | _ => false
theorem all_split {L : List Jvm.Cond} {P : Jvm.Cond → Bool} (h1 : L.all (fun c => isCode c || P c) = true) (h2 : ∀ c ∈ L.filter isCode, P c = true) : L.all P = true := by
  refine List.all_eq_true.mpr fun c hc => ?_
  have h := List.all_eq_true.mp h1 c hc
  rcases Bool.eq_false_or_eq_true (isCode c) with hi | hi
  · exact h2 c (List.mem_filter.mpr ⟨hc, hi⟩)
  · simpa [hi] using h
set_option maxRecDepth 65536 in
theorem w_c0 : (Jvm.Cond.code x code maxLocals ret).before args0 about1 = true := code_word (m := ⟨1, 1⟩) (meth := k1m1) (c := k1c1) (by decide +kernel) rfl rfl rfl (by decide +kernel)
set_option maxRecDepth 65536 in
theorem w_c1 : (Jvm.Cond.code ({ cls := "com/example/frage/frage/table/Records", name := "<init>", desc := "()V" } : Jvm.MethodName) prog_42_method_1_code (1 : Nat) (Option.none : Option Jvm.ClassFile.FieldType)).before args0 about1 = true := code_word (m := ⟨2, 0⟩) (meth := k2m0) (c := k2c0) (by decide +kernel) rfl rfl rfl (by decide +kernel)
set_option maxRecDepth 65536 in
theorem w_c2 : (Jvm.Cond.code ({ cls := "java/lang/Object", name := "<init>", desc := "()V" } : Jvm.MethodName) object_method_1_code (1 : Nat) (Option.none : Option Jvm.ClassFile.FieldType)).before args0 about1 = true := code_word (m := ⟨0, 0⟩) (meth := k0m0) (c := k0c0) (by decide +kernel) rfl rfl rfl (by decide +kernel)
set_option maxRecDepth 65536 in
theorem w_c3 : (Jvm.Cond.code ({ cls := "com/example/frage/frage/table/Records", name := "add", desc := "([BIIJZ)V" } : Jvm.MethodName) prog_42_method_5_code (7 : Nat) (Option.none : Option Jvm.ClassFile.FieldType)).before args0 about1 = true := code_word (m := ⟨2, 3⟩) (meth := k2m3) (c := k2c3) (by decide +kernel) rfl rfl rfl (by decide +kernel)
set_option maxRecDepth 65536 in
theorem w_c4 : (Jvm.Cond.code ({ cls := "com/example/frage/frage/table/Records", name := "fields", desc := "(I)I" } : Jvm.MethodName) prog_42_method_3_code (2 : Nat) (Option.some Jvm.ClassFile.FieldType.int)).before args0 about1 = true := code_word (m := ⟨2, 2⟩) (meth := k2m2) (c := k2c2) (by decide +kernel) rfl rfl rfl (by decide +kernel)
set_option maxRecDepth 65536 in
theorem w_c5 : (Jvm.Cond.code ({ cls := "com/example/frage/frage/table/Records", name := "full", desc := "()Z" } : Jvm.MethodName) prog_42_method_2_code (1 : Nat) (Option.some Jvm.ClassFile.FieldType.boolean)).before args0 about1 = true := code_word (m := ⟨2, 1⟩) (meth := k2m1) (c := k2c1) (by decide +kernel) rfl rfl rfl (by decide +kernel)
def codes1 : List Jvm.Cond := [Jvm.Cond.code x code maxLocals ret, Jvm.Cond.code ({ cls := "com/example/frage/frage/table/Records", name := "<init>", desc := "()V" } : Jvm.MethodName) prog_42_method_1_code (1 : Nat) (Option.none : Option Jvm.ClassFile.FieldType), Jvm.Cond.code ({ cls := "java/lang/Object", name := "<init>", desc := "()V" } : Jvm.MethodName) object_method_1_code (1 : Nat) (Option.none : Option Jvm.ClassFile.FieldType), Jvm.Cond.code ({ cls := "com/example/frage/frage/table/Records", name := "add", desc := "([BIIJZ)V" } : Jvm.MethodName) prog_42_method_5_code (7 : Nat) (Option.none : Option Jvm.ClassFile.FieldType), Jvm.Cond.code ({ cls := "com/example/frage/frage/table/Records", name := "fields", desc := "(I)I" } : Jvm.MethodName) prog_42_method_3_code (2 : Nat) (Option.some Jvm.ClassFile.FieldType.int), Jvm.Cond.code ({ cls := "com/example/frage/frage/table/Records", name := "full", desc := "()Z" } : Jvm.MethodName) prog_42_method_2_code (1 : Nat) (Option.some Jvm.ClassFile.FieldType.boolean)]
set_option maxRecDepth 65536 in
theorem codes_eq : words1.filter isCode = codes1 := rfl
theorem w_codes : ∀ c ∈ words1.filter isCode, c.before args0 about1 = true := by
  rw [codes_eq]
  intro c hc
  simp only [codes1, List.mem_cons, List.not_mem_nil, or_false] at hc
  rcases hc with rfl | rfl | rfl | rfl | rfl | rfl
  · exact w_c0
  · exact w_c1
  · exact w_c2
  · exact w_c3
  · exact w_c4
  · exact w_c5
set_option maxRecDepth 65536 in
theorem w_t1 : (words1.take 24).all (fun c => isCode c || c.before args0 about1) = true := by decide +kernel
set_option maxRecDepth 65536 in
theorem w_t2 : ((words1.drop 24).take 24).all (fun c => isCode c || c.before args0 about1) = true := by decide +kernel
set_option maxRecDepth 65536 in
theorem w_t3 : ((words1.drop 24).drop 24).all (fun c => isCode c || c.before args0 about1) = true := by decide +kernel
theorem w_tables : (allAtoms (Jvm.Cond.code x code maxLocals ret :: tables_1)).before args0 about1 = true := by
  rw [allAtoms_all]
  show words1.all (fun c => c.before args0 about1) = true
  refine all_split ?_ w_codes
  rw [← List.take_append_drop 24 words1, List.all_append, w_t1, ← List.take_append_drop 24 (words1.drop 24), List.all_append, w_t2, w_t3]
  rfl
set_option maxRecDepth 65536 in
theorem w_case : (Jvm.Cond.and given_1 narrow_1).before args0 about1 = true := by decide +kernel
theorem w_applies : (headSpec (Jvm.Cond.code x code maxLocals ret :: tables_1) room_1).applies x e0.platform about1 = true :=
  (Spec.applies_iff w_frames).mpr ⟨w_running, w_runnable, w_alone, w_named, w_hears, w_ripe, w_room, w_tables⟩
theorem atStart : AtStart classFile x code maxLocals ret World_1 tables_1 room_1 Calls_1 rest_1 Pre_1 launch0 p0 e0 about1 theMethod args0 below0 :=
  ⟨lists_1, trivial, launch0.admits_env _ _ _, launch0.least_env, fairChoices_fair.cas, fairChoices_fair.clock, w_frames, w_args, w_heap, w_applies, trivial, trivial, w_case⟩
end start1
theorem witness_1 : WitnessClaimed_1 := ⟨start1.p0, start1.e0, start1.about1, start1.theMethod, start1.args0, start1.below0, start1.atStart⟩
end Jvm.Pilot.@@N@@
