import JvmDerived
import JvmDerived.Pilot.@@N@@Statement
import JvmDerived.Pilot.@@N@@Code
set_option linter.unusedVariables false
set_option linter.unusedSimpArgs false
namespace Jvm.Pilot.@@N@@
open Jvm Jvm.ClassFile Sem Op Lib Jvm.Free Jvm.Stand Jvm.LawKit Jvm.RoadKit Bundle Jvm.Pilot.@@N@@.Jvm.D
/-! own kit, part 1: what a walk still owes, as a predicate on the state it stands at -/
section Own
variable {p : Program} {l : Launch} {e : Env} {R : Room} {s : State} {m : MethodId} {args : Array Value} {below : List Frame} {meth : Method} {c : Code} {T : State} {locs : List Loc} {cells slots : Nat} {Z : State} {a0 : Array Value} {h : Heap} {Q : Option Value → Heap → List Loc → Prop} {kc ks : Nat}
def own_End (p : Program) (e : Env) (below : List Frame) (s : State) (Q : Option Value → Heap → List Loc → Prop) (kc ks : Nat) (A : State) : Prop :=
  ∃ s₂ o, Steps p.tables e below A s₂ ∧ s₂.status = .running ∧ Ended s₂ below o ∧ ∃ v L, o = .returned v ∧ Q v s₂.heap L ∧ FrameEnd s o s₂ L kc ks
theorem own_go {A B : State} (h : ∀ t, Steps p.tables e below B t → Steps p.tables e below A t) (k : own_End p e below s Q kc ks B) : own_End p e below s Q kc ks A := by
  obtain ⟨s₂, o, h1, r⟩ := k
  exact ⟨s₂, o, h _ h1, r⟩
/-- a word on 'what is owed' is shown first and used behind -/
theorem own_join {A : State} (F : (State → Prop) → Prop) (h1 : F (own_End p e below s Q kc ks)) (h2 : F (own_End p e below s Q kc ks) → own_End p e below s Q kc ks A) : own_End p e below s Q kc ks A := h2 h1
abbrev own_Met (l : Launch) (y : MethodName) (bytes : ByteArray) (maxL : Nat) (rt : Option FieldType) (ws : List Jvm.Cond) (rm : Room) (as' : Array Value) (Z : State) (h0 : Heap) (Q : Option Value → Heap → List Loc → Prop) : Prop :=
  MetFree l y (head1 (Jvm.Cond.code y bytes maxL rt :: ws) rm) (fun a U => a = as' ∧ Z.Warmed39 U.vm ∧ U.heap = h0) (fun _ _ _ _ _ => True) (fun _ U o U' => ∃ v L, o = .returned v ∧ Q v U'.heap L ∧ FrameEnd U o U' L rm.cells rm.slots)
theorem own_body {y : MethodName} {bytes : ByteArray} {maxL : Nat} {rt : Option FieldType} {ws : List Jvm.Cond} {rm : Room} {as' : Array Value} {h0 : Heap} (pn : plainFor y = true)
    (body : ∀ (p : Program) (e : Env) (s : State) (m : MethodId) (below : List Frame) (meth : Method) (c : Code) (s₁ : State), Stand p l e rm s m as' below meth c s₁ [] 0 0 → p.tables.exec = Jvm.exec → c.code = bytes → c.maxLocals = maxL → meth.sig.returnType = rt → meth.locks = false → s.vm.findClass y.cls = some m.cls → meth.name = y.name → Z.Warmed39 s.vm → s₁.heap = h0 → own_End p e below s Q rm.cells rm.slots (s₁.setTop (entryFrame m as' maxL))) :
    own_Met l y bytes maxL rt ws rm as' Z h0 Q := by
  refine MetFree.of_bodySF pn hisR ?_
  intro p e s m args below meth c s₁ Bd hml0 hP hK
  obtain ⟨rfl, hZ, hh⟩ := hP
  exact body p e s m below meth c s₁ (Stand.of_body Bd) Bd.exec Bd.bytes hml0 Bd.returns Bd.notSynchronized (findClass_of_methodNamed Bd.named) (name_of_methodNamed Bd.named Bd.method).1 hZ (by rw [← hh, Bd.state]; rfl)
theorem own_retN (X : Stand p l e R s m args below meth c T locs cells slots) (hx : p.tables.exec = Jvm.exec) {t : FieldType} (hret : meth.sig.returnType = some t) (hlk : meth.locks = false) (ht : t = .boolean ∨ t = .byte ∨ t = .char ∨ t = .short) {pc : Nat} {Ls : Array Slot} {z : Int32} {rest : List Value} (hd : decode c.code pc = .ok (.ireturn, 1)) (hq : Q (some (.int (nar t z))) T.heap locs) (h1 : cells ≤ kc) (h2 : slots ≤ ks) :
    own_End p e below s Q kc ks (T.setTop (mkF m pc Ls (.int z :: rest))) := by
  obtain ⟨fs, hr, hrun, hended, hW, hsame⟩ := X.leave (v := some (.int (nar t z))) (fun h => by rw [hret] at h; cases h) hlk
  exact ⟨_, _, retN X hx hret ht hd hr, hrun, hended, _, _, rfl, hq, ⟨_, rfl⟩, hW, hsame.mono h1 h2⟩
theorem own_retI (X : Stand p l e R s m args below meth c T locs cells slots) (hx : p.tables.exec = Jvm.exec) (hret : meth.sig.returnType = some .int) (hlk : meth.locks = false) {pc : Nat} {Ls : Array Slot} {z : Int32} {rest : List Value} (hd : decode c.code pc = .ok (.ireturn, 1)) (hq : Q (some (.int z)) T.heap locs) (h1 : cells ≤ kc) (h2 : slots ≤ ks) :
    own_End p e below s Q kc ks (T.setTop (mkF m pc Ls (.int z :: rest))) := by
  obtain ⟨fs, hr, hrun, hended, hW, hsame⟩ := X.leave (v := some (.int z)) (fun h => by rw [hret] at h; cases h) hlk
  exact ⟨_, _, retOut X hx hret rfl (Or.inl ⟨rfl, Or.inl rfl, z, rfl⟩) hd hr, hrun, hended, _, _, rfl, hq, ⟨_, rfl⟩, hW, hsame.mono h1 h2⟩
theorem own_retJ (X : Stand p l e R s m args below meth c T locs cells slots) (hx : p.tables.exec = Jvm.exec) (hret : meth.sig.returnType = some .long) (hlk : meth.locks = false) {pc : Nat} {Ls : Array Slot} {z : Int64} {rest : List Value} (hd : decode c.code pc = .ok (.lreturn, 1)) (hq : Q (some (.long z)) T.heap locs) (h1 : cells ≤ kc) (h2 : slots ≤ ks) :
    own_End p e below s Q kc ks (T.setTop (mkF m pc Ls (.long z :: rest))) := by
  obtain ⟨fs, hr, hrun, hended, hW, hsame⟩ := X.leave (v := some (.long z)) (fun h => by rw [hret] at h; cases h) hlk
  exact ⟨_, _, retOut X hx hret rfl (Or.inr (Or.inl ⟨rfl, rfl, z, rfl⟩)) hd hr, hrun, hended, _, _, rfl, hq, ⟨_, rfl⟩, hW, hsame.mono h1 h2⟩
theorem own_retA (X : Stand p l e R s m args below meth c T locs cells slots) (hx : p.tables.exec = Jvm.exec) {t : FieldType} (ht : t.isReference = true) (hret : meth.sig.returnType = some t) (hlk : meth.locks = false) {pc : Nat} {Ls : Array Slot} {b : Addr} (hd : decode c.code pc = .ok (.areturn, 1)) (hq : Q (some (.ref b)) T.heap locs) (h1 : cells ≤ kc) (h2 : slots ≤ ks) :
    own_End p e below s Q kc ks (T.setTop (mkF m pc Ls [.ref b])) := by
  obtain ⟨fs, hr, hrun, hended, hW, hsame⟩ := X.leave (v := some (.ref b)) (fun h => by rw [hret] at h; cases h) hlk
  exact ⟨_, _, X.areturnOut hx rfl hret ht hd hr, hrun, hended, _, _, rfl, hq, ⟨_, rfl⟩, hW, hsame.mono h1 h2⟩
theorem own_ret (X : Stand p l e R s m args below meth c T locs cells slots) (hx : p.tables.exec = Jvm.exec) (hret : meth.sig.returnType = none) (hlk : meth.locks = false) {pc : Nat} {Ls : Array Slot} (hd : decode c.code pc = .ok (.return_, 1)) (hq : Q none T.heap locs) (h1 : cells ≤ kc) (h2 : slots ≤ ks) :
    own_End p e below s Q kc ks (T.setTop (mkF m pc Ls [])) := by
  obtain ⟨fs, hr, hrun, hended, hW, hsame⟩ := X.leave (v := none) (fun _ => rfl) hlk
  exact ⟨_, _, X.returnOut hx hret hd hr, hrun, hended, _, _, rfl, hq, ⟨_, rfl⟩, hW, hsame.mono h1 h2⟩
/-! own kit, part 2: calls by a callee's contract -/
theorem own_callS (X : Stand p l e R s m args below meth c T locs cells slots) (hx : p.tables.exec = Jvm.exec) (hZ : Z.Warmed39 s.vm) {own : String} {index : Nat} {y : MethodName} {bytes : ByteArray} {maxL : Nat} {rt : Option FieldType} {rm : Room} {as' : Array Value} {Qc : Option Value → Heap → List Loc → Prop} (W : Nat)
    (hown : s.vm.findClass own = some m.cls) (w1 : (Cond.methodLink own index y).before a0 Z = true) (w2 : (Cond.static y).before a0 Z = true) (w3 : (Cond.initialized y.cls).before a0 Z = true) (w4 : (Cond.code y bytes maxL rt).before a0 Z = true)
    (hy : y.cls ≠ "java/lang/invoke/MethodHandle" ∧ y.cls ≠ "java/lang/invoke/VarHandle") (hM : own_Met l y bytes maxL rt [] rm as' Z h Qc) (eT : T.heap = h)
    {pc : Nat} {Ls : Array Slot} {st : List Value} (argsL rest : List Value) (hsize : Ls.size = c.maxLocals) (hst : st = argsL.reverse ++ rest) (has : argsL.toArray = as') (hlen : ∀ sig, parseMethodDescriptor y.desc = some sig → argsL.length = sig.parameters.length)
    (hW : (rest.map fun v => v.category).sum ≤ W) (hd : decode c.code pc = .ok (.invokestatic index, 3)) (hf : rm.frames + 1 ≤ R.frames) (hl : W + (maxL + 11) + rm.locals ≤ R.locals) (hc : cells + rm.cells ≤ R.cells) (hs : slots + rm.slots ≤ R.slots) :
    ∃ v T' L, Stand p l e R s m args below meth c T' (locs ++ L) (cells + rm.cells) (slots + rm.slots) ∧ Qc v T'.heap L ∧ ∀ t, Steps p.tables e below (T'.setTop (mkF m (pc + 3) Ls (v.toList ++ rest))) t → Steps p.tables e below (T.setTop (mkF m pc Ls st)) t := by
  obtain ⟨v, vm1, ⟨T', L', k', n'⟩, -, X', ⟨L, hQ, l1, y1, z1⟩, st'⟩ := Jvm.LawKit.callS X hx (y := y) hown (mvT hZ w1) (mvT hZ w2) (mvT hZ w3) (mvT hZ w4) hy (backOf (W := W) hM hZ w4 w3 hf hl) (g := mkF m pc Ls st) rfl hsize (argsL := argsL) (rest := rest) hlen hst (by show 2 * 0 + _ ≤ _; omega) hd (fun _ _ => ⟨has, eT, hc, hs⟩)
  dsimp only [Pt.U, Pt.locs, Pt.cells, Pt.slots] at X' l1 y1 z1 st' hQ
  subst l1 y1 z1
  exact ⟨v, T', L, X', hQ, st'⟩
theorem own_callV (X : Stand p l e R s m args below meth c T locs cells slots) (hx : p.tables.exec = Jvm.exec) (hZ : Z.Warmed39 s.vm) {own C : String} {index : Nat} {y : MethodName} {bytes : ByteArray} {maxL : Nat} {rt : Option FieldType} {rm : Room} {as' : Array Value} {Qc : Option Value → Heap → List Loc → Prop} (W : Nat)
    (hown : s.vm.findClass own = some m.cls) (w1 : (Cond.methodLink own index y).before a0 Z = true) (w2 : (Cond.declares y).before a0 Z = true) (w3 : (Cond.selects C y y).before a0 Z = true) (w4 : (Cond.instanceMethod y).before a0 Z = true) (w5 : (Cond.initialized y.cls).before a0 Z = true) (w6 : (Cond.code y bytes maxL rt).before a0 Z = true)
    (hy : y.cls ≠ "java/lang/invoke/MethodHandle" ∧ y.cls ≠ "java/lang/invoke/VarHandle") (hM : own_Met l y bytes maxL rt [] rm as' Z h Qc) (eT : T.heap = h) {b : Addr} (E : Exa Z h b C)
    {pc : Nat} {Ls : Array Slot} {st : List Value} (argsL rest : List Value) (hsize : Ls.size = c.maxLocals) (hst : st = argsL.reverse ++ .ref b :: rest) (has : (.ref b :: argsL).toArray = as') (hlen : ∀ sig, parseMethodDescriptor y.desc = some sig → argsL.length = sig.parameters.length)
    (hW : (rest.map fun v => v.category).sum ≤ W) (hd : decode c.code pc = .ok (.invokevirtual index, 3)) (hf : rm.frames + 1 ≤ R.frames) (hl : W + (maxL + 11) + rm.locals ≤ R.locals) (hc : cells + rm.cells ≤ R.cells) (hs : slots + rm.slots ≤ R.slots) :
    ∃ v T' L, Stand p l e R s m args below meth c T' (locs ++ L) (cells + rm.cells) (slots + rm.slots) ∧ Qc v T'.heap L ∧ ∀ t, Steps p.tables e below (T'.setTop (mkF m (pc + 3) Ls (v.toList ++ rest))) t → Steps p.tables e below (T.setTop (mkF m pc Ls st)) t := by
  obtain ⟨cq, kq, q1, q2, q3⟩ := isOf hZ eT E
  obtain ⟨v, vm1, ⟨T', L', k', n'⟩, -, X', ⟨L, hQ, l1, y1, z1⟩, st'⟩ := X.virtualBack hx (y := y) (z := y) hown (mvT hZ w1) (mvT hZ w2) (notFace_of_selects (args := #[]) (mvT hZ w3)) (mvT hZ w3) (mvT hZ w4) hy (backOf (W := W) hM hZ w6 w5 hf hl) q1 q3 (g := mkF m pc Ls st) rfl hsize (Steps.refl _) (argsL := argsL) (rest := rest) hlen hst (by show 2 * 0 + _ ≤ _; omega) hd (fun _ _ => ⟨has, eT, hc, hs⟩)
  dsimp only [Pt.U, Pt.locs, Pt.cells, Pt.slots] at X' l1 y1 z1 st' hQ
  subst l1 y1 z1
  exact ⟨v, T', L, X', hQ, fun t k => st'.trans k⟩
theorem own_callI (X : Stand p l e R s m args below meth c T locs cells slots) (hx : p.tables.exec = Jvm.exec) (hZ : Z.Warmed39 s.vm) {own : String} {index : Nat} {y : MethodName} {bytes : ByteArray} {maxL : Nat} {rm : Room} {as' : Array Value} {Qc : Option Value → Heap → List Loc → Prop} (W : Nat) (hi : y.name = "<init>")
    (hown : s.vm.findClass own = some m.cls) (w1 : (Cond.methodLink own index y).before a0 Z = true) (w4 : (Cond.instanceMethod y).before a0 Z = true) (w5 : (Cond.initialized y.cls).before a0 Z = true) (w6 : (Cond.code y bytes maxL none).before a0 Z = true)
    (hy : y.cls ≠ "java/lang/invoke/MethodHandle" ∧ y.cls ≠ "java/lang/invoke/VarHandle") (hM : own_Met l y bytes maxL none [] rm as' Z h Qc) (eT : T.heap = h) {b : Addr}
    {pc : Nat} {Ls : Array Slot} {st : List Value} (argsL rest : List Value) (hsize : Ls.size = c.maxLocals) (hst : st = argsL.reverse ++ .ref b :: rest) (has : (.ref b :: argsL).toArray = as') (hlen : ∀ sig, parseMethodDescriptor y.desc = some sig → argsL.length = sig.parameters.length)
    (hW : (rest.map fun v => v.category).sum ≤ W) (hd : decode c.code pc = .ok (.invokespecial index, 3)) (hf : rm.frames + 1 ≤ R.frames) (hl : W + (maxL + 11) + rm.locals ≤ R.locals) (hc : cells + rm.cells ≤ R.cells) (hs : slots + rm.slots ≤ R.slots) :
    ∃ v T' L, Stand p l e R s m args below meth c T' (locs ++ L) (cells + rm.cells) (slots + rm.slots) ∧ Qc v T'.heap L ∧ ∀ t, Steps p.tables e below (T'.setTop (mkF m (pc + 3) Ls (v.toList ++ rest))) t → Steps p.tables e below (T.setTop (mkF m pc Ls st)) t := by
  obtain ⟨v, vm1, ⟨T', L', k', n'⟩, -, X', ⟨L, hQ, l1, y1, z1⟩, st'⟩ := X.specialBack hx (y := y) hi hown (mvT hZ w1) (mvT hZ w4) (mvT hZ w6) hy (backOf (W := W) hM hZ w6 w5 hf hl) (g := mkF m pc Ls st) rfl hsize (Steps.refl _) (a := b) (argsL := argsL) (rest := rest) hlen hst (by show 2 * 0 + _ ≤ _; omega) hd (fun _ _ => ⟨has, eT, hc, hs⟩)
  dsimp only [Pt.U, Pt.locs, Pt.cells, Pt.slots] at X' l1 y1 z1 st' hQ
  subst l1 y1 z1
  exact ⟨v, T', L, X', hQ, fun t k => st'.trans k⟩
/-! own kit, part 3: comparisons, said of the numbers -/
theorem own_ltY {x y : Int32} {k : Int} (hy : y.toInt = k) (q : x.toInt < k) : if_icmp.holds .lt x y = true := (tlt (Int32.lt_iff_toInt_lt.mpr (by omega))).1
theorem own_ltN {x y : Int32} {k : Int} (hy : y.toInt = k) (q : ¬ x.toInt < k) : if_icmp.holds .lt x y = false := (flt (fun z => q (by have := Int32.lt_iff_toInt_lt.mp z; omega))).1
theorem own_geY {x y : Int32} {k : Int} (hy : y.toInt = k) (q : k ≤ x.toInt) : if_icmp.holds .ge x y = true := (flt (fun z => by have := Int32.lt_iff_toInt_lt.mp z; omega)).2.1
theorem own_geN {x y : Int32} {k : Int} (hy : y.toInt = k) (q : ¬ k ≤ x.toInt) : if_icmp.holds .ge x y = false := (tlt (Int32.lt_iff_toInt_lt.mpr (by omega))).2.1
theorem own_gtY {x y : Int32} {k : Int} (hy : y.toInt = k) (q : k < x.toInt) : if_icmp.holds .gt x y = true := (tlt (x := y) (y := x) (Int32.lt_iff_toInt_lt.mpr (by omega))).2.2.1
theorem own_gtN {x y : Int32} {k : Int} (hy : y.toInt = k) (q : ¬ k < x.toInt) : if_icmp.holds .gt x y = false := (flt (x := y) (y := x) (fun z => q (by have := Int32.lt_iff_toInt_lt.mp z; omega))).2.2.1
theorem own_leY {x y : Int32} {k : Int} (hy : y.toInt = k) (q : x.toInt ≤ k) : if_icmp.holds .le x y = true := (flt (x := y) (y := x) (fun z => by have := Int32.lt_iff_toInt_lt.mp z; omega)).2.2.2
theorem own_leN {x y : Int32} {k : Int} (hy : y.toInt = k) (q : ¬ x.toInt ≤ k) : if_icmp.holds .le x y = false := (tlt (x := y) (y := x) (Int32.lt_iff_toInt_lt.mpr (by omega))).2.2.2
theorem own_eqY {x y : Int32} {k : Int} (hy : y.toInt = k) (q : x.toInt = k) : if_icmp.holds .eq x y = true := (teq (Int32.toInt_inj.mp (by omega))).1
theorem own_eqN {x y : Int32} {k : Int} (hy : y.toInt = k) (q : ¬ x.toInt = k) : if_icmp.holds .eq x y = false := (feq (fun z => q (by rw [z]; exact hy))).1
theorem own_neY {x y : Int32} {k : Int} (hy : y.toInt = k) (q : ¬ x.toInt = k) : if_icmp.holds .ne x y = true := (feq (fun z => q (by rw [z]; exact hy))).2
theorem own_neN {x y : Int32} {k : Int} (hy : y.toInt = k) (q : ¬ ¬ x.toInt = k) : if_icmp.holds .ne x y = false := (teq (Int32.toInt_inj.mp (by omega))).2
theorem own_0 {cd : ClassFile.Cond} {x : Int32} {b : Bool} (q : if_icmp.holds cd x 0 = b) : ifCond.holds cd x = b := (if0 cd x).trans q
theorem own_cmp (x y : Int64) : (x.toInt < y.toInt ∧ XT.cmpL x y = -1) ∨ (x.toInt = y.toInt ∧ XT.cmpL x y = 0) ∨ (y.toInt < x.toInt ∧ XT.cmpL x y = 1) := by
  unfold XT.cmpL
  by_cases h1 : y < x
  · exact Or.inr (Or.inr ⟨Int64.lt_iff_toInt_lt.mp h1, if_pos h1⟩)
  · by_cases h2 : x = y
    · exact Or.inr (Or.inl ⟨by rw [h2], by rw [if_neg h1, if_pos h2]⟩)
    · refine Or.inl ⟨?_, by rw [if_neg h1, if_neg h2]⟩
      have q1 : ¬ y.toInt < x.toInt := fun z => h1 (Int64.lt_iff_toInt_lt.mpr z)
      have q2 : ¬ x.toInt = y.toInt := fun z => h2 (Int64.toInt_inj.mp z)
      omega
theorem own_lltY {x y : Int64} {k : Int} (hy : y.toInt = k) (q : x.toInt < k) : ifCond.holds .lt (XT.cmpL x y) = true := by rcases own_cmp x y with ⟨h, e⟩ | ⟨h, e⟩ | ⟨h, e⟩ <;> first | (exfalso; omega) | (rw [e]; decide)
theorem own_lltN {x y : Int64} {k : Int} (hy : y.toInt = k) (q : ¬ x.toInt < k) : ifCond.holds .lt (XT.cmpL x y) = false := by rcases own_cmp x y with ⟨h, e⟩ | ⟨h, e⟩ | ⟨h, e⟩ <;> first | (exfalso; omega) | (rw [e]; decide)
theorem own_lgeY {x y : Int64} {k : Int} (hy : y.toInt = k) (q : k ≤ x.toInt) : ifCond.holds .ge (XT.cmpL x y) = true := by rcases own_cmp x y with ⟨h, e⟩ | ⟨h, e⟩ | ⟨h, e⟩ <;> first | (exfalso; omega) | (rw [e]; decide)
theorem own_lgeN {x y : Int64} {k : Int} (hy : y.toInt = k) (q : ¬ k ≤ x.toInt) : ifCond.holds .ge (XT.cmpL x y) = false := by rcases own_cmp x y with ⟨h, e⟩ | ⟨h, e⟩ | ⟨h, e⟩ <;> first | (exfalso; omega) | (rw [e]; decide)
theorem own_lgtY {x y : Int64} {k : Int} (hy : y.toInt = k) (q : k < x.toInt) : ifCond.holds .gt (XT.cmpL x y) = true := by rcases own_cmp x y with ⟨h, e⟩ | ⟨h, e⟩ | ⟨h, e⟩ <;> first | (exfalso; omega) | (rw [e]; decide)
theorem own_lgtN {x y : Int64} {k : Int} (hy : y.toInt = k) (q : ¬ k < x.toInt) : ifCond.holds .gt (XT.cmpL x y) = false := by rcases own_cmp x y with ⟨h, e⟩ | ⟨h, e⟩ | ⟨h, e⟩ <;> first | (exfalso; omega) | (rw [e]; decide)
theorem own_lleY {x y : Int64} {k : Int} (hy : y.toInt = k) (q : x.toInt ≤ k) : ifCond.holds .le (XT.cmpL x y) = true := by rcases own_cmp x y with ⟨h, e⟩ | ⟨h, e⟩ | ⟨h, e⟩ <;> first | (exfalso; omega) | (rw [e]; decide)
theorem own_lleN {x y : Int64} {k : Int} (hy : y.toInt = k) (q : ¬ x.toInt ≤ k) : ifCond.holds .le (XT.cmpL x y) = false := by rcases own_cmp x y with ⟨h, e⟩ | ⟨h, e⟩ | ⟨h, e⟩ <;> first | (exfalso; omega) | (rw [e]; decide)
theorem own_leqY {x y : Int64} {k : Int} (hy : y.toInt = k) (q : x.toInt = k) : ifCond.holds .eq (XT.cmpL x y) = true := by rcases own_cmp x y with ⟨h, e⟩ | ⟨h, e⟩ | ⟨h, e⟩ <;> first | (exfalso; omega) | (rw [e]; decide)
theorem own_leqN {x y : Int64} {k : Int} (hy : y.toInt = k) (q : ¬ x.toInt = k) : ifCond.holds .eq (XT.cmpL x y) = false := by rcases own_cmp x y with ⟨h, e⟩ | ⟨h, e⟩ | ⟨h, e⟩ <;> first | (exfalso; omega) | (rw [e]; decide)
theorem own_lneY {x y : Int64} {k : Int} (hy : y.toInt = k) (q : ¬ x.toInt = k) : ifCond.holds .ne (XT.cmpL x y) = true := by rcases own_cmp x y with ⟨h, e⟩ | ⟨h, e⟩ | ⟨h, e⟩ <;> first | (exfalso; omega) | (rw [e]; decide)
theorem own_lneN {x y : Int64} {k : Int} (hy : y.toInt = k) (q : ¬ ¬ x.toInt = k) : ifCond.holds .ne (XT.cmpL x y) = false := by rcases own_cmp x y with ⟨h, e⟩ | ⟨h, e⟩ | ⟨h, e⟩ <;> first | (exfalso; omega) | (rw [e]; decide)
theorem own_yes {P : Prop} [Decidable P] (q : P) : (some (Value.int (nar .boolean 1)) : Option Value) = some (.int (if P then 1 else 0)) := by rw [if_pos q]; rfl
theorem own_no {P : Prop} [Decidable P] (q : ¬ P) : (some (Value.int (nar .boolean 0)) : Option Value) = some (.int (if P then 1 else 0)) := by rw [if_neg q]; rfl
theorem own_nyes {P : Prop} [Decidable P] (q : P) : (some (Value.int (nar .boolean 0)) : Option Value) = some (.int (if P then 0 else 1)) := by rw [if_pos q]; rfl
theorem own_nno {P : Prop} [Decidable P] (q : ¬ P) : (some (Value.int (nar .boolean 1)) : Option Value) = some (.int (if P then 0 else 1)) := by rw [if_neg q]; rfl
theorem own_bneY {P : Prop} [Decidable P] (q : P) : ifCond.holds .ne (if P then (1 : Int32) else 0) = true := by rw [if_pos q]; rfl
theorem own_bneN {P : Prop} [Decidable P] (q : ¬ P) : ifCond.holds .ne (if P then (1 : Int32) else 0) = false := by rw [if_neg q]; rfl
theorem own_beqY {P : Prop} [Decidable P] (q : ¬ P) : ifCond.holds .eq (if P then (1 : Int32) else 0) = true := by rw [if_neg q]; rfl
theorem own_beqN {P : Prop} [Decidable P] (q : ¬ ¬ P) : ifCond.holds .eq (if P then (1 : Int32) else 0) = false := by rw [if_pos (Decidable.not_not.mp q)]; rfl
/-! own kit, part 4: an array of which only the kind, the length and 'its places hold values of the kind' is kept -/
def own_A (Z : State) (h : Heap) (a : Addr) (ty : FieldType) (n : Nat) : Prop := ∃ c : Cell, Arr Z h a c ty ∧ c.slots.size = n ∧ ∀ i, i < n → ∃ v, c.slots[i]? = some v ∧ fits ty v = true
theorem own_A.lt {a : Addr} {ty : FieldType} {n : Nat} (A : own_A Z h a ty n) : a < h.size := by obtain ⟨c, A, -⟩ := A; exact A.lt
theorem own_A.of {h' : Heap} {a : Addr} {ty : FieldType} {n : Int32} {k : ClassId} {j : Nat} (A : Arr Z h a (newA k ty n) ty) (q : ¬ n < 0) (hn : n.toNatClampNeg = j) : own_A Z h a ty j := by
  obtain ⟨c, A, -, S, -, H, G⟩ := Arv.new A q
  exact ⟨c, A, S.trans hn, fun i hi => ⟨_, H i (by omega), G i (by omega)⟩⟩
theorem own_A.ext {h' : Heap} {a : Addr} {ty : FieldType} {n : Nat} (A : own_A Z h a ty n) (E : Ext h h') : own_A Z h' a ty n := by obtain ⟨c, A, r⟩ := A; exact ⟨c, A.ext E, r⟩
theorem own_A.other {h' : Heap} {a b : Addr} {ty : FieldType} {n sl : Nat} {v : Value} (A : own_A Z h a ty n) (W : Wr h h' b sl v) (q : a ≠ b) : own_A Z h' a ty n := by obtain ⟨c, A, r⟩ := A; exact ⟨c, A.other W q, r⟩
theorem own_A.set {h' : Heap} {a : Addr} {ty : FieldType} {n j : Nat} {v : Value} (A : own_A Z h a ty n) (W : Wr h h' a j v) (hv : fits ty v = true) : own_A Z h' a ty n := by
  obtain ⟨c, A, S, H⟩ := A
  refine ⟨_, A.same W, by rw [sz_set]; exact S, fun i hi => ?_⟩
  by_cases hij : i = j
  · subst hij
    exact ⟨v, by simp [Cell.setSlot, S, hi], hv⟩
  · obtain ⟨w, h1, h2⟩ := H i hi
    refine ⟨w, ?_, h2⟩
    simp only [Cell.setSlot]
    rw [Array.getElem?_setIfInBounds_ne (fun z => hij z.symm)]
    exact h1
theorem own_inb {c : Cell} {n : Nat} {j : Int32} (S : c.slots.size = n) (h1 : 0 ≤ j.toInt) (h2 : j.toInt < n) : ¬ (j < 0 ∨ c.slots.size ≤ j.toNatClampNeg) := by
  have h3 : ¬ j < 0 := fun z => by have := Int32.lt_iff_toInt_lt.mp z; have e : (0 : Int32).toInt = 0 := rfl; omega
  have := nat_of h3
  rintro (z | z)
  · exact h3 z
  · omega
theorem own_stI (X : Stand p l e R s m args below meth c T locs cells slots) (hx : p.tables.exec = Jvm.exec) (hZ : Z.Warmed39 s.vm) (eT : T.heap = h) {a : Addr} {n : Nat} (A : own_A Z h a .int n) {j x : Int32} (h1 : 0 ≤ j.toInt) (h2 : j.toInt < n) {pc : Nat} {Ls : Array Slot} {rest : List Value} (hd : decode c.code pc = .ok (.iastore, 1)) :
    ∃ T' h', Stand p l e R s m args below meth c T' (locs ++ [⟨a, j.toNatClampNeg⟩]) cells slots ∧ T'.heap = h' ∧ Wr h h' a j.toNatClampNeg (.int x) ∧ own_A Z h' a .int n ∧ ∀ t, Steps p.tables e below (T'.setTop (mkF m (pc + 1) Ls rest)) t → Steps p.tables e below (T.setTop (mkF m pc Ls (.int x :: .int j :: .ref a :: rest))) t := by
  have A0 := A
  obtain ⟨cl, A1, S, H⟩ := A
  obtain ⟨T', h', X', e', W, st⟩ := stI X hx hZ eT A1 (j := j) (x := x) (own_inb S h1 h2) (g := mkF m pc Ls (.int x :: .int j :: .ref a :: rest)) rfl rfl hd
  exact ⟨T', h', X', e', W, A0.set W rfl, st⟩
theorem own_stJ (X : Stand p l e R s m args below meth c T locs cells slots) (hx : p.tables.exec = Jvm.exec) (hZ : Z.Warmed39 s.vm) (eT : T.heap = h) {a : Addr} {n : Nat} (A : own_A Z h a .long n) {j : Int32} {x : Int64} (h1 : 0 ≤ j.toInt) (h2 : j.toInt < n) {pc : Nat} {Ls : Array Slot} {rest : List Value} (hd : decode c.code pc = .ok (.lastore, 1)) :
    ∃ T' h', Stand p l e R s m args below meth c T' (locs ++ [⟨a, j.toNatClampNeg⟩]) cells slots ∧ T'.heap = h' ∧ Wr h h' a j.toNatClampNeg (.long x) ∧ own_A Z h' a .long n ∧ ∀ t, Steps p.tables e below (T'.setTop (mkF m (pc + 1) Ls rest)) t → Steps p.tables e below (T.setTop (mkF m pc Ls (.long x :: .int j :: .ref a :: rest))) t := by
  have A0 := A
  obtain ⟨cl, A1, S, H⟩ := A
  obtain ⟨T', h', X', e', W, st⟩ := stJ X hx hZ eT A1 (j := j) (x := x) (own_inb S h1 h2) (g := mkF m pc Ls (.long x :: .int j :: .ref a :: rest)) rfl rfl hd
  exact ⟨T', h', X', e', W, A0.set W rfl, st⟩
theorem own_ldI (X : Stand p l e R s m args below meth c T locs cells slots) (hx : p.tables.exec = Jvm.exec) (hZ : Z.Warmed39 s.vm) (eT : T.heap = h) {a : Addr} {n : Nat} (A : own_A Z h a .int n) {j : Int32} (h1 : 0 ≤ j.toInt) (h2 : j.toInt < n) {pc : Nat} {Ls : Array Slot} {rest : List Value} (hd : decode c.code pc = .ok (.iaload, 1)) :
    ∃ x : Int32, ∀ t, Steps p.tables e below (T.setTop (mkF m (pc + 1) Ls (.int x :: rest))) t → Steps p.tables e below (T.setTop (mkF m pc Ls (.int j :: .ref a :: rest))) t := by
  obtain ⟨cl, A1, S, H⟩ := A
  have hin := own_inb S h1 h2
  obtain ⟨v, g1, g2⟩ := H j.toNatClampNeg (by rw [← S]; exact Nat.lt_of_not_le fun q => hin (Or.inr q))
  obtain ⟨x, rfl⟩ := fit_I g2 (Or.inl rfl)
  exact ⟨x, fun t k => X.iaload hx (by rw [eT]; exact A1.1) (State.isArrayOf_alike hZ.alike A1.2.1) A1.2.2 hin g1 (g := mkF m pc Ls (.int j :: .ref a :: rest)) rfl rfl hd t k⟩
theorem own_ldJ (X : Stand p l e R s m args below meth c T locs cells slots) (hx : p.tables.exec = Jvm.exec) (hZ : Z.Warmed39 s.vm) (eT : T.heap = h) {a : Addr} {n : Nat} (A : own_A Z h a .long n) {j : Int32} (h1 : 0 ≤ j.toInt) (h2 : j.toInt < n) {pc : Nat} {Ls : Array Slot} {rest : List Value} (hd : decode c.code pc = .ok (.laload, 1)) :
    ∃ x : Int64, ∀ t, Steps p.tables e below (T.setTop (mkF m (pc + 1) Ls (.long x :: rest))) t → Steps p.tables e below (T.setTop (mkF m pc Ls (.int j :: .ref a :: rest))) t := by
  obtain ⟨cl, A1, S, H⟩ := A
  have hin := own_inb S h1 h2
  obtain ⟨v, g1, g2⟩ := H j.toNatClampNeg (by rw [← S]; exact Nat.lt_of_not_le fun q => hin (Or.inr q))
  obtain ⟨x, rfl⟩ := fit_J g2
  exact ⟨x, fun t k => X.laload hx (by rw [eT]; exact A1.1) (State.isArrayOf_alike hZ.alike A1.2.1) A1.2.2 hin g1 (g := mkF m pc Ls (.int j :: .ref a :: rest)) rfl rfl hd t k⟩
theorem own_len (X : Stand p l e R s m args below meth c T locs cells slots) (hx : p.tables.exec = Jvm.exec) (hZ : Z.Warmed39 s.vm) (eT : T.heap = h) {a : Addr} {n : Nat} {ty : FieldType} (A : own_A Z h a ty n) {pc : Nat} {Ls : Array Slot} {rest : List Value} (hd : decode c.code pc = .ok (.arraylength, 1)) :
    ∀ t, Steps p.tables e below (T.setTop (mkF m (pc + 1) Ls (.int n.toInt32 :: rest))) t → Steps p.tables e below (T.setTop (mkF m pc Ls (.ref a :: rest))) t := by
  obtain ⟨cl, A1, S, H⟩ := A
  subst S
  exact fun t k => X.arraylength hx (by rw [eT]; exact A1.1) (State.isArrayOf_alike hZ.alike A1.2.1) (g := mkF m pc Ls (.ref a :: rest)) rfl rfl hd t k
/-! own kit, part 5: an array by the function that tells what its places hold -/
def own_F (Z : State) (h : Heap) (a : Addr) (k : ClassId) (ty : FieldType) (n : Nat) (f : Nat → Value) : Prop := ∃ c : Cell, Arr Z h a c ty ∧ c.cls = k ∧ c.slots.size = n ∧ ∀ i, i < n → c.slots[i]? = some (f i)
def own_up (f : Nat → Value) (j : Nat) (v : Value) : Nat → Value := fun i => if i = j then v else f i
section F
variable {h' : Heap} {a b : Addr} {k : ClassId} {ty : FieldType} {n : Nat} {f : Nat → Value} {j x : Int32} {y : Int64} {i : Nat} {v : Value} {pc : Nat} {Ls : Array Slot} {rest : List Value}
theorem own_F.cong {g : Nat → Value} (F : own_F Z h a k ty n f) (q : ∀ i, i < n → f i = g i) : own_F Z h a k ty n g := by obtain ⟨c, A, r1, r2, r3⟩ := F; exact ⟨c, A, r1, r2, fun i hi => by rw [← q i hi]; exact r3 i hi⟩
theorem own_F.lt (F : own_F Z h a k ty n f) : a < h.size := by obtain ⟨c, A, -⟩ := F; exact A.lt
theorem own_F.ext (F : own_F Z h a k ty n f) (E : Ext h h') : own_F Z h' a k ty n f := by obtain ⟨c, A, r⟩ := F; exact ⟨c, A.ext E, r⟩
theorem own_F.other {sl : Nat} (F : own_F Z h a k ty n f) (W : Wr h h' b sl v) (q : a ≠ b) : own_F Z h' a k ty n f := by obtain ⟨c, A, r⟩ := F; exact ⟨c, A.other W q, r⟩
theorem own_F.keep {ws : List Addr} (F : own_F Z h a k ty n f) (K : Keep h h' ws) (q : a ∉ ws) : own_F Z h' a k ty n f := by obtain ⟨c, A, r⟩ := F; exact ⟨c, ⟨K.2.1 a c A.1 q, A.2⟩, r⟩
theorem own_F.new {z : Int32} (A : Arr Z h a (newA k ty z) ty) (q : ¬ z < 0) (hn : z.toNatClampNeg = n) : own_F Z h a k ty n (fun _ => defaultValue ty) := by
  refine ⟨_, A, rfl, (sz_new _ _ _).trans hn, fun i hi => ?_⟩
  simp [newA, hn, hi]
theorem own_F.set (F : own_F Z h a k ty n f) (W : Wr h h' a i v) : own_F Z h' a k ty n (own_up f i v) := by
  obtain ⟨c, A, q, S, H⟩ := F
  refine ⟨_, A.same W, q, by rw [sz_set]; exact S, fun j hj => ?_⟩
  unfold own_up
  by_cases hij : j = i
  · subst hij
    rw [if_pos rfl]; simp [Cell.setSlot, S, hj]
  · rw [if_neg hij]
    simp only [Cell.setSlot]
    rw [Array.getElem?_setIfInBounds_ne (fun z => hij z.symm)]
    exact H j hj
theorem own_nat (hj : j.toInt = i) : j.toNatClampNeg = i ∧ ¬ j < 0 := by
  have h3 : ¬ j < 0 := fun z => by have := Int32.lt_iff_toInt_lt.mp z; have e : (0 : Int32).toInt = 0 := rfl; omega
  have := nat_of h3
  exact ⟨by omega, h3⟩
theorem own_in {c : Cell} (S : c.slots.size = n) (hj : j.toInt = i) (hi : i < n) : ¬ (j < 0 ∨ c.slots.size ≤ j.toNatClampNeg) := by
  obtain ⟨e1, e2⟩ := own_nat hj
  rintro (z | z)
  · exact e2 z
  · omega
theorem own_fstI (X : Stand p l e R s m args below meth c T locs cells slots) (hx : p.tables.exec = Jvm.exec) (hZ : Z.Warmed39 s.vm) (eT : T.heap = h) (F : own_F Z h a k .int n f) (i : Nat) (hj : j.toInt = i) (hi : i < n) (hd : decode c.code pc = .ok (.iastore, 1)) :
    ∃ T' h', Stand p l e R s m args below meth c T' (locs ++ [⟨a, i⟩]) cells slots ∧ T'.heap = h' ∧ Wr h h' a i (.int x) ∧ own_F Z h' a k .int n (own_up f i (.int x)) ∧ ∀ t, Steps p.tables e below (T'.setTop (mkF m (pc + 1) Ls rest)) t → Steps p.tables e below (T.setTop (mkF m pc Ls (.int x :: .int j :: .ref a :: rest))) t := by
  have F0 := F
  obtain ⟨cl, A, q, S, H⟩ := F
  obtain ⟨T', h', X', e', W, st⟩ := stI X hx hZ eT A (j := j) (x := x) (own_in S hj hi) (g := mkF m pc Ls (.int x :: .int j :: .ref a :: rest)) rfl rfl hd
  rw [(own_nat hj).1] at X' W
  exact ⟨T', h', X', e', W, F0.set W, st⟩
theorem own_fstJ (X : Stand p l e R s m args below meth c T locs cells slots) (hx : p.tables.exec = Jvm.exec) (hZ : Z.Warmed39 s.vm) (eT : T.heap = h) (F : own_F Z h a k .long n f) (i : Nat) (hj : j.toInt = i) (hi : i < n) (hd : decode c.code pc = .ok (.lastore, 1)) :
    ∃ T' h', Stand p l e R s m args below meth c T' (locs ++ [⟨a, i⟩]) cells slots ∧ T'.heap = h' ∧ Wr h h' a i (.long y) ∧ own_F Z h' a k .long n (own_up f i (.long y)) ∧ ∀ t, Steps p.tables e below (T'.setTop (mkF m (pc + 1) Ls rest)) t → Steps p.tables e below (T.setTop (mkF m pc Ls (.long y :: .int j :: .ref a :: rest))) t := by
  have F0 := F
  obtain ⟨cl, A, q, S, H⟩ := F
  obtain ⟨T', h', X', e', W, st⟩ := stJ X hx hZ eT A (j := j) (x := y) (own_in S hj hi) (g := mkF m pc Ls (.long y :: .int j :: .ref a :: rest)) rfl rfl hd
  rw [(own_nat hj).1] at X' W
  exact ⟨T', h', X', e', W, F0.set W, st⟩
theorem own_fstC (X : Stand p l e R s m args below meth c T locs cells slots) (hx : p.tables.exec = Jvm.exec) (hZ : Z.Warmed39 s.vm) (eT : T.heap = h) (F : own_F Z h a k .char n f) (i : Nat) (hj : j.toInt = i) (hi : i < n) (hd : decode c.code pc = .ok (.castore, 1)) :
    ∃ T' h', Stand p l e R s m args below meth c T' (locs ++ [⟨a, i⟩]) cells slots ∧ T'.heap = h' ∧ Wr h h' a i (.int (nar .char x)) ∧ own_F Z h' a k .char n (own_up f i (.int (nar .char x))) ∧ ∀ t, Steps p.tables e below (T'.setTop (mkF m (pc + 1) Ls rest)) t → Steps p.tables e below (T.setTop (mkF m pc Ls (.int x :: .int j :: .ref a :: rest))) t := by
  have F0 := F
  obtain ⟨cl, A, q, S, H⟩ := F
  obtain ⟨T', h', X', e', W, st⟩ := stC X hx hZ eT A (j := j) (x := x) (own_in S hj hi) (g := mkF m pc Ls (.int x :: .int j :: .ref a :: rest)) rfl rfl hd
  rw [(own_nat hj).1] at X' W
  exact ⟨T', h', X', e', W, F0.set W, st⟩
theorem own_fstZ (X : Stand p l e R s m args below meth c T locs cells slots) (hx : p.tables.exec = Jvm.exec) (hZ : Z.Warmed39 s.vm) (eT : T.heap = h) (F : own_F Z h a k .boolean n f) (i : Nat) (hj : j.toInt = i) (hi : i < n) (hd : decode c.code pc = .ok (.bastore, 1)) :
    ∃ T' h', Stand p l e R s m args below meth c T' (locs ++ [⟨a, i⟩]) cells slots ∧ T'.heap = h' ∧ Wr h h' a i (.int (nar .boolean x)) ∧ own_F Z h' a k .boolean n (own_up f i (.int (nar .boolean x))) ∧ ∀ t, Steps p.tables e below (T'.setTop (mkF m (pc + 1) Ls rest)) t → Steps p.tables e below (T.setTop (mkF m pc Ls (.int x :: .int j :: .ref a :: rest))) t := by
  have F0 := F
  obtain ⟨cl, A, q, S, H⟩ := F
  obtain ⟨T', h', X', e', W, st⟩ := stZ X hx hZ eT A (j := j) (x := x) (own_in S hj hi) (g := mkF m pc Ls (.int x :: .int j :: .ref a :: rest)) rfl rfl hd
  rw [(own_nat hj).1] at X' W
  exact ⟨T', h', X', e', W, F0.set W, st⟩
theorem own_fstA (X : Stand p l e R s m args below meth c T locs cells slots) (hx : p.tables.exec = Jvm.exec) (hZ : Z.Warmed39 s.vm) (eT : T.heap = h) (F : own_F Z h a k ty n f) (hty : ty.isReference = true) (O : Sto Z h a v) (i : Nat) (hj : j.toInt = i) (hi : i < n) (hd : decode c.code pc = .ok (.aastore, 1)) :
    ∃ T' h', Stand p l e R s m args below meth c T' (locs ++ [⟨a, i⟩]) cells slots ∧ T'.heap = h' ∧ Wr h h' a i v ∧ own_F Z h' a k ty n (own_up f i v) ∧ ∀ t, Steps p.tables e below (T'.setTop (mkF m (pc + 1) Ls rest)) t → Steps p.tables e below (T.setTop (mkF m pc Ls (v :: .int j :: .ref a :: rest))) t := by
  have F0 := F
  obtain ⟨cl, A, q, S, H⟩ := F
  obtain ⟨T', h', X', e', W, st⟩ := stR X hx hZ eT A (j := j) (v := v) (own_in S hj hi) hty O (g := mkF m pc Ls (v :: .int j :: .ref a :: rest)) rfl rfl hd
  rw [(own_nat hj).1] at X' W
  exact ⟨T', h', X', e', W, F0.set W, st⟩
theorem own_fldI (X : Stand p l e R s m args below meth c T locs cells slots) (hx : p.tables.exec = Jvm.exec) (hZ : Z.Warmed39 s.vm) (eT : T.heap = h) (F : own_F Z h a k .int n f) (i : Nat) (hj : j.toInt = i) (hi : i < n) (hv : f i = v) (hd : decode c.code pc = .ok (.iaload, 1)) :
    ∀ t, Steps p.tables e below (T.setTop (mkF m (pc + 1) Ls (v :: rest))) t → Steps p.tables e below (T.setTop (mkF m pc Ls (.int j :: .ref a :: rest))) t := by
  obtain ⟨cl, A, q, S, H⟩ := F
  exact fun t kk => X.iaload hx (by rw [eT]; exact A.1) (State.isArrayOf_alike hZ.alike A.2.1) A.2.2 (own_in S hj hi) (by rw [(own_nat hj).1, ← hv]; exact H i hi) (g := mkF m pc Ls (.int j :: .ref a :: rest)) rfl rfl hd t kk
theorem own_fldJ (X : Stand p l e R s m args below meth c T locs cells slots) (hx : p.tables.exec = Jvm.exec) (hZ : Z.Warmed39 s.vm) (eT : T.heap = h) (F : own_F Z h a k .long n f) (i : Nat) (hj : j.toInt = i) (hi : i < n) (hv : f i = v) (hd : decode c.code pc = .ok (.laload, 1)) :
    ∀ t, Steps p.tables e below (T.setTop (mkF m (pc + 1) Ls (v :: rest))) t → Steps p.tables e below (T.setTop (mkF m pc Ls (.int j :: .ref a :: rest))) t := by
  obtain ⟨cl, A, q, S, H⟩ := F
  exact fun t kk => X.laload hx (by rw [eT]; exact A.1) (State.isArrayOf_alike hZ.alike A.2.1) A.2.2 (own_in S hj hi) (by rw [(own_nat hj).1, ← hv]; exact H i hi) (g := mkF m pc Ls (.int j :: .ref a :: rest)) rfl rfl hd t kk
theorem own_fldC (X : Stand p l e R s m args below meth c T locs cells slots) (hx : p.tables.exec = Jvm.exec) (hZ : Z.Warmed39 s.vm) (eT : T.heap = h) (F : own_F Z h a k .char n f) (i : Nat) (hj : j.toInt = i) (hi : i < n) (hv : f i = v) (hd : decode c.code pc = .ok (.caload, 1)) :
    ∀ t, Steps p.tables e below (T.setTop (mkF m (pc + 1) Ls (v :: rest))) t → Steps p.tables e below (T.setTop (mkF m pc Ls (.int j :: .ref a :: rest))) t := by
  obtain ⟨cl, A, q, S, H⟩ := F
  exact fun t kk => X.caload hx (by rw [eT]; exact A.1) (State.isArrayOf_alike hZ.alike A.2.1) A.2.2 (own_in S hj hi) (by rw [(own_nat hj).1, ← hv]; exact H i hi) (g := mkF m pc Ls (.int j :: .ref a :: rest)) rfl rfl hd t kk
theorem own_fldZ (X : Stand p l e R s m args below meth c T locs cells slots) (hx : p.tables.exec = Jvm.exec) (hZ : Z.Warmed39 s.vm) (eT : T.heap = h) (F : own_F Z h a k .boolean n f) (i : Nat) (hj : j.toInt = i) (hi : i < n) (hv : f i = v) (hd : decode c.code pc = .ok (.baload, 1)) :
    ∀ t, Steps p.tables e below (T.setTop (mkF m (pc + 1) Ls (v :: rest))) t → Steps p.tables e below (T.setTop (mkF m pc Ls (.int j :: .ref a :: rest))) t := by
  obtain ⟨cl, A, q, S, H⟩ := F
  exact fun t kk => X.baloadBooleans hx (by rw [eT]; exact A.1) (State.isArrayOf_alike hZ.alike A.2.1) A.2.2 (own_in S hj hi) (by rw [(own_nat hj).1, ← hv]; exact H i hi) (g := mkF m pc Ls (.int j :: .ref a :: rest)) rfl rfl hd t kk
theorem own_fldA (X : Stand p l e R s m args below meth c T locs cells slots) (hx : p.tables.exec = Jvm.exec) (hZ : Z.Warmed39 s.vm) (eT : T.heap = h) (F : own_F Z h a k ty n f) (hty : ty.isReference = true) (i : Nat) (hj : j.toInt = i) (hi : i < n) (hv : f i = v) (hd : decode c.code pc = .ok (.aaload, 1)) :
    ∀ t, Steps p.tables e below (T.setTop (mkF m (pc + 1) Ls (v :: rest))) t → Steps p.tables e below (T.setTop (mkF m pc Ls (.int j :: .ref a :: rest))) t := by
  obtain ⟨cl, A, q, S, H⟩ := F
  exact fun t kk => X.aaload hx (by rw [eT]; exact A.1) (State.isArrayOf_alike hZ.alike A.2.1) hty A.2.2 (own_in S hj hi) (by rw [(own_nat hj).1, ← hv]; exact H i hi) (g := mkF m pc Ls (.int j :: .ref a :: rest)) rfl rfl hd t kk
theorem own_flen (X : Stand p l e R s m args below meth c T locs cells slots) (hx : p.tables.exec = Jvm.exec) (hZ : Z.Warmed39 s.vm) (eT : T.heap = h) (F : own_F Z h a k ty n f) (hd : decode c.code pc = .ok (.arraylength, 1)) :
    ∀ t, Steps p.tables e below (T.setTop (mkF m (pc + 1) Ls (.int n.toInt32 :: rest))) t → Steps p.tables e below (T.setTop (mkF m pc Ls (.ref a :: rest))) t := by
  obtain ⟨cl, A, q, S, H⟩ := F
  subst S
  exact fun t kk => X.arraylength hx (by rw [eT]; exact A.1) (State.isArrayOf_alike hZ.alike A.2.1) (g := mkF m pc Ls (.ref a :: rest)) rfl rfl hd t kk
theorem own_F.sto {ty : FieldType} {y : Addr} {C : String} (F : own_F Z h a k (.array ty) n f) (O : OvrA Z k ty C) (E : Exa Z h y C) : Sto Z h a (.ref y) := by
  obtain ⟨c, A, q, -⟩ := F
  exact Sto.ofVA A q O (Ins.self E)
theorem own_up_eq : own_up f i v i = v := if_pos rfl
theorem own_up_ne {j : Nat} (q : j ≠ i) : own_up f i v j = f j := if_neg q
end F
end Own
theorem d1_0 : decode method_3_code 0 = .ok (.iload 4, 2) := by decide +kernel
theorem d1_2 : decode method_3_code 2 = .ok (.ifCond .ne 7, 3) := by decide +kernel
theorem d1_5 : decode method_3_code 5 = .ok (.lload_n 2, 1) := by decide +kernel
theorem d1_6 : decode method_3_code 6 = .ok (.goto 16, 3) := by decide +kernel
theorem d1_9 : decode method_3_code 9 = .ok (.lload_n 0, 1) := by decide +kernel
theorem d1_10 : decode method_3_code 10 = .ok (.iload 4, 2) := by decide +kernel
theorem d1_12 : decode method_3_code 12 = .ok (.iconst 1, 1) := by decide +kernel
theorem d1_13 : decode method_3_code 13 = .ok (.isub, 1) := by decide +kernel
theorem d1_14 : decode method_3_code 14 = .ok (.invokestatic 43, 3) := by decide +kernel
theorem d1_17 : decode method_3_code 17 = .ok (.ldiv, 1) := by decide +kernel
theorem d1_18 : decode method_3_code 18 = .ok (.ldc2_w 7, 3) := by decide +kernel
theorem d1_21 : decode method_3_code 21 = .ok (.lrem, 1) := by decide +kernel
theorem d1_22 : decode method_3_code 22 = .ok (.lstore 5, 2) := by decide +kernel
theorem d1_24 : decode method_3_code 24 = .ok (.ldc2_w 49, 3) := by decide +kernel
theorem d1_27 : decode method_3_code 27 = .ok (.lload 5, 2) := by decide +kernel
theorem d1_29 : decode method_3_code 29 = .ok (.ladd, 1) := by decide +kernel
theorem d1_30 : decode method_3_code 30 = .ok (.l2i, 1) := by decide +kernel
theorem d1_31 : decode method_3_code 31 = .ok (.i2c, 1) := by decide +kernel
theorem d1_32 : decode method_3_code 32 = .ok (.ireturn, 1) := by decide +kernel
theorem d2_0 : decode method_2_code 0 = .ok (.bipush 19, 2) := by decide +kernel
theorem d2_2 : decode method_2_code 2 = .ok (.newarray .long, 2) := by decide +kernel
theorem d2_4 : decode method_2_code 4 = .ok (.dup, 1) := by decide +kernel
theorem d2_5 : decode method_2_code 5 = .ok (.iconst 0, 1) := by decide +kernel
theorem d2_6 : decode method_2_code 6 = .ok (.lconst 1, 1) := by decide +kernel
theorem d2_7 : decode method_2_code 7 = .ok (.lastore, 1) := by decide +kernel
theorem d2_8 : decode method_2_code 8 = .ok (.dup, 1) := by decide +kernel
theorem d2_9 : decode method_2_code 9 = .ok (.iconst 1, 1) := by decide +kernel
theorem d2_10 : decode method_2_code 10 = .ok (.ldc2_w 7, 3) := by decide +kernel
theorem d2_13 : decode method_2_code 13 = .ok (.lastore, 1) := by decide +kernel
theorem d2_14 : decode method_2_code 14 = .ok (.dup, 1) := by decide +kernel
theorem d2_15 : decode method_2_code 15 = .ok (.iconst 2, 1) := by decide +kernel
theorem d2_16 : decode method_2_code 16 = .ok (.ldc2_w 9, 3) := by decide +kernel
theorem d2_19 : decode method_2_code 19 = .ok (.lastore, 1) := by decide +kernel
theorem d2_20 : decode method_2_code 20 = .ok (.dup, 1) := by decide +kernel
theorem d2_21 : decode method_2_code 21 = .ok (.iconst 3, 1) := by decide +kernel
theorem d2_22 : decode method_2_code 22 = .ok (.ldc2_w 11, 3) := by decide +kernel
theorem d2_25 : decode method_2_code 25 = .ok (.lastore, 1) := by decide +kernel
theorem d2_26 : decode method_2_code 26 = .ok (.dup, 1) := by decide +kernel
theorem d2_27 : decode method_2_code 27 = .ok (.iconst 4, 1) := by decide +kernel
theorem d2_28 : decode method_2_code 28 = .ok (.ldc2_w 13, 3) := by decide +kernel
theorem d2_31 : decode method_2_code 31 = .ok (.lastore, 1) := by decide +kernel
theorem d2_32 : decode method_2_code 32 = .ok (.dup, 1) := by decide +kernel
theorem d2_33 : decode method_2_code 33 = .ok (.iconst 5, 1) := by decide +kernel
theorem d2_34 : decode method_2_code 34 = .ok (.ldc2_w 15, 3) := by decide +kernel
theorem d2_37 : decode method_2_code 37 = .ok (.lastore, 1) := by decide +kernel
theorem d2_38 : decode method_2_code 38 = .ok (.dup, 1) := by decide +kernel
theorem d2_39 : decode method_2_code 39 = .ok (.bipush 6, 2) := by decide +kernel
theorem d2_41 : decode method_2_code 41 = .ok (.ldc2_w 17, 3) := by decide +kernel
theorem d2_44 : decode method_2_code 44 = .ok (.lastore, 1) := by decide +kernel
theorem d2_45 : decode method_2_code 45 = .ok (.dup, 1) := by decide +kernel
theorem d2_46 : decode method_2_code 46 = .ok (.bipush 7, 2) := by decide +kernel
theorem d2_48 : decode method_2_code 48 = .ok (.ldc2_w 19, 3) := by decide +kernel
theorem d2_51 : decode method_2_code 51 = .ok (.lastore, 1) := by decide +kernel
theorem d2_52 : decode method_2_code 52 = .ok (.dup, 1) := by decide +kernel
theorem d2_53 : decode method_2_code 53 = .ok (.bipush 8, 2) := by decide +kernel
theorem d2_55 : decode method_2_code 55 = .ok (.ldc2_w 21, 3) := by decide +kernel
theorem d2_58 : decode method_2_code 58 = .ok (.lastore, 1) := by decide +kernel
theorem d2_59 : decode method_2_code 59 = .ok (.dup, 1) := by decide +kernel
theorem d2_60 : decode method_2_code 60 = .ok (.bipush 9, 2) := by decide +kernel
theorem d2_62 : decode method_2_code 62 = .ok (.ldc2_w 23, 3) := by decide +kernel
theorem d2_65 : decode method_2_code 65 = .ok (.lastore, 1) := by decide +kernel
theorem d2_66 : decode method_2_code 66 = .ok (.dup, 1) := by decide +kernel
theorem d2_67 : decode method_2_code 67 = .ok (.bipush 10, 2) := by decide +kernel
theorem d2_69 : decode method_2_code 69 = .ok (.ldc2_w 25, 3) := by decide +kernel
theorem d2_72 : decode method_2_code 72 = .ok (.lastore, 1) := by decide +kernel
theorem d2_73 : decode method_2_code 73 = .ok (.dup, 1) := by decide +kernel
theorem d2_74 : decode method_2_code 74 = .ok (.bipush 11, 2) := by decide +kernel
theorem d2_76 : decode method_2_code 76 = .ok (.ldc2_w 27, 3) := by decide +kernel
theorem d2_79 : decode method_2_code 79 = .ok (.lastore, 1) := by decide +kernel
theorem d2_80 : decode method_2_code 80 = .ok (.dup, 1) := by decide +kernel
theorem d2_81 : decode method_2_code 81 = .ok (.bipush 12, 2) := by decide +kernel
theorem d2_83 : decode method_2_code 83 = .ok (.ldc2_w 29, 3) := by decide +kernel
theorem d2_86 : decode method_2_code 86 = .ok (.lastore, 1) := by decide +kernel
theorem d2_87 : decode method_2_code 87 = .ok (.dup, 1) := by decide +kernel
theorem d2_88 : decode method_2_code 88 = .ok (.bipush 13, 2) := by decide +kernel
theorem d2_90 : decode method_2_code 90 = .ok (.ldc2_w 31, 3) := by decide +kernel
theorem d2_93 : decode method_2_code 93 = .ok (.lastore, 1) := by decide +kernel
theorem d2_94 : decode method_2_code 94 = .ok (.dup, 1) := by decide +kernel
theorem d2_95 : decode method_2_code 95 = .ok (.bipush 14, 2) := by decide +kernel
theorem d2_97 : decode method_2_code 97 = .ok (.ldc2_w 33, 3) := by decide +kernel
theorem d2_100 : decode method_2_code 100 = .ok (.lastore, 1) := by decide +kernel
theorem d2_101 : decode method_2_code 101 = .ok (.dup, 1) := by decide +kernel
theorem d2_102 : decode method_2_code 102 = .ok (.bipush 15, 2) := by decide +kernel
theorem d2_104 : decode method_2_code 104 = .ok (.ldc2_w 35, 3) := by decide +kernel
theorem d2_107 : decode method_2_code 107 = .ok (.lastore, 1) := by decide +kernel
theorem d2_108 : decode method_2_code 108 = .ok (.dup, 1) := by decide +kernel
theorem d2_109 : decode method_2_code 109 = .ok (.bipush 16, 2) := by decide +kernel
theorem d2_111 : decode method_2_code 111 = .ok (.ldc2_w 37, 3) := by decide +kernel
theorem d2_114 : decode method_2_code 114 = .ok (.lastore, 1) := by decide +kernel
theorem d2_115 : decode method_2_code 115 = .ok (.dup, 1) := by decide +kernel
theorem d2_116 : decode method_2_code 116 = .ok (.bipush 17, 2) := by decide +kernel
theorem d2_118 : decode method_2_code 118 = .ok (.ldc2_w 39, 3) := by decide +kernel
theorem d2_121 : decode method_2_code 121 = .ok (.lastore, 1) := by decide +kernel
theorem d2_122 : decode method_2_code 122 = .ok (.dup, 1) := by decide +kernel
theorem d2_123 : decode method_2_code 123 = .ok (.bipush 18, 2) := by decide +kernel
theorem d2_125 : decode method_2_code 125 = .ok (.ldc2_w 41, 3) := by decide +kernel
theorem d2_128 : decode method_2_code 128 = .ok (.lastore, 1) := by decide +kernel
theorem d2_129 : decode method_2_code 129 = .ok (.astore_n 1, 1) := by decide +kernel
theorem d2_130 : decode method_2_code 130 = .ok (.aload_n 1, 1) := by decide +kernel
theorem d2_131 : decode method_2_code 131 = .ok (.iload_n 0, 1) := by decide +kernel
theorem d2_132 : decode method_2_code 132 = .ok (.laload, 1) := by decide +kernel
theorem d2_133 : decode method_2_code 133 = .ok (.lreturn, 1) := by decide +kernel
theorem d3_0 : decode prog_211_method_4_code 0 = .ok (.iload_n 1, 1) := by decide +kernel
theorem d3_1 : decode prog_211_method_4_code 1 = .ok (.iload_n 2, 1) := by decide +kernel
theorem d3_2 : decode prog_211_method_4_code 2 = .ok (.if_icmp .ge 25, 3) := by decide +kernel
theorem d3_5 : decode prog_211_method_4_code 5 = .ok (.aload_n 0, 1) := by decide +kernel
theorem d3_6 : decode prog_211_method_4_code 6 = .ok (.iload_n 1, 1) := by decide +kernel
theorem d3_7 : decode prog_211_method_4_code 7 = .ok (.caload, 1) := by decide +kernel
theorem d3_8 : decode prog_211_method_4_code 8 = .ok (.bipush 45, 2) := by decide +kernel
theorem d3_10 : decode prog_211_method_4_code 10 = .ok (.if_icmp .eq 11, 3) := by decide +kernel
theorem d3_13 : decode prog_211_method_4_code 13 = .ok (.aload_n 0, 1) := by decide +kernel
theorem d3_14 : decode prog_211_method_4_code 14 = .ok (.iload_n 1, 1) := by decide +kernel
theorem d3_15 : decode prog_211_method_4_code 15 = .ok (.caload, 1) := by decide +kernel
theorem d3_16 : decode prog_211_method_4_code 16 = .ok (.bipush 43, 2) := by decide +kernel
theorem d3_18 : decode prog_211_method_4_code 18 = .ok (.if_icmp .ne 9, 3) := by decide +kernel
theorem d3_21 : decode prog_211_method_4_code 21 = .ok (.iload_n 1, 1) := by decide +kernel
theorem d3_22 : decode prog_211_method_4_code 22 = .ok (.iconst 1, 1) := by decide +kernel
theorem d3_23 : decode prog_211_method_4_code 23 = .ok (.iadd, 1) := by decide +kernel
theorem d3_24 : decode prog_211_method_4_code 24 = .ok (.goto 4, 3) := by decide +kernel
theorem d3_27 : decode prog_211_method_4_code 27 = .ok (.iload_n 1, 1) := by decide +kernel
theorem d3_28 : decode prog_211_method_4_code 28 = .ok (.istore 5, 2) := by decide +kernel
theorem d3_30 : decode prog_211_method_4_code 30 = .ok (.iload 5, 2) := by decide +kernel
theorem d3_32 : decode prog_211_method_4_code 32 = .ok (.iload_n 2, 1) := by decide +kernel
theorem d3_33 : decode prog_211_method_4_code 33 = .ok (.if_icmp .ne 5, 3) := by decide +kernel
theorem d3_36 : decode prog_211_method_4_code 36 = .ok (.iconst 0, 1) := by decide +kernel
theorem d3_37 : decode prog_211_method_4_code 37 = .ok (.ireturn, 1) := by decide +kernel
theorem d3_38 : decode prog_211_method_4_code 38 = .ok (.lconst 0, 1) := by decide +kernel
theorem d3_39 : decode prog_211_method_4_code 39 = .ok (.lstore 6, 2) := by decide +kernel
theorem d3_41 : decode prog_211_method_4_code 41 = .ok (.iload 5, 2) := by decide +kernel
theorem d3_43 : decode prog_211_method_4_code 43 = .ok (.iload_n 2, 1) := by decide +kernel
theorem d3_44 : decode prog_211_method_4_code 44 = .ok (.if_icmp .ge 69, 3) := by decide +kernel
theorem d3_47 : decode prog_211_method_4_code 47 = .ok (.aload_n 0, 1) := by decide +kernel
theorem d3_48 : decode prog_211_method_4_code 48 = .ok (.iload 5, 2) := by decide +kernel
theorem d3_50 : decode prog_211_method_4_code 50 = .ok (.caload, 1) := by decide +kernel
theorem d3_51 : decode prog_211_method_4_code 51 = .ok (.istore 8, 2) := by decide +kernel
theorem d3_53 : decode prog_211_method_4_code 53 = .ok (.iload 8, 2) := by decide +kernel
theorem d3_55 : decode prog_211_method_4_code 55 = .ok (.bipush 48, 2) := by decide +kernel
theorem d3_57 : decode prog_211_method_4_code 57 = .ok (.if_icmp .lt 10, 3) := by decide +kernel
theorem d3_60 : decode prog_211_method_4_code 60 = .ok (.iload 8, 2) := by decide +kernel
theorem d3_62 : decode prog_211_method_4_code 62 = .ok (.bipush 57, 2) := by decide +kernel
theorem d3_64 : decode prog_211_method_4_code 64 = .ok (.if_icmp .le 5, 3) := by decide +kernel
theorem d3_67 : decode prog_211_method_4_code 67 = .ok (.iconst 0, 1) := by decide +kernel
theorem d3_68 : decode prog_211_method_4_code 68 = .ok (.ireturn, 1) := by decide +kernel
theorem d3_69 : decode prog_211_method_4_code 69 = .ok (.iload 8, 2) := by decide +kernel
theorem d3_71 : decode prog_211_method_4_code 71 = .ok (.bipush 48, 2) := by decide +kernel
theorem d3_73 : decode prog_211_method_4_code 73 = .ok (.isub, 1) := by decide +kernel
theorem d3_74 : decode prog_211_method_4_code 74 = .ok (.istore 9, 2) := by decide +kernel
theorem d3_76 : decode prog_211_method_4_code 76 = .ok (.lload 6, 2) := by decide +kernel
theorem d3_78 : decode prog_211_method_4_code 78 = .ok (.ldc2_w 21, 3) := by decide +kernel
theorem d3_81 : decode prog_211_method_4_code 81 = .ok (.iload 9, 2) := by decide +kernel
theorem d3_83 : decode prog_211_method_4_code 83 = .ok (.i2l, 1) := by decide +kernel
theorem d3_84 : decode prog_211_method_4_code 84 = .ok (.ladd, 1) := by decide +kernel
theorem d3_85 : decode prog_211_method_4_code 85 = .ok (.ldc2_w 23, 3) := by decide +kernel
theorem d3_88 : decode prog_211_method_4_code 88 = .ok (.ldiv, 1) := by decide +kernel
theorem d3_89 : decode prog_211_method_4_code 89 = .ok (.lcmp, 1) := by decide +kernel
theorem d3_90 : decode prog_211_method_4_code 90 = .ok (.ifCond .ge 5, 3) := by decide +kernel
theorem d3_93 : decode prog_211_method_4_code 93 = .ok (.iconst 0, 1) := by decide +kernel
theorem d3_94 : decode prog_211_method_4_code 94 = .ok (.ireturn, 1) := by decide +kernel
theorem d3_95 : decode prog_211_method_4_code 95 = .ok (.lload 6, 2) := by decide +kernel
theorem d3_97 : decode prog_211_method_4_code 97 = .ok (.ldc2_w 23, 3) := by decide +kernel
theorem d3_100 : decode prog_211_method_4_code 100 = .ok (.lmul, 1) := by decide +kernel
theorem d3_101 : decode prog_211_method_4_code 101 = .ok (.iload 9, 2) := by decide +kernel
theorem d3_103 : decode prog_211_method_4_code 103 = .ok (.i2l, 1) := by decide +kernel
theorem d3_104 : decode prog_211_method_4_code 104 = .ok (.lsub, 1) := by decide +kernel
theorem d3_105 : decode prog_211_method_4_code 105 = .ok (.lstore 6, 2) := by decide +kernel
theorem d3_107 : decode prog_211_method_4_code 107 = .ok (.iinc 5 1, 3) := by decide +kernel
theorem d3_110 : decode prog_211_method_4_code 110 = .ok (.goto (-69), 3) := by decide +kernel
theorem d3_113 : decode prog_211_method_4_code 113 = .ok (.aload_n 0, 1) := by decide +kernel
theorem d3_114 : decode prog_211_method_4_code 114 = .ok (.iload_n 1, 1) := by decide +kernel
theorem d3_115 : decode prog_211_method_4_code 115 = .ok (.caload, 1) := by decide +kernel
theorem d3_116 : decode prog_211_method_4_code 116 = .ok (.bipush 45, 2) := by decide +kernel
theorem d3_118 : decode prog_211_method_4_code 118 = .ok (.if_icmp .eq 19, 3) := by decide +kernel
theorem d3_121 : decode prog_211_method_4_code 121 = .ok (.lload 6, 2) := by decide +kernel
theorem d3_123 : decode prog_211_method_4_code 123 = .ok (.ldc2_w 21, 3) := by decide +kernel
theorem d3_126 : decode prog_211_method_4_code 126 = .ok (.lcmp, 1) := by decide +kernel
theorem d3_127 : decode prog_211_method_4_code 127 = .ok (.ifCond .ne 5, 3) := by decide +kernel
theorem d3_130 : decode prog_211_method_4_code 130 = .ok (.iconst 0, 1) := by decide +kernel
theorem d3_131 : decode prog_211_method_4_code 131 = .ok (.ireturn, 1) := by decide +kernel
theorem d3_132 : decode prog_211_method_4_code 132 = .ok (.lload 6, 2) := by decide +kernel
theorem d3_134 : decode prog_211_method_4_code 134 = .ok (.lneg, 1) := by decide +kernel
theorem d3_135 : decode prog_211_method_4_code 135 = .ok (.lstore 6, 2) := by decide +kernel
theorem d3_137 : decode prog_211_method_4_code 137 = .ok (.aload_n 3, 1) := by decide +kernel
theorem d3_138 : decode prog_211_method_4_code 138 = .ok (.ifnull 9, 3) := by decide +kernel
theorem d3_141 : decode prog_211_method_4_code 141 = .ok (.aload_n 3, 1) := by decide +kernel
theorem d3_142 : decode prog_211_method_4_code 142 = .ok (.iload 4, 2) := by decide +kernel
theorem d3_144 : decode prog_211_method_4_code 144 = .ok (.lload 6, 2) := by decide +kernel
theorem d3_146 : decode prog_211_method_4_code 146 = .ok (.lastore, 1) := by decide +kernel
theorem d3_147 : decode prog_211_method_4_code 147 = .ok (.iconst 1, 1) := by decide +kernel
theorem d3_148 : decode prog_211_method_4_code 148 = .ok (.ireturn, 1) := by decide +kernel
theorem pd_I_J : parseMethodDescriptor "(I)J" = some ⟨[.int], some .long⟩ := by decide +kernel
theorem pd_JJI_C : parseMethodDescriptor "(JJI)C" = some ⟨[.long, .long, .int], some .char⟩ := by decide +kernel
theorem pd_aCIIaJI_Z : parseMethodDescriptor "([CII[JI)Z" = some ⟨[(.array .char), .int, .int, (.array .long), .int], some .boolean⟩ := by decide +kernel
theorem pn_Numbers : plainName "com/example/ordinate/ordinate/sql/Numbers" = true := by first | (simp [plainName, overriddenIn]; done) | decide +kernel
theorem pn_NumbersParseIntegerPinLaw : plainName "com/example/ordinate/ordinate/sql/NumbersParseIntegerPinLaw" = true := by first | (simp [plainName, overriddenIn]; done) | decide +kernel
def own_p (i : Nat) : Int64 := ([1, 10, 100, 1000, 10000, 100000, 1000000, 10000000, 100000000, 1000000000, 10000000000, 100000000000, 1000000000000, 10000000000000, 100000000000000, 1000000000000000, 10000000000000000, 100000000000000000, 1000000000000000000] : List Int64).getD i 0
theorem own_pv : ∀ i, i < 19 → (own_p i).toInt = ((10 ^ i : Nat) : Int) := by decide +kernel
/-- the number that the n signs from place i on write -/
def own_val (g : Nat → Int32) (i : Nat) : Nat → Int
  | 0 => 0
  | n + 1 => own_val g i n * 10 + ((g (i + n)).toInt - 48)
abbrev own_dig (g : Nat → Int32) (i : Nat) : Prop := 48 ≤ (g i).toInt ∧ (g i).toInt ≤ 57
theorem own_val0 {g : Nat → Int32} {i n : Nat} (h : ∀ j, i ≤ j → j < i + n → own_dig g j) : 0 ≤ own_val g i n := by
  induction n with
  | zero => exact Int.le_refl 0
  | succ n ih =>
    have h1 := ih (fun j a b => h j a (by omega))
    have h2 := h (i + n) (by omega) (by omega)
    show 0 ≤ own_val g i n * 10 + ((g (i + n)).toInt - 48)
    omega
theorem own_valm {g : Nat → Int32} {i m : Nat} : ∀ n, m ≤ n → (∀ j, i ≤ j → j < i + n → own_dig g j) → own_val g i m ≤ own_val g i n := by
  intro n
  induction n with
  | zero =>
    intro h _
    have : m = 0 := by omega
    subst this
    exact Int.le_refl _
  | succ n ih =>
    intro h d
    by_cases hm : m = n + 1
    · subst hm
      exact Int.le_refl _
    · have h1 := ih (by omega) (fun j a b => d j a (by omega))
      have h2 := d (i + n) (by omega) (by omega)
      have h3 := own_val0 (g := g) (i := i) (n := n) (fun j a b => d j a (by omega))
      show own_val g i m ≤ own_val g i n * 10 + ((g (i + n)).toInt - 48)
      omega
/-- where the digits begin, and whether the text is a number that fits -/
def own_i0 (g : Nat → Int32) (fr : Nat) : Nat := if fr < 22 ∧ ((g fr).toInt = 45 ∨ (g fr).toInt = 43) then fr + 1 else fr
def own_lim (g : Nat → Int32) (fr : Nat) : Int := if (g fr).toInt = 45 then 9223372036854775808 else 9223372036854775807
def own_ok (g : Nat → Int32) (fr : Nat) : Prop := own_i0 g fr < 22 ∧ (∀ j, own_i0 g fr ≤ j → j < 22 → own_dig g j) ∧ own_val g (own_i0 g fr) (22 - own_i0 g fr) ≤ own_lim g fr
def own_res (g : Nat → Int32) (fr : Nat) : Int := if (g fr).toInt = 45 then - own_val g (own_i0 g fr) (22 - own_i0 g fr) else own_val g (own_i0 g fr) (22 - own_i0 g fr)
theorem own_noB {g : Nat → Int32} {fr p : Nat} (h1 : own_i0 g fr ≤ p) (h2 : p < 22) (h3 : ¬ own_dig g p) : ¬ own_ok g fr := fun h => h3 (h.2.1 p h1 h2)
theorem own_lim63 (g : Nat → Int32) (fr : Nat) : own_lim g fr ≤ 9223372036854775808 := by unfold own_lim; split <;> omega
theorem own_noV {g : Nat → Int32} {fr m : Nat} (h1 : own_i0 g fr + m ≤ 22) (h2 : 9223372036854775808 < own_val g (own_i0 g fr) m) : ¬ own_ok g fr := fun h => by
  have h3 := own_valm (g := g) (i := own_i0 g fr) (m := m) (22 - own_i0 g fr) (by omega) (fun j a b => h.2.1 j a (by omega))
  have h4 := own_lim63 g fr
  have := h.2.2
  omega
theorem own_nar {d : Int32} (h1 : 0 ≤ d.toInt) (h2 : d.toInt < 65536) : nar .char d = d := by
  apply Int32.toInt_inj.mp
  show d.toUInt32.toUInt16.toUInt32.toInt32.toInt = d.toInt
  have := c_i2c d
  omega
theorem own_chr {x : Int64} (h1 : 0 ≤ x.toInt) (h2 : x.toInt < 65536) : (nar .char (x.toInt32.toUInt32.toUInt16.toUInt32.toInt32)).toInt = x.toInt := by
  have a1 := c_l2i x
  have a2 := c_i2c x.toInt32
  rw [own_nar (by omega) (by omega)]
  have := rng32 x.toInt32
  omega
theorem own_addJ {x y : Int64} (h1 : -9223372036854775808 ≤ x.toInt + y.toInt) (h2 : x.toInt + y.toInt < 9223372036854775808) : (x + y).toInt = x.toInt + y.toInt := by
  have := c_ladd x y; have := rng64 (x + y); omega
theorem own_dd {d : Int32} {x : Nat} (h : d.toInt = 48 + ((x % 10 : Nat) : Int)) : (nar .char d).toInt = 48 + ((x % 10 : Nat) : Int) := by
  rw [own_nar (by omega) (by omega)]; exact h
theorem own_dj (n i : Nat) : (n / 10) / 10 ^ i % 10 = n / 10 ^ (i + 1) % 10 := by
  rw [Nat.div_div_eq_div_mul, Nat.pow_succ, Nat.mul_comm]
theorem own_vk {g : Nat → Int32} {n K : Nat} (hK : K ≤ 20) (hg : ∀ j, j < K → (g (21 - j)).toInt = 48 + ((n / 10 ^ j % 10 : Nat) : Int)) : ∀ m, m ≤ K → own_val g (22 - K) m = ((n % 10 ^ K / 10 ^ (K - m) : Nat) : Int) := by
  intro m
  induction m with
  | zero =>
    intro _
    show (0 : Int) = _
    rw [Nat.sub_zero, Nat.div_eq_of_lt (Nat.mod_lt _ (Nat.pow_pos (by omega)))]
    rfl
  | succ m ih =>
    intro hm
    have h1 := ih (by omega)
    have h2 := hg (K - m - 1) (by omega)
    show own_val g (22 - K) m * 10 + ((g (22 - K + m)).toInt - 48) = _
    rw [show 22 - K + m = 21 - (K - m - 1) by omega, h2, h1]
    have e1 : 10 ^ (K - m) = 10 ^ (K - m - 1) * 10 := by rw [← Nat.pow_succ]; congr 1; omega
    have e2 : n % 10 ^ K / 10 ^ (K - m) = n % 10 ^ K / 10 ^ (K - m - 1) / 10 := by rw [e1, Nat.div_div_eq_div_mul]
    have e3 : n / 10 ^ (K - m - 1) % 10 = n % 10 ^ K / 10 ^ (K - m - 1) % 10 := by
      have e4 : 10 ^ K = 10 ^ (K - m - 1) * 10 ^ (m + 1) := by rw [← Nat.pow_add]; congr 1; omega
      rw [e4, Nat.mod_mul_right_div_self, Nat.pow_succ, Nat.mul_comm (10 ^ m) 10, Nat.mod_mul_right_mod]
    rw [e2, e3, show K - (m + 1) = K - m - 1 by omega]
    omega
/-- a text of K digits as the law lays them -/
theorem own_clean {g : Nat → Int32} {n K fr : Nat} {nv : Int32} (hK : K ≤ 20) (hg : ∀ j, j < K → (g (21 - j)).toInt = 48 + ((n / 10 ^ j % 10 : Nat) : Int)) (hs : (fr + K = 22 ∧ nv = 0) ∨ (fr + K = 21 ∧ ((nv = 1 ∧ (g fr).toInt = 45) ∨ (nv = 0 ∧ (g fr).toInt = 43)))) :
    own_i0 g fr = 22 - K ∧ (1 ≤ K → ((g fr).toInt = 45 ↔ nv = 1)) := by
  rcases hs with ⟨h1, h2⟩ | ⟨h1, ⟨h2, h3⟩ | ⟨h2, h3⟩⟩
  · by_cases hk : K = 0
    · subst hk
      refine ⟨?_, fun q => by omega⟩
      unfold own_i0
      rw [if_neg (by omega)]; omega
    · have h4 := hg (K - 1) (by omega)
      rw [show 21 - (K - 1) = fr by omega] at h4
      refine ⟨?_, fun _ => ⟨fun q => by omega, fun q => by rw [h2] at q; exact absurd q (by decide)⟩⟩
      unfold own_i0
      rw [if_neg (by omega)]; omega
  · refine ⟨?_, fun _ => ⟨fun _ => h2, fun _ => h3⟩⟩
    unfold own_i0
    rw [if_pos ⟨by omega, Or.inl h3⟩]; omega
  · refine ⟨?_, fun _ => ⟨fun q => by omega, fun q => by rw [h2] at q; exact absurd q (by decide)⟩⟩
    unfold own_i0
    rw [if_pos ⟨by omega, Or.inr h3⟩]; omega
theorem own_cleanok {g : Nat → Int32} {n K fr : Nat} {nv : Int32} (hK : K ≤ 20) (hK1 : 1 ≤ K) (hg : ∀ j, j < K → (g (21 - j)).toInt = 48 + ((n / 10 ^ j % 10 : Nat) : Int)) (hi : own_i0 g fr = 22 - K) (hn : (g fr).toInt = 45 ↔ nv = 1) :
    (own_ok g fr ↔ ((n % 10 ^ K : Nat) : Int) ≤ if nv = 1 then 9223372036854775808 else 9223372036854775807) ∧ own_res g fr = if nv = 1 then - ((n % 10 ^ K : Nat) : Int) else ((n % 10 ^ K : Nat) : Int) := by
  have hv : own_val g (own_i0 g fr) (22 - own_i0 g fr) = ((n % 10 ^ K : Nat) : Int) := by
    rw [hi, show 22 - (22 - K) = K by omega, own_vk hK hg K (Nat.le_refl _), Nat.sub_self, Nat.pow_zero, Nat.div_one]
  constructor
  · unfold own_ok own_lim
    rw [hv]
    constructor
    · intro h
      have := h.2.2
      by_cases q : nv = 1
      · rw [if_pos (hn.mpr q)] at this; rw [if_pos q]; exact this
      · rw [if_neg (fun z => q (hn.mp z))] at this; rw [if_neg q]; exact this
    · intro h
      refine ⟨by omega, fun j h1 h2 => ?_, ?_⟩
      · have := hg (21 - j) (by omega)
        rw [show 21 - (21 - j) = j by omega] at this
        constructor <;> omega
      · by_cases q : nv = 1
        · rw [if_pos (hn.mpr q)]; rw [if_pos q] at h; exact h
        · rw [if_neg (fun z => q (hn.mp z))]; rw [if_neg q] at h; exact h
  · unfold own_res
    rw [hv]
    by_cases q : nv = 1
    · rw [if_pos (hn.mpr q), if_pos q]
    · rw [if_neg (fun z => q (hn.mp z)), if_neg q]
theorem own_no0 {g : Nat → Int32} {fr : Nat} (hi : own_i0 g fr = 22) : ¬ own_ok g fr := fun h => by have := h.1; omega
theorem own_up_g {g : Nat → Int32} {fr i : Nat} {x : Int32} : own_up (fun i => Value.int (g i)) fr (.int x) i = .int (if i = fr then x else g i) := by
  unfold own_up
  split <;> rfl
theorem own_up_l {f : Nat → Int64} {a i : Nat} {x : Int64} : own_up (fun i => Value.long (f i)) a (.long x) i = .long (if i = a then x else f i) := by
  unfold own_up
  split <;> rfl
set_option maxRecDepth 65536 in
set_option maxHeartbeats 40000000 in
theorem rm2 (l : Launch) (Z : State) (a0 : Array Value) (hw : ∀ d ∈ tables_1, d.before a0 Z = true) (ws : List Jvm.Cond) (n1 : Int32) (h0 : Heap) (n0 : Nat) (Z0 : n0 ≤ h0.size) (i : Nat) (hn : n1.toInt = i) (hi : i < 19) :
    own_Met l (⟨"com/example/ordinate/ordinate/sql/NumbersParseIntegerPinLaw", "pow10", "(I)J"⟩ : MethodName) method_2_code 2 (some .long) ws ({ frames := 0, cells := 1, slots := 19, locals := 0 } : Room) #[(.int n1)] Z h0 (fun v h L => v = some (.long (own_p i)) ∧ Fr n0 L ∧ Keep h0 h []) := by
  refine own_body (plainFor_of_name pn_NumbersParseIntegerPinLaw) ?_
  intro p e s m below meth c s0 X0 hx hby hml hret hlk hown hnm hZ e0
  replace hown : s.vm.findClass "com/example/ordinate/ordinate/sql/NumbersParseIntegerPinLaw" = some m.cls := hown
  have N0 := Fr.nil n0
  have ef : entryFrame m #[(.int n1)] 2 = (mkF m 0 #[.val (.int n1), .unset] []) := by first | (simp [entryFrame, mkF, argsToLocals, Value.category, maxLocals]; done) | rfl
  rw [ef]
  show own_End p e below s _ _ _ (s0.setTop (mkF m 0 #[.val (.int n1), .unset] []))
  have K1 := Keep.refl h0 []
  refine own_go (fun t k => XS.bipush X0.here hx rfl (hb hby d2_0) k) ?_
  show own_End p e below s _ _ _ (s0.setTop (mkF m 2 #[.val (.int n1), .unset] [(.int (19 : Int32))]))
  obtain ⟨T2, h2, k2, X2, e2, E2, A2, st2⟩ := newP X0 hx hZ (hw _ (List.mem_of_getElem? (i := 11) rfl)) e0 (g := (mkF m 2 #[.val (.int n1), .unset] [(.int (19 : Int32))])) rfl (hb hby d2_2) rfl (by decide) (cap := 19) (by decide) (by decide) (by decide) (by decide)
  obtain ⟨b2, gb2⟩ : ∃ z, z = h0.size := ⟨_, rfl⟩
  rw [← gb2] at A2 st2
  have F2 := own_F.new A2 (n := 19) (by decide) (by decide)
  have nb2 : n0 ≤ b2 := by rw [gb2]; exact Z0
  have Z2 : n0 ≤ h2.size := Nat.le_trans Z0 E2.1
  have sb2 : h0.size ≤ b2 := by rw [gb2]; exact K1.1
  have K3 := K1.ext E2
  refine own_go st2 ?_
  show own_End p e below s _ _ _ (T2.setTop (mkF m 4 #[.val (.int n1), .unset] [(.ref b2)]))
  refine own_go (fun t k => XS.dup X2.here hx rfl (hb hby d2_4) rfl rfl k) ?_
  show own_End p e below s _ _ _ (T2.setTop (mkF m 5 #[.val (.int n1), .unset] [(.ref b2), (.ref b2)]))
  refine own_go (fun t k => XS.iconst X2.here hx rfl (hb hby d2_5) k) ?_
  show own_End p e below s _ _ _ (T2.setTop (mkF m 6 #[.val (.int n1), .unset] [(.int (0 : Int32)), (.ref b2), (.ref b2)]))
  refine own_go (fun t k => XT.lconst X2.here hx rfl (hb hby d2_6) k) ?_
  show own_End p e below s _ _ _ (T2.setTop (mkF m 7 #[.val (.int n1), .unset] [(.long (1 : Int64)), (.int (0 : Int32)), (.ref b2), (.ref b2)]))
  obtain ⟨T4, h4, X4, e4, W4, F4, st4⟩ := own_fstJ X2 hx hZ e2 F2 (j := (0 : Int32)) (y := (1 : Int64)) 0 (by decide) (by decide) (pc := 7) (Ls := #[.val (.int n1), .unset]) (rest := [(.ref b2)]) (hb hby d2_7)
  have N4 := Fr.snoc X4 N0 nb2
  have Z4 : n0 ≤ h4.size := by rw [W4.size]; exact Z2
  refine own_go st4 ?_
  have K5 := K3.wr W4 (Or.inr sb2)
  show own_End p e below s _ _ _ (T4.setTop (mkF m 8 #[.val (.int n1), .unset] [(.ref b2)]))
  refine own_go (fun t k => XS.dup X4.here hx rfl (hb hby d2_8) rfl rfl k) ?_
  show own_End p e below s _ _ _ (T4.setTop (mkF m 9 #[.val (.int n1), .unset] [(.ref b2), (.ref b2)]))
  refine own_go (fun t k => XS.iconst X4.here hx rfl (hb hby d2_9) k) ?_
  show own_End p e below s _ _ _ (T4.setTop (mkF m 10 #[.val (.int n1), .unset] [(.int (1 : Int32)), (.ref b2), (.ref b2)]))
  refine own_go (X4.ldc2Long (own := "com/example/ordinate/ordinate/sql/NumbersParseIntegerPinLaw") (index := 7) (v := 10) hx hown (mvT hZ (hw _ (List.mem_of_getElem? (i := 1) rfl))) (g := (mkF m 10 #[.val (.int n1), .unset] [(.int (1 : Int32)), (.ref b2), (.ref b2)])) rfl (hb hby d2_10)) ?_
  show own_End p e below s _ _ _ (T4.setTop (mkF m 13 #[.val (.int n1), .unset] [(.long (10 : Int64)), (.int (1 : Int32)), (.ref b2), (.ref b2)]))
  obtain ⟨T7, h7, X7, e7, W7, F7, st7⟩ := own_fstJ X4 hx hZ e4 F4 (j := (1 : Int32)) (y := (10 : Int64)) 1 (by decide) (by decide) (pc := 13) (Ls := #[.val (.int n1), .unset]) (rest := [(.ref b2)]) (hb hby d2_13)
  have N7 := Fr.snoc X7 N4 nb2
  have Z7 : n0 ≤ h7.size := by rw [W7.size]; exact Z4
  refine own_go st7 ?_
  have K8 := K5.wr W7 (Or.inr sb2)
  show own_End p e below s _ _ _ (T7.setTop (mkF m 14 #[.val (.int n1), .unset] [(.ref b2)]))
  refine own_go (fun t k => XS.dup X7.here hx rfl (hb hby d2_14) rfl rfl k) ?_
  show own_End p e below s _ _ _ (T7.setTop (mkF m 15 #[.val (.int n1), .unset] [(.ref b2), (.ref b2)]))
  refine own_go (fun t k => XS.iconst X7.here hx rfl (hb hby d2_15) k) ?_
  show own_End p e below s _ _ _ (T7.setTop (mkF m 16 #[.val (.int n1), .unset] [(.int (2 : Int32)), (.ref b2), (.ref b2)]))
  refine own_go (X7.ldc2Long (own := "com/example/ordinate/ordinate/sql/NumbersParseIntegerPinLaw") (index := 9) (v := 100) hx hown (mvT hZ (hw _ (List.mem_of_getElem? (i := 12) rfl))) (g := (mkF m 16 #[.val (.int n1), .unset] [(.int (2 : Int32)), (.ref b2), (.ref b2)])) rfl (hb hby d2_16)) ?_
  show own_End p e below s _ _ _ (T7.setTop (mkF m 19 #[.val (.int n1), .unset] [(.long (100 : Int64)), (.int (2 : Int32)), (.ref b2), (.ref b2)]))
  obtain ⟨T10, h10, X10, e10, W10, F10, st10⟩ := own_fstJ X7 hx hZ e7 F7 (j := (2 : Int32)) (y := (100 : Int64)) 2 (by decide) (by decide) (pc := 19) (Ls := #[.val (.int n1), .unset]) (rest := [(.ref b2)]) (hb hby d2_19)
  have N10 := Fr.snoc X10 N7 nb2
  have Z10 : n0 ≤ h10.size := by rw [W10.size]; exact Z7
  refine own_go st10 ?_
  have K11 := K8.wr W10 (Or.inr sb2)
  show own_End p e below s _ _ _ (T10.setTop (mkF m 20 #[.val (.int n1), .unset] [(.ref b2)]))
  refine own_go (fun t k => XS.dup X10.here hx rfl (hb hby d2_20) rfl rfl k) ?_
  show own_End p e below s _ _ _ (T10.setTop (mkF m 21 #[.val (.int n1), .unset] [(.ref b2), (.ref b2)]))
  refine own_go (fun t k => XS.iconst X10.here hx rfl (hb hby d2_21) k) ?_
  show own_End p e below s _ _ _ (T10.setTop (mkF m 22 #[.val (.int n1), .unset] [(.int (3 : Int32)), (.ref b2), (.ref b2)]))
  refine own_go (X10.ldc2Long (own := "com/example/ordinate/ordinate/sql/NumbersParseIntegerPinLaw") (index := 11) (v := 1000) hx hown (mvT hZ (hw _ (List.mem_of_getElem? (i := 13) rfl))) (g := (mkF m 22 #[.val (.int n1), .unset] [(.int (3 : Int32)), (.ref b2), (.ref b2)])) rfl (hb hby d2_22)) ?_
  show own_End p e below s _ _ _ (T10.setTop (mkF m 25 #[.val (.int n1), .unset] [(.long (1000 : Int64)), (.int (3 : Int32)), (.ref b2), (.ref b2)]))
  obtain ⟨T13, h13, X13, e13, W13, F13, st13⟩ := own_fstJ X10 hx hZ e10 F10 (j := (3 : Int32)) (y := (1000 : Int64)) 3 (by decide) (by decide) (pc := 25) (Ls := #[.val (.int n1), .unset]) (rest := [(.ref b2)]) (hb hby d2_25)
  have N13 := Fr.snoc X13 N10 nb2
  have Z13 : n0 ≤ h13.size := by rw [W13.size]; exact Z10
  refine own_go st13 ?_
  have K14 := K11.wr W13 (Or.inr sb2)
  show own_End p e below s _ _ _ (T13.setTop (mkF m 26 #[.val (.int n1), .unset] [(.ref b2)]))
  refine own_go (fun t k => XS.dup X13.here hx rfl (hb hby d2_26) rfl rfl k) ?_
  show own_End p e below s _ _ _ (T13.setTop (mkF m 27 #[.val (.int n1), .unset] [(.ref b2), (.ref b2)]))
  refine own_go (fun t k => XS.iconst X13.here hx rfl (hb hby d2_27) k) ?_
  show own_End p e below s _ _ _ (T13.setTop (mkF m 28 #[.val (.int n1), .unset] [(.int (4 : Int32)), (.ref b2), (.ref b2)]))
  refine own_go (X13.ldc2Long (own := "com/example/ordinate/ordinate/sql/NumbersParseIntegerPinLaw") (index := 13) (v := 10000) hx hown (mvT hZ (hw _ (List.mem_of_getElem? (i := 14) rfl))) (g := (mkF m 28 #[.val (.int n1), .unset] [(.int (4 : Int32)), (.ref b2), (.ref b2)])) rfl (hb hby d2_28)) ?_
  show own_End p e below s _ _ _ (T13.setTop (mkF m 31 #[.val (.int n1), .unset] [(.long (10000 : Int64)), (.int (4 : Int32)), (.ref b2), (.ref b2)]))
  obtain ⟨T16, h16, X16, e16, W16, F16, st16⟩ := own_fstJ X13 hx hZ e13 F13 (j := (4 : Int32)) (y := (10000 : Int64)) 4 (by decide) (by decide) (pc := 31) (Ls := #[.val (.int n1), .unset]) (rest := [(.ref b2)]) (hb hby d2_31)
  have N16 := Fr.snoc X16 N13 nb2
  have Z16 : n0 ≤ h16.size := by rw [W16.size]; exact Z13
  refine own_go st16 ?_
  have K17 := K14.wr W16 (Or.inr sb2)
  show own_End p e below s _ _ _ (T16.setTop (mkF m 32 #[.val (.int n1), .unset] [(.ref b2)]))
  refine own_go (fun t k => XS.dup X16.here hx rfl (hb hby d2_32) rfl rfl k) ?_
  show own_End p e below s _ _ _ (T16.setTop (mkF m 33 #[.val (.int n1), .unset] [(.ref b2), (.ref b2)]))
  refine own_go (fun t k => XS.iconst X16.here hx rfl (hb hby d2_33) k) ?_
  show own_End p e below s _ _ _ (T16.setTop (mkF m 34 #[.val (.int n1), .unset] [(.int (5 : Int32)), (.ref b2), (.ref b2)]))
  refine own_go (X16.ldc2Long (own := "com/example/ordinate/ordinate/sql/NumbersParseIntegerPinLaw") (index := 15) (v := 100000) hx hown (mvT hZ (hw _ (List.mem_of_getElem? (i := 15) rfl))) (g := (mkF m 34 #[.val (.int n1), .unset] [(.int (5 : Int32)), (.ref b2), (.ref b2)])) rfl (hb hby d2_34)) ?_
  show own_End p e below s _ _ _ (T16.setTop (mkF m 37 #[.val (.int n1), .unset] [(.long (100000 : Int64)), (.int (5 : Int32)), (.ref b2), (.ref b2)]))
  obtain ⟨T19, h19, X19, e19, W19, F19, st19⟩ := own_fstJ X16 hx hZ e16 F16 (j := (5 : Int32)) (y := (100000 : Int64)) 5 (by decide) (by decide) (pc := 37) (Ls := #[.val (.int n1), .unset]) (rest := [(.ref b2)]) (hb hby d2_37)
  have N19 := Fr.snoc X19 N16 nb2
  have Z19 : n0 ≤ h19.size := by rw [W19.size]; exact Z16
  refine own_go st19 ?_
  have K20 := K17.wr W19 (Or.inr sb2)
  show own_End p e below s _ _ _ (T19.setTop (mkF m 38 #[.val (.int n1), .unset] [(.ref b2)]))
  refine own_go (fun t k => XS.dup X19.here hx rfl (hb hby d2_38) rfl rfl k) ?_
  show own_End p e below s _ _ _ (T19.setTop (mkF m 39 #[.val (.int n1), .unset] [(.ref b2), (.ref b2)]))
  refine own_go (fun t k => XS.bipush X19.here hx rfl (hb hby d2_39) k) ?_
  show own_End p e below s _ _ _ (T19.setTop (mkF m 41 #[.val (.int n1), .unset] [(.int (6 : Int32)), (.ref b2), (.ref b2)]))
  refine own_go (X19.ldc2Long (own := "com/example/ordinate/ordinate/sql/NumbersParseIntegerPinLaw") (index := 17) (v := 1000000) hx hown (mvT hZ (hw _ (List.mem_of_getElem? (i := 16) rfl))) (g := (mkF m 41 #[.val (.int n1), .unset] [(.int (6 : Int32)), (.ref b2), (.ref b2)])) rfl (hb hby d2_41)) ?_
  show own_End p e below s _ _ _ (T19.setTop (mkF m 44 #[.val (.int n1), .unset] [(.long (1000000 : Int64)), (.int (6 : Int32)), (.ref b2), (.ref b2)]))
  obtain ⟨T22, h22, X22, e22, W22, F22, st22⟩ := own_fstJ X19 hx hZ e19 F19 (j := (6 : Int32)) (y := (1000000 : Int64)) 6 (by decide) (by decide) (pc := 44) (Ls := #[.val (.int n1), .unset]) (rest := [(.ref b2)]) (hb hby d2_44)
  have N22 := Fr.snoc X22 N19 nb2
  have Z22 : n0 ≤ h22.size := by rw [W22.size]; exact Z19
  refine own_go st22 ?_
  have K23 := K20.wr W22 (Or.inr sb2)
  show own_End p e below s _ _ _ (T22.setTop (mkF m 45 #[.val (.int n1), .unset] [(.ref b2)]))
  refine own_go (fun t k => XS.dup X22.here hx rfl (hb hby d2_45) rfl rfl k) ?_
  show own_End p e below s _ _ _ (T22.setTop (mkF m 46 #[.val (.int n1), .unset] [(.ref b2), (.ref b2)]))
  refine own_go (fun t k => XS.bipush X22.here hx rfl (hb hby d2_46) k) ?_
  show own_End p e below s _ _ _ (T22.setTop (mkF m 48 #[.val (.int n1), .unset] [(.int (7 : Int32)), (.ref b2), (.ref b2)]))
  refine own_go (X22.ldc2Long (own := "com/example/ordinate/ordinate/sql/NumbersParseIntegerPinLaw") (index := 19) (v := 10000000) hx hown (mvT hZ (hw _ (List.mem_of_getElem? (i := 17) rfl))) (g := (mkF m 48 #[.val (.int n1), .unset] [(.int (7 : Int32)), (.ref b2), (.ref b2)])) rfl (hb hby d2_48)) ?_
  show own_End p e below s _ _ _ (T22.setTop (mkF m 51 #[.val (.int n1), .unset] [(.long (10000000 : Int64)), (.int (7 : Int32)), (.ref b2), (.ref b2)]))
  obtain ⟨T25, h25, X25, e25, W25, F25, st25⟩ := own_fstJ X22 hx hZ e22 F22 (j := (7 : Int32)) (y := (10000000 : Int64)) 7 (by decide) (by decide) (pc := 51) (Ls := #[.val (.int n1), .unset]) (rest := [(.ref b2)]) (hb hby d2_51)
  have N25 := Fr.snoc X25 N22 nb2
  have Z25 : n0 ≤ h25.size := by rw [W25.size]; exact Z22
  refine own_go st25 ?_
  have K26 := K23.wr W25 (Or.inr sb2)
  show own_End p e below s _ _ _ (T25.setTop (mkF m 52 #[.val (.int n1), .unset] [(.ref b2)]))
  refine own_go (fun t k => XS.dup X25.here hx rfl (hb hby d2_52) rfl rfl k) ?_
  show own_End p e below s _ _ _ (T25.setTop (mkF m 53 #[.val (.int n1), .unset] [(.ref b2), (.ref b2)]))
  refine own_go (fun t k => XS.bipush X25.here hx rfl (hb hby d2_53) k) ?_
  show own_End p e below s _ _ _ (T25.setTop (mkF m 55 #[.val (.int n1), .unset] [(.int (8 : Int32)), (.ref b2), (.ref b2)]))
  refine own_go (X25.ldc2Long (own := "com/example/ordinate/ordinate/sql/NumbersParseIntegerPinLaw") (index := 21) (v := 100000000) hx hown (mvT hZ (hw _ (List.mem_of_getElem? (i := 18) rfl))) (g := (mkF m 55 #[.val (.int n1), .unset] [(.int (8 : Int32)), (.ref b2), (.ref b2)])) rfl (hb hby d2_55)) ?_
  show own_End p e below s _ _ _ (T25.setTop (mkF m 58 #[.val (.int n1), .unset] [(.long (100000000 : Int64)), (.int (8 : Int32)), (.ref b2), (.ref b2)]))
  obtain ⟨T28, h28, X28, e28, W28, F28, st28⟩ := own_fstJ X25 hx hZ e25 F25 (j := (8 : Int32)) (y := (100000000 : Int64)) 8 (by decide) (by decide) (pc := 58) (Ls := #[.val (.int n1), .unset]) (rest := [(.ref b2)]) (hb hby d2_58)
  have N28 := Fr.snoc X28 N25 nb2
  have Z28 : n0 ≤ h28.size := by rw [W28.size]; exact Z25
  refine own_go st28 ?_
  have K29 := K26.wr W28 (Or.inr sb2)
  show own_End p e below s _ _ _ (T28.setTop (mkF m 59 #[.val (.int n1), .unset] [(.ref b2)]))
  refine own_go (fun t k => XS.dup X28.here hx rfl (hb hby d2_59) rfl rfl k) ?_
  show own_End p e below s _ _ _ (T28.setTop (mkF m 60 #[.val (.int n1), .unset] [(.ref b2), (.ref b2)]))
  refine own_go (fun t k => XS.bipush X28.here hx rfl (hb hby d2_60) k) ?_
  show own_End p e below s _ _ _ (T28.setTop (mkF m 62 #[.val (.int n1), .unset] [(.int (9 : Int32)), (.ref b2), (.ref b2)]))
  refine own_go (X28.ldc2Long (own := "com/example/ordinate/ordinate/sql/NumbersParseIntegerPinLaw") (index := 23) (v := 1000000000) hx hown (mvT hZ (hw _ (List.mem_of_getElem? (i := 19) rfl))) (g := (mkF m 62 #[.val (.int n1), .unset] [(.int (9 : Int32)), (.ref b2), (.ref b2)])) rfl (hb hby d2_62)) ?_
  show own_End p e below s _ _ _ (T28.setTop (mkF m 65 #[.val (.int n1), .unset] [(.long (1000000000 : Int64)), (.int (9 : Int32)), (.ref b2), (.ref b2)]))
  obtain ⟨T31, h31, X31, e31, W31, F31, st31⟩ := own_fstJ X28 hx hZ e28 F28 (j := (9 : Int32)) (y := (1000000000 : Int64)) 9 (by decide) (by decide) (pc := 65) (Ls := #[.val (.int n1), .unset]) (rest := [(.ref b2)]) (hb hby d2_65)
  have N31 := Fr.snoc X31 N28 nb2
  have Z31 : n0 ≤ h31.size := by rw [W31.size]; exact Z28
  refine own_go st31 ?_
  have K32 := K29.wr W31 (Or.inr sb2)
  show own_End p e below s _ _ _ (T31.setTop (mkF m 66 #[.val (.int n1), .unset] [(.ref b2)]))
  refine own_go (fun t k => XS.dup X31.here hx rfl (hb hby d2_66) rfl rfl k) ?_
  show own_End p e below s _ _ _ (T31.setTop (mkF m 67 #[.val (.int n1), .unset] [(.ref b2), (.ref b2)]))
  refine own_go (fun t k => XS.bipush X31.here hx rfl (hb hby d2_67) k) ?_
  show own_End p e below s _ _ _ (T31.setTop (mkF m 69 #[.val (.int n1), .unset] [(.int (10 : Int32)), (.ref b2), (.ref b2)]))
  refine own_go (X31.ldc2Long (own := "com/example/ordinate/ordinate/sql/NumbersParseIntegerPinLaw") (index := 25) (v := 10000000000) hx hown (mvT hZ (hw _ (List.mem_of_getElem? (i := 20) rfl))) (g := (mkF m 69 #[.val (.int n1), .unset] [(.int (10 : Int32)), (.ref b2), (.ref b2)])) rfl (hb hby d2_69)) ?_
  show own_End p e below s _ _ _ (T31.setTop (mkF m 72 #[.val (.int n1), .unset] [(.long (10000000000 : Int64)), (.int (10 : Int32)), (.ref b2), (.ref b2)]))
  obtain ⟨T34, h34, X34, e34, W34, F34, st34⟩ := own_fstJ X31 hx hZ e31 F31 (j := (10 : Int32)) (y := (10000000000 : Int64)) 10 (by decide) (by decide) (pc := 72) (Ls := #[.val (.int n1), .unset]) (rest := [(.ref b2)]) (hb hby d2_72)
  have N34 := Fr.snoc X34 N31 nb2
  have Z34 : n0 ≤ h34.size := by rw [W34.size]; exact Z31
  refine own_go st34 ?_
  have K35 := K32.wr W34 (Or.inr sb2)
  show own_End p e below s _ _ _ (T34.setTop (mkF m 73 #[.val (.int n1), .unset] [(.ref b2)]))
  refine own_go (fun t k => XS.dup X34.here hx rfl (hb hby d2_73) rfl rfl k) ?_
  show own_End p e below s _ _ _ (T34.setTop (mkF m 74 #[.val (.int n1), .unset] [(.ref b2), (.ref b2)]))
  refine own_go (fun t k => XS.bipush X34.here hx rfl (hb hby d2_74) k) ?_
  show own_End p e below s _ _ _ (T34.setTop (mkF m 76 #[.val (.int n1), .unset] [(.int (11 : Int32)), (.ref b2), (.ref b2)]))
  refine own_go (X34.ldc2Long (own := "com/example/ordinate/ordinate/sql/NumbersParseIntegerPinLaw") (index := 27) (v := 100000000000) hx hown (mvT hZ (hw _ (List.mem_of_getElem? (i := 21) rfl))) (g := (mkF m 76 #[.val (.int n1), .unset] [(.int (11 : Int32)), (.ref b2), (.ref b2)])) rfl (hb hby d2_76)) ?_
  show own_End p e below s _ _ _ (T34.setTop (mkF m 79 #[.val (.int n1), .unset] [(.long (100000000000 : Int64)), (.int (11 : Int32)), (.ref b2), (.ref b2)]))
  obtain ⟨T37, h37, X37, e37, W37, F37, st37⟩ := own_fstJ X34 hx hZ e34 F34 (j := (11 : Int32)) (y := (100000000000 : Int64)) 11 (by decide) (by decide) (pc := 79) (Ls := #[.val (.int n1), .unset]) (rest := [(.ref b2)]) (hb hby d2_79)
  have N37 := Fr.snoc X37 N34 nb2
  have Z37 : n0 ≤ h37.size := by rw [W37.size]; exact Z34
  refine own_go st37 ?_
  have K38 := K35.wr W37 (Or.inr sb2)
  show own_End p e below s _ _ _ (T37.setTop (mkF m 80 #[.val (.int n1), .unset] [(.ref b2)]))
  refine own_go (fun t k => XS.dup X37.here hx rfl (hb hby d2_80) rfl rfl k) ?_
  show own_End p e below s _ _ _ (T37.setTop (mkF m 81 #[.val (.int n1), .unset] [(.ref b2), (.ref b2)]))
  refine own_go (fun t k => XS.bipush X37.here hx rfl (hb hby d2_81) k) ?_
  show own_End p e below s _ _ _ (T37.setTop (mkF m 83 #[.val (.int n1), .unset] [(.int (12 : Int32)), (.ref b2), (.ref b2)]))
  refine own_go (X37.ldc2Long (own := "com/example/ordinate/ordinate/sql/NumbersParseIntegerPinLaw") (index := 29) (v := 1000000000000) hx hown (mvT hZ (hw _ (List.mem_of_getElem? (i := 22) rfl))) (g := (mkF m 83 #[.val (.int n1), .unset] [(.int (12 : Int32)), (.ref b2), (.ref b2)])) rfl (hb hby d2_83)) ?_
  show own_End p e below s _ _ _ (T37.setTop (mkF m 86 #[.val (.int n1), .unset] [(.long (1000000000000 : Int64)), (.int (12 : Int32)), (.ref b2), (.ref b2)]))
  obtain ⟨T40, h40, X40, e40, W40, F40, st40⟩ := own_fstJ X37 hx hZ e37 F37 (j := (12 : Int32)) (y := (1000000000000 : Int64)) 12 (by decide) (by decide) (pc := 86) (Ls := #[.val (.int n1), .unset]) (rest := [(.ref b2)]) (hb hby d2_86)
  have N40 := Fr.snoc X40 N37 nb2
  have Z40 : n0 ≤ h40.size := by rw [W40.size]; exact Z37
  refine own_go st40 ?_
  have K41 := K38.wr W40 (Or.inr sb2)
  show own_End p e below s _ _ _ (T40.setTop (mkF m 87 #[.val (.int n1), .unset] [(.ref b2)]))
  refine own_go (fun t k => XS.dup X40.here hx rfl (hb hby d2_87) rfl rfl k) ?_
  show own_End p e below s _ _ _ (T40.setTop (mkF m 88 #[.val (.int n1), .unset] [(.ref b2), (.ref b2)]))
  refine own_go (fun t k => XS.bipush X40.here hx rfl (hb hby d2_88) k) ?_
  show own_End p e below s _ _ _ (T40.setTop (mkF m 90 #[.val (.int n1), .unset] [(.int (13 : Int32)), (.ref b2), (.ref b2)]))
  refine own_go (X40.ldc2Long (own := "com/example/ordinate/ordinate/sql/NumbersParseIntegerPinLaw") (index := 31) (v := 10000000000000) hx hown (mvT hZ (hw _ (List.mem_of_getElem? (i := 23) rfl))) (g := (mkF m 90 #[.val (.int n1), .unset] [(.int (13 : Int32)), (.ref b2), (.ref b2)])) rfl (hb hby d2_90)) ?_
  show own_End p e below s _ _ _ (T40.setTop (mkF m 93 #[.val (.int n1), .unset] [(.long (10000000000000 : Int64)), (.int (13 : Int32)), (.ref b2), (.ref b2)]))
  obtain ⟨T43, h43, X43, e43, W43, F43, st43⟩ := own_fstJ X40 hx hZ e40 F40 (j := (13 : Int32)) (y := (10000000000000 : Int64)) 13 (by decide) (by decide) (pc := 93) (Ls := #[.val (.int n1), .unset]) (rest := [(.ref b2)]) (hb hby d2_93)
  have N43 := Fr.snoc X43 N40 nb2
  have Z43 : n0 ≤ h43.size := by rw [W43.size]; exact Z40
  refine own_go st43 ?_
  have K44 := K41.wr W43 (Or.inr sb2)
  show own_End p e below s _ _ _ (T43.setTop (mkF m 94 #[.val (.int n1), .unset] [(.ref b2)]))
  refine own_go (fun t k => XS.dup X43.here hx rfl (hb hby d2_94) rfl rfl k) ?_
  show own_End p e below s _ _ _ (T43.setTop (mkF m 95 #[.val (.int n1), .unset] [(.ref b2), (.ref b2)]))
  refine own_go (fun t k => XS.bipush X43.here hx rfl (hb hby d2_95) k) ?_
  show own_End p e below s _ _ _ (T43.setTop (mkF m 97 #[.val (.int n1), .unset] [(.int (14 : Int32)), (.ref b2), (.ref b2)]))
  refine own_go (X43.ldc2Long (own := "com/example/ordinate/ordinate/sql/NumbersParseIntegerPinLaw") (index := 33) (v := 100000000000000) hx hown (mvT hZ (hw _ (List.mem_of_getElem? (i := 24) rfl))) (g := (mkF m 97 #[.val (.int n1), .unset] [(.int (14 : Int32)), (.ref b2), (.ref b2)])) rfl (hb hby d2_97)) ?_
  show own_End p e below s _ _ _ (T43.setTop (mkF m 100 #[.val (.int n1), .unset] [(.long (100000000000000 : Int64)), (.int (14 : Int32)), (.ref b2), (.ref b2)]))
  obtain ⟨T46, h46, X46, e46, W46, F46, st46⟩ := own_fstJ X43 hx hZ e43 F43 (j := (14 : Int32)) (y := (100000000000000 : Int64)) 14 (by decide) (by decide) (pc := 100) (Ls := #[.val (.int n1), .unset]) (rest := [(.ref b2)]) (hb hby d2_100)
  have N46 := Fr.snoc X46 N43 nb2
  have Z46 : n0 ≤ h46.size := by rw [W46.size]; exact Z43
  refine own_go st46 ?_
  have K47 := K44.wr W46 (Or.inr sb2)
  show own_End p e below s _ _ _ (T46.setTop (mkF m 101 #[.val (.int n1), .unset] [(.ref b2)]))
  refine own_go (fun t k => XS.dup X46.here hx rfl (hb hby d2_101) rfl rfl k) ?_
  show own_End p e below s _ _ _ (T46.setTop (mkF m 102 #[.val (.int n1), .unset] [(.ref b2), (.ref b2)]))
  refine own_go (fun t k => XS.bipush X46.here hx rfl (hb hby d2_102) k) ?_
  show own_End p e below s _ _ _ (T46.setTop (mkF m 104 #[.val (.int n1), .unset] [(.int (15 : Int32)), (.ref b2), (.ref b2)]))
  refine own_go (X46.ldc2Long (own := "com/example/ordinate/ordinate/sql/NumbersParseIntegerPinLaw") (index := 35) (v := 1000000000000000) hx hown (mvT hZ (hw _ (List.mem_of_getElem? (i := 25) rfl))) (g := (mkF m 104 #[.val (.int n1), .unset] [(.int (15 : Int32)), (.ref b2), (.ref b2)])) rfl (hb hby d2_104)) ?_
  show own_End p e below s _ _ _ (T46.setTop (mkF m 107 #[.val (.int n1), .unset] [(.long (1000000000000000 : Int64)), (.int (15 : Int32)), (.ref b2), (.ref b2)]))
  obtain ⟨T49, h49, X49, e49, W49, F49, st49⟩ := own_fstJ X46 hx hZ e46 F46 (j := (15 : Int32)) (y := (1000000000000000 : Int64)) 15 (by decide) (by decide) (pc := 107) (Ls := #[.val (.int n1), .unset]) (rest := [(.ref b2)]) (hb hby d2_107)
  have N49 := Fr.snoc X49 N46 nb2
  have Z49 : n0 ≤ h49.size := by rw [W49.size]; exact Z46
  refine own_go st49 ?_
  have K50 := K47.wr W49 (Or.inr sb2)
  show own_End p e below s _ _ _ (T49.setTop (mkF m 108 #[.val (.int n1), .unset] [(.ref b2)]))
  refine own_go (fun t k => XS.dup X49.here hx rfl (hb hby d2_108) rfl rfl k) ?_
  show own_End p e below s _ _ _ (T49.setTop (mkF m 109 #[.val (.int n1), .unset] [(.ref b2), (.ref b2)]))
  refine own_go (fun t k => XS.bipush X49.here hx rfl (hb hby d2_109) k) ?_
  show own_End p e below s _ _ _ (T49.setTop (mkF m 111 #[.val (.int n1), .unset] [(.int (16 : Int32)), (.ref b2), (.ref b2)]))
  refine own_go (X49.ldc2Long (own := "com/example/ordinate/ordinate/sql/NumbersParseIntegerPinLaw") (index := 37) (v := 10000000000000000) hx hown (mvT hZ (hw _ (List.mem_of_getElem? (i := 26) rfl))) (g := (mkF m 111 #[.val (.int n1), .unset] [(.int (16 : Int32)), (.ref b2), (.ref b2)])) rfl (hb hby d2_111)) ?_
  show own_End p e below s _ _ _ (T49.setTop (mkF m 114 #[.val (.int n1), .unset] [(.long (10000000000000000 : Int64)), (.int (16 : Int32)), (.ref b2), (.ref b2)]))
  obtain ⟨T52, h52, X52, e52, W52, F52, st52⟩ := own_fstJ X49 hx hZ e49 F49 (j := (16 : Int32)) (y := (10000000000000000 : Int64)) 16 (by decide) (by decide) (pc := 114) (Ls := #[.val (.int n1), .unset]) (rest := [(.ref b2)]) (hb hby d2_114)
  have N52 := Fr.snoc X52 N49 nb2
  have Z52 : n0 ≤ h52.size := by rw [W52.size]; exact Z49
  refine own_go st52 ?_
  have K53 := K50.wr W52 (Or.inr sb2)
  show own_End p e below s _ _ _ (T52.setTop (mkF m 115 #[.val (.int n1), .unset] [(.ref b2)]))
  refine own_go (fun t k => XS.dup X52.here hx rfl (hb hby d2_115) rfl rfl k) ?_
  show own_End p e below s _ _ _ (T52.setTop (mkF m 116 #[.val (.int n1), .unset] [(.ref b2), (.ref b2)]))
  refine own_go (fun t k => XS.bipush X52.here hx rfl (hb hby d2_116) k) ?_
  show own_End p e below s _ _ _ (T52.setTop (mkF m 118 #[.val (.int n1), .unset] [(.int (17 : Int32)), (.ref b2), (.ref b2)]))
  refine own_go (X52.ldc2Long (own := "com/example/ordinate/ordinate/sql/NumbersParseIntegerPinLaw") (index := 39) (v := 100000000000000000) hx hown (mvT hZ (hw _ (List.mem_of_getElem? (i := 27) rfl))) (g := (mkF m 118 #[.val (.int n1), .unset] [(.int (17 : Int32)), (.ref b2), (.ref b2)])) rfl (hb hby d2_118)) ?_
  show own_End p e below s _ _ _ (T52.setTop (mkF m 121 #[.val (.int n1), .unset] [(.long (100000000000000000 : Int64)), (.int (17 : Int32)), (.ref b2), (.ref b2)]))
  obtain ⟨T55, h55, X55, e55, W55, F55, st55⟩ := own_fstJ X52 hx hZ e52 F52 (j := (17 : Int32)) (y := (100000000000000000 : Int64)) 17 (by decide) (by decide) (pc := 121) (Ls := #[.val (.int n1), .unset]) (rest := [(.ref b2)]) (hb hby d2_121)
  have N55 := Fr.snoc X55 N52 nb2
  have Z55 : n0 ≤ h55.size := by rw [W55.size]; exact Z52
  refine own_go st55 ?_
  have K56 := K53.wr W55 (Or.inr sb2)
  show own_End p e below s _ _ _ (T55.setTop (mkF m 122 #[.val (.int n1), .unset] [(.ref b2)]))
  refine own_go (fun t k => XS.dup X55.here hx rfl (hb hby d2_122) rfl rfl k) ?_
  show own_End p e below s _ _ _ (T55.setTop (mkF m 123 #[.val (.int n1), .unset] [(.ref b2), (.ref b2)]))
  refine own_go (fun t k => XS.bipush X55.here hx rfl (hb hby d2_123) k) ?_
  show own_End p e below s _ _ _ (T55.setTop (mkF m 125 #[.val (.int n1), .unset] [(.int (18 : Int32)), (.ref b2), (.ref b2)]))
  refine own_go (X55.ldc2Long (own := "com/example/ordinate/ordinate/sql/NumbersParseIntegerPinLaw") (index := 41) (v := 1000000000000000000) hx hown (mvT hZ (hw _ (List.mem_of_getElem? (i := 28) rfl))) (g := (mkF m 125 #[.val (.int n1), .unset] [(.int (18 : Int32)), (.ref b2), (.ref b2)])) rfl (hb hby d2_125)) ?_
  show own_End p e below s _ _ _ (T55.setTop (mkF m 128 #[.val (.int n1), .unset] [(.long (1000000000000000000 : Int64)), (.int (18 : Int32)), (.ref b2), (.ref b2)]))
  obtain ⟨T58, h58, X58, e58, W58, F58, st58⟩ := own_fstJ X55 hx hZ e55 F55 (j := (18 : Int32)) (y := (1000000000000000000 : Int64)) 18 (by decide) (by decide) (pc := 128) (Ls := #[.val (.int n1), .unset]) (rest := [(.ref b2)]) (hb hby d2_128)
  have N58 := Fr.snoc X58 N55 nb2
  have Z58 : n0 ≤ h58.size := by rw [W58.size]; exact Z55
  refine own_go st58 ?_
  have K59 := K56.wr W58 (Or.inr sb2)
  show own_End p e below s _ _ _ (T58.setTop (mkF m 129 #[.val (.int n1), .unset] [(.ref b2)]))
  refine own_go (fun t k => XS.astoreN X58.here hx rfl (hb hby d2_129) rfl rfl (l' := #[.val (.int n1), .val (.ref b2)]) rfl k) ?_
  show own_End p e below s _ _ _ (T58.setTop (mkF m 130 #[.val (.int n1), .val (.ref b2)] []))
  refine own_go (fun t k => XS.aloadN X58.here hx rfl (hb hby d2_130) rfl rfl k) ?_
  show own_End p e below s _ _ _ (T58.setTop (mkF m 131 #[.val (.int n1), .val (.ref b2)] [(.ref b2)]))
  refine own_go (fun t k => XS.iloadN X58.here hx rfl (hb hby d2_131) rfl k) ?_
  show own_End p e below s _ _ _ (T58.setTop (mkF m 132 #[.val (.int n1), .val (.ref b2)] [(.int n1), (.ref b2)]))
  have FF := own_F.cong F58 (g := fun i => .long (own_p i)) (fun i hi => by match i, hi with | 0, _ => rfl | 1, _ => rfl | 2, _ => rfl | 3, _ => rfl | 4, _ => rfl | 5, _ => rfl | 6, _ => rfl | 7, _ => rfl | 8, _ => rfl | 9, _ => rfl | 10, _ => rfl | 11, _ => rfl | 12, _ => rfl | 13, _ => rfl | 14, _ => rfl | 15, _ => rfl | 16, _ => rfl | 17, _ => rfl | 18, _ => rfl | _ + 19, hq => exact absurd hq (by omega))
  refine own_go (own_fldJ X58 hx hZ e58 FF (j := n1) (v := (.long (own_p i))) i hn hi rfl (pc := 132) (Ls := #[.val (.int n1), .val (.ref b2)]) (rest := []) (hb hby d2_132)) ?_
  show own_End p e below s _ _ _ (T58.setTop (mkF m 133 #[.val (.int n1), .val (.ref b2)] [(.long (own_p i))]))
  exact own_retJ X58 hx hret hlk (hb hby d2_133) ⟨rfl, N58, by rw [e58]; exact K59⟩ (by decide) (by decide)
set_option maxRecDepth 65536 in
set_option maxHeartbeats 40000000 in
theorem rm1_0 (l : Launch) (Z : State) (a0 : Array Value) (hw : ∀ d ∈ tables_1, d.before a0 Z = true) (ws : List Jvm.Cond) (uq : Int64) (r0 : Int64) (h0 : Heap) (n0 : Nat) (Z0 : n0 ≤ h0.size) (R : Nat) (hr : r0.toInt = ((R % 10 : Nat) : Int)) :
    own_Met l (⟨"com/example/ordinate/ordinate/sql/NumbersParseIntegerPinLaw", "digit", "(JJI)C"⟩ : MethodName) method_3_code 7 (some .char) ws ({ frames := 0, cells := 0, slots := 0, locals := 0 } : Room) #[(.long uq), (.long r0), (.int (0 : Int32))] Z h0 (fun v h L => ∃ d, v = some (.int d) ∧ d.toInt = 48 + ((R % 10 : Nat) : Int) ∧ Fr n0 L ∧ h = h0) := by
  refine own_body (plainFor_of_name pn_NumbersParseIntegerPinLaw) ?_
  intro p e s m below meth c s0 X0 hx hby hml hret hlk hown hnm hZ e0
  replace hown : s.vm.findClass "com/example/ordinate/ordinate/sql/NumbersParseIntegerPinLaw" = some m.cls := hown
  have N0 := Fr.nil n0
  have ef : entryFrame m #[(.long uq), (.long r0), (.int (0 : Int32))] 7 = (mkF m 0 #[.val (.long uq), .second, .val (.long r0), .second, .val (.int (0 : Int32)), .unset, .unset] []) := by first | (simp [entryFrame, mkF, argsToLocals, Value.category, maxLocals]; done) | rfl
  rw [ef]
  show own_End p e below s _ _ _ (s0.setTop (mkF m 0 #[.val (.long uq), .second, .val (.long r0), .second, .val (.int (0 : Int32)), .unset, .unset] []))
  refine own_go (fun t k => XS.iload X0.here hx rfl (hb hby d1_0) rfl k) ?_
  show own_End p e below s _ _ _ (s0.setTop (mkF m 2 #[.val (.long uq), .second, .val (.long r0), .second, .val (.int (0 : Int32)), .unset, .unset] [(.int (0 : Int32))]))
  refine own_go (fun t k => XS.ifNo X0.here hx rfl (hb hby d1_2) rfl (by decide) k) ?_
  show own_End p e below s _ _ _ (s0.setTop (mkF m 5 #[.val (.long uq), .second, .val (.long r0), .second, .val (.int (0 : Int32)), .unset, .unset] []))
  refine own_go (fun t k => XT.lloadN X0.here hx rfl (hb hby d1_5) rfl k) ?_
  show own_End p e below s _ _ _ (s0.setTop (mkF m 6 #[.val (.long uq), .second, .val (.long r0), .second, .val (.int (0 : Int32)), .unset, .unset] [(.long r0)]))
  refine own_go (fun t k => XS.goto X0.here hx rfl (pc0 := 6) (pc' := 22) rfl (hb hby d1_6) (by decide) (by decide) k) ?_
  show own_End p e below s _ _ _ (s0.setTop (mkF m 22 #[.val (.long uq), .second, .val (.long r0), .second, .val (.int (0 : Int32)), .unset, .unset] [(.long r0)]))
  refine own_go (fun t k => XT.lstore X0.here hx rfl (hb hby d1_22) rfl (l' := #[.val (.long uq), .second, .val (.long r0), .second, .val (.int (0 : Int32)), .val (.long r0), .second]) rfl k) ?_
  show own_End p e below s _ _ _ (s0.setTop (mkF m 24 #[.val (.long uq), .second, .val (.long r0), .second, .val (.int (0 : Int32)), .val (.long r0), .second] []))
  refine own_go (X0.ldc2Long (own := "com/example/ordinate/ordinate/sql/NumbersParseIntegerPinLaw") (index := 49) (v := 48) hx hown (mvT hZ (hw _ (List.mem_of_getElem? (i := 7) rfl))) (g := (mkF m 24 #[.val (.long uq), .second, .val (.long r0), .second, .val (.int (0 : Int32)), .val (.long r0), .second] [])) rfl (hb hby d1_24)) ?_
  show own_End p e below s _ _ _ (s0.setTop (mkF m 27 #[.val (.long uq), .second, .val (.long r0), .second, .val (.int (0 : Int32)), .val (.long r0), .second] [(.long (48 : Int64))]))
  refine own_go (fun t k => XT.lload X0.here hx rfl (hb hby d1_27) rfl k) ?_
  show own_End p e below s _ _ _ (s0.setTop (mkF m 29 #[.val (.long uq), .second, .val (.long r0), .second, .val (.int (0 : Int32)), .val (.long r0), .second] [(.long r0), (.long (48 : Int64))]))
  refine own_go (fun t k => XT.ladd X0.here hx rfl (hb hby d1_29) rfl k) ?_
  show own_End p e below s _ _ _ (s0.setTop (mkF m 30 #[.val (.long uq), .second, .val (.long r0), .second, .val (.int (0 : Int32)), .val (.long r0), .second] [(.long ((48 : Int64) + r0))]))
  refine own_go (fun t k => XT.l2i X0.here hx rfl (hb hby d1_30) rfl k) ?_
  show own_End p e below s _ _ _ (s0.setTop (mkF m 31 #[.val (.long uq), .second, .val (.long r0), .second, .val (.int (0 : Int32)), .val (.long r0), .second] [(.int (((48 : Int64) + r0).toInt32))]))
  refine own_go (fun t k => XT.i2c X0.here hx rfl (hb hby d1_31) rfl k) ?_
  show own_End p e below s _ _ _ (s0.setTop (mkF m 32 #[.val (.long uq), .second, .val (.long r0), .second, .val (.int (0 : Int32)), .val (.long r0), .second] [(.int ((((48 : Int64) + r0).toInt32).toUInt32.toUInt16.toUInt32.toInt32))]))
  have e48 : (48 : Int64).toInt = 48 := by decide
  have hs : ((48 : Int64) + r0).toInt = 48 + ((R % 10 : Nat) : Int) := by rw [own_addJ (by omega) (by omega)]; omega
  exact own_retN X0 hx (t := .char) hret hlk (by simp) (hb hby d1_32) ⟨_, rfl, by rw [own_chr (by omega) (by omega)]; exact hs, N0, e0⟩ (by decide) (by decide)
set_option maxRecDepth 65536 in
set_option maxHeartbeats 40000000 in
theorem rm1_1 (l : Launch) (Z : State) (a0 : Array Value) (hw : ∀ d ∈ tables_1, d.before a0 Z = true) (ws : List Jvm.Cond) (uq : Int64) (r0 : Int64) (jj : Int32) (h0 : Heap) (n0 : Nat) (Z0 : n0 ≤ h0.size) (U i : Nat) (hu : uq.toInt = (U : Int)) (hjj : jj.toInt = ((i + 1 : Nat) : Int)) (hi : i < 19) :
    own_Met l (⟨"com/example/ordinate/ordinate/sql/NumbersParseIntegerPinLaw", "digit", "(JJI)C"⟩ : MethodName) method_3_code 7 (some .char) ws ({ frames := 1, cells := 1, slots := 19, locals := 15 } : Room) #[(.long uq), (.long r0), (.int jj)] Z h0 (fun v h L => ∃ d, v = some (.int d) ∧ d.toInt = 48 + ((U / 10 ^ i % 10 : Nat) : Int) ∧ Fr n0 L ∧ Keep h0 h []) := by
  refine own_body (plainFor_of_name pn_NumbersParseIntegerPinLaw) ?_
  intro p e s m below meth c s0 X0 hx hby hml hret hlk hown hnm hZ e0
  replace hown : s.vm.findClass "com/example/ordinate/ordinate/sql/NumbersParseIntegerPinLaw" = some m.cls := hown
  have N0 := Fr.nil n0
  have ef : entryFrame m #[(.long uq), (.long r0), (.int jj)] 7 = (mkF m 0 #[.val (.long uq), .second, .val (.long r0), .second, .val (.int jj), .unset, .unset] []) := by first | (simp [entryFrame, mkF, argsToLocals, Value.category, maxLocals]; done) | rfl
  rw [ef]
  show own_End p e below s _ _ _ (s0.setTop (mkF m 0 #[.val (.long uq), .second, .val (.long r0), .second, .val (.int jj), .unset, .unset] []))
  have K61 := Keep.refl h0 []
  refine own_go (fun t k => XS.iload X0.here hx rfl (hb hby d1_0) rfl k) ?_
  show own_End p e below s _ _ _ (s0.setTop (mkF m 2 #[.val (.long uq), .second, .val (.long r0), .second, .val (.int jj), .unset, .unset] [(.int jj)]))
  refine own_go (fun t k => XS.ifYes X0.here hx rfl (pc0 := 2) (pc' := 9) rfl (hb hby d1_2) rfl (own_0 (own_neY (k := 0) rfl (by omega))) (by decide) (by decide) k) ?_
  show own_End p e below s _ _ _ (s0.setTop (mkF m 9 #[.val (.long uq), .second, .val (.long r0), .second, .val (.int jj), .unset, .unset] []))
  refine own_go (fun t k => XT.lloadN X0.here hx rfl (hb hby d1_9) rfl k) ?_
  show own_End p e below s _ _ _ (s0.setTop (mkF m 10 #[.val (.long uq), .second, .val (.long r0), .second, .val (.int jj), .unset, .unset] [(.long uq)]))
  refine own_go (fun t k => XS.iload X0.here hx rfl (hb hby d1_10) rfl k) ?_
  show own_End p e below s _ _ _ (s0.setTop (mkF m 12 #[.val (.long uq), .second, .val (.long r0), .second, .val (.int jj), .unset, .unset] [(.int jj), (.long uq)]))
  refine own_go (fun t k => XS.iconst X0.here hx rfl (hb hby d1_12) k) ?_
  show own_End p e below s _ _ _ (s0.setTop (mkF m 13 #[.val (.long uq), .second, .val (.long r0), .second, .val (.int jj), .unset, .unset] [(.int (1 : Int32)), (.int jj), (.long uq)]))
  refine own_go (fun t k => XS.isub X0.here hx rfl (hb hby d1_13) rfl k) ?_
  show own_End p e below s _ _ _ (s0.setTop (mkF m 14 #[.val (.long uq), .second, .val (.long r0), .second, .val (.int jj), .unset, .unset] [(.int (jj - (1 : Int32))), (.long uq)]))
  have e1 : (1 : Int32).toInt = 1 := by decide
  have hj1 : (jj - (1 : Int32)).toInt = i := by have := c_isub jj 1; have := rng32 (jj - 1); omega
  obtain ⟨v62, T62, L62, X62, hQ62, st62⟩ := own_callS X0 hx hZ (y := (⟨"com/example/ordinate/ordinate/sql/NumbersParseIntegerPinLaw", "pow10", "(I)J"⟩ : MethodName)) 2 hown (hw _ (List.mem_of_getElem? (i := 8) rfl)) (hw _ (List.mem_of_getElem? (i := 9) rfl)) (hw _ (List.mem_of_getElem? (i := 5) rfl)) (hw _ (List.mem_of_getElem? (i := 10) rfl)) (by decide) (rm2 l Z a0 hw [] (jj - (1 : Int32)) h0 n0 Z0 i hj1 hi) e0 (pc := 14) (Ls := #[.val (.long uq), .second, .val (.long r0), .second, .val (.int jj), .unset, .unset]) [(.int (jj - (1 : Int32)))] [(.long uq)] (by rw [hml]; rfl) rfl rfl (lenOf pd_I_J rfl) (Nat.le_of_eq rfl) (hb hby d1_14) (by decide) (by decide) (by decide) (by decide)
  obtain ⟨h63, e63⟩ : ∃ z, T62.heap = z := ⟨_, rfl⟩
  rw [e63] at hQ62
  obtain ⟨rfl, Nc, Kc⟩ := hQ62
  have N_c := Fr.app N0 Nc
  have Z63 : n0 ≤ h63.size := Nat.le_trans Z0 Kc.1
  have K64 := K61.trans Kc all0
  refine own_go st62 ?_
  show own_End p e below s _ _ _ (T62.setTop (mkF m 17 #[.val (.long uq), .second, .val (.long r0), .second, .val (.int jj), .unset, .unset] [(.long (own_p i)), (.long uq)]))
  have hp := own_pv i hi
  have hp0 : 0 < ((10 ^ i : Nat) : Int) := Int.natCast_pos.mpr (Nat.pow_pos (by omega))
  refine own_go (fun t k => XT.ldiv X62.here hx rfl (hb hby d1_17) rfl (fun z => by have := congrArg Int64.toInt z; have e0 : (0 : Int64).toInt = 0 := (by decide); omega) k) ?_
  show own_End p e below s _ _ _ (T62.setTop (mkF m 18 #[.val (.long uq), .second, .val (.long r0), .second, .val (.int jj), .unset, .unset] [(.long (uq / (own_p i)))]))
  refine own_go (X62.ldc2Long (own := "com/example/ordinate/ordinate/sql/NumbersParseIntegerPinLaw") (index := 7) (v := 10) hx hown (mvT hZ (hw _ (List.mem_of_getElem? (i := 1) rfl))) (g := (mkF m 18 #[.val (.long uq), .second, .val (.long r0), .second, .val (.int jj), .unset, .unset] [(.long (uq / (own_p i)))])) rfl (hb hby d1_18)) ?_
  show own_End p e below s _ _ _ (T62.setTop (mkF m 21 #[.val (.long uq), .second, .val (.long r0), .second, .val (.int jj), .unset, .unset] [(.long (10 : Int64)), (.long (uq / (own_p i)))]))
  refine own_go (fun t k => XT.lrem X62.here hx rfl (hb hby d1_21) rfl (by decide) k) ?_
  show own_End p e below s _ _ _ (T62.setTop (mkF m 22 #[.val (.long uq), .second, .val (.long r0), .second, .val (.int jj), .unset, .unset] [(.long ((uq / (own_p i)) - ((uq / (own_p i)) / (10 : Int64)) * (10 : Int64)))]))
  have hq : (uq / own_p i).toInt = ((U / 10 ^ i : Nat) : Int) := by
    rw [(c_ldiv uq (own_p i) _ hp (fun z => by have := congrArg Int64.toInt z; have e0 : (-1 : Int64).toInt = -1 := (by decide); omega)).1 (by omega), hu]; rfl
  have hm : ((uq / (own_p i)) - ((uq / (own_p i)) / (10 : Int64)) * (10 : Int64)).toInt = ((U / 10 ^ i % 10 : Nat) : Int) := by
    rw [(c_lrem (uq / own_p i) 10 10 (by decide)).1 (by rw [hq]; exact Int.natCast_nonneg _), hq]; rfl
  obtain ⟨z65, qz65⟩ : ∃ z : Int64, z = ((uq / (own_p i)) - ((uq / (own_p i)) / (10 : Int64)) * (10 : Int64)) := ⟨_, rfl⟩
  rw [← qz65]
  show own_End p e below s _ _ _ (T62.setTop (mkF m 22 #[.val (.long uq), .second, .val (.long r0), .second, .val (.int jj), .unset, .unset] [(.long z65)]))
  rw [← qz65] at hm
  refine own_go (fun t k => XT.lstore X62.here hx rfl (hb hby d1_22) rfl (l' := #[.val (.long uq), .second, .val (.long r0), .second, .val (.int jj), .val (.long z65), .second]) rfl k) ?_
  show own_End p e below s _ _ _ (T62.setTop (mkF m 24 #[.val (.long uq), .second, .val (.long r0), .second, .val (.int jj), .val (.long z65), .second] []))
  refine own_go (X62.ldc2Long (own := "com/example/ordinate/ordinate/sql/NumbersParseIntegerPinLaw") (index := 49) (v := 48) hx hown (mvT hZ (hw _ (List.mem_of_getElem? (i := 7) rfl))) (g := (mkF m 24 #[.val (.long uq), .second, .val (.long r0), .second, .val (.int jj), .val (.long z65), .second] [])) rfl (hb hby d1_24)) ?_
  show own_End p e below s _ _ _ (T62.setTop (mkF m 27 #[.val (.long uq), .second, .val (.long r0), .second, .val (.int jj), .val (.long z65), .second] [(.long (48 : Int64))]))
  refine own_go (fun t k => XT.lload X62.here hx rfl (hb hby d1_27) rfl k) ?_
  show own_End p e below s _ _ _ (T62.setTop (mkF m 29 #[.val (.long uq), .second, .val (.long r0), .second, .val (.int jj), .val (.long z65), .second] [(.long z65), (.long (48 : Int64))]))
  refine own_go (fun t k => XT.ladd X62.here hx rfl (hb hby d1_29) rfl k) ?_
  show own_End p e below s _ _ _ (T62.setTop (mkF m 30 #[.val (.long uq), .second, .val (.long r0), .second, .val (.int jj), .val (.long z65), .second] [(.long ((48 : Int64) + z65))]))
  refine own_go (fun t k => XT.l2i X62.here hx rfl (hb hby d1_30) rfl k) ?_
  show own_End p e below s _ _ _ (T62.setTop (mkF m 31 #[.val (.long uq), .second, .val (.long r0), .second, .val (.int jj), .val (.long z65), .second] [(.int (((48 : Int64) + z65).toInt32))]))
  refine own_go (fun t k => XT.i2c X62.here hx rfl (hb hby d1_31) rfl k) ?_
  show own_End p e below s _ _ _ (T62.setTop (mkF m 32 #[.val (.long uq), .second, .val (.long r0), .second, .val (.int jj), .val (.long z65), .second] [(.int ((((48 : Int64) + z65).toInt32).toUInt32.toUInt16.toUInt32.toInt32))]))
  have e48 : (48 : Int64).toInt = 48 := by decide
  have hs : ((48 : Int64) + z65).toInt = 48 + ((U / 10 ^ i % 10 : Nat) : Int) := by rw [own_addJ (by omega) (by omega)]; omega
  exact own_retN X62 hx (t := .char) hret hlk (by simp) (hb hby d1_32) ⟨_, rfl, by rw [own_chr (by omega) (by omega)]; exact hs, N_c, by rw [e63]; exact K64⟩ (by decide) (by decide)
set_option maxRecDepth 65536 in
set_option maxHeartbeats 40000000 in
theorem rm3_0 (l : Launch) (Z : State) (a0 : Array Value) (hw : ∀ d ∈ tables_1, d.before a0 Z = true) (ws : List Jvm.Cond) (ta : Addr) (fm : Int32) (h0 : Heap) (n0 : Nat) (Z0 : n0 ≤ h0.size) (g : Nat → Int32) (fr : Nat) (hfm : fm.toInt = fr) (hf22 : fr ≤ 22) {kt : ClassId} (F_ta : own_F Z h0 ta kt .char 23 (fun i => .int (g i))) :
    own_Met l (⟨"com/example/ordinate/ordinate/sql/Numbers", "parseInteger", "([CII[JI)Z"⟩ : MethodName) prog_211_method_4_code 10 (some .boolean) ws ({ frames := 0, cells := 0, slots := 0, locals := 0 } : Room) #[(.ref ta), (.int fm), (.int (22 : Int32)), .null, (.int (0 : Int32))] Z h0 (fun v h L => Fr n0 L ∧ h = h0 ∧ ((v = some (.int 0) ∧ ¬ own_ok g fr) ∨ (v = some (.int 1) ∧ own_ok g fr))) := by
  refine own_body (plainFor_of_name pn_Numbers) ?_
  intro p e s m below meth c s0 X0 hx hby hml hret hlk hown hnm hZ e0
  replace hown : s.vm.findClass "com/example/ordinate/ordinate/sql/Numbers" = some m.cls := hown
  have N0 := Fr.nil n0
  have ef : entryFrame m #[(.ref ta), (.int fm), (.int (22 : Int32)), .null, (.int (0 : Int32))] 10 = (mkF m 0 #[.val (.ref ta), .val (.int fm), .val (.int (22 : Int32)), .val .null, .val (.int (0 : Int32)), .unset, .unset, .unset, .unset, .unset] []) := by first | (simp [entryFrame, mkF, argsToLocals, Value.category, maxLocals]; done) | rfl
  rw [ef]
  show own_End p e below s _ _ _ (s0.setTop (mkF m 0 #[.val (.ref ta), .val (.int fm), .val (.int (22 : Int32)), .val .null, .val (.int (0 : Int32)), .unset, .unset, .unset, .unset, .unset] []))
  refine own_join (fun G => ∀ (nn mm : Nat) (z : Int32) (acc : Int64) (s8 s9 : Slot), One s8 → One s9 → (own_i0 g fr < 22) → z.toInt = ((own_i0 g fr + mm : Nat) : Int) → own_i0 g fr + mm + nn = 22 → (∀ j, own_i0 g fr ≤ j → j < own_i0 g fr + mm → own_dig g j) → acc.toInt = - own_val g (own_i0 g fr) mm → own_val g (own_i0 g fr) mm ≤ 9223372036854775808 → G (s0.setTop (mkF m 41 #[.val (.ref ta), .val (.int fm), .val (.int (22 : Int32)), .val .null, .val (.int (0 : Int32)), .val (.int z), .val (.long acc), .second, s8, s9] []))) ?_ ?_
  ·
    intro nn
    induction nn with
    | zero =>
      intro mm z acc s8 s9 o8 o9 h22 hz hmn hd ha hv
      show own_End p e below s _ _ _ (s0.setTop (mkF m 41 #[.val (.ref ta), .val (.int fm), .val (.int (22 : Int32)), .val .null, .val (.int (0 : Int32)), .val (.int z), .val (.long acc), .second, s8, s9] []))
      have h23 : own_i0 g fr + mm = 22 := by omega
      have hmm : 22 - own_i0 g fr = mm := by omega
      have hfr : fr < 22 := by unfold own_i0 at h22; split at h22 <;> omega
      have hv0 := own_val0 hd
      refine own_go (fun t k => XS.iload X0.here hx rfl (hb hby d3_41) rfl k) ?_
      show own_End p e below s _ _ _ (s0.setTop (mkF m 43 #[.val (.ref ta), .val (.int fm), .val (.int (22 : Int32)), .val .null, .val (.int (0 : Int32)), .val (.int z), .val (.long acc), .second, s8, s9] [(.int z)]))
      refine own_go (fun t k => XS.iloadN X0.here hx rfl (hb hby d3_43) rfl k) ?_
      show own_End p e below s _ _ _ (s0.setTop (mkF m 44 #[.val (.ref ta), .val (.int fm), .val (.int (22 : Int32)), .val .null, .val (.int (0 : Int32)), .val (.int z), .val (.long acc), .second, s8, s9] [(.int (22 : Int32)), (.int z)]))
      refine own_go (fun t k => XS.icmpYes X0.here hx rfl (pc0 := 44) (pc' := 113) rfl (hb hby d3_44) rfl (own_geY (k := 22) (by decide) (by omega)) (by decide) (by decide) k) ?_
      show own_End p e below s _ _ _ (s0.setTop (mkF m 113 #[.val (.ref ta), .val (.int fm), .val (.int (22 : Int32)), .val .null, .val (.int (0 : Int32)), .val (.int z), .val (.long acc), .second, s8, s9] []))
      refine own_go (fun t k => XS.aloadN X0.here hx rfl (hb hby d3_113) rfl rfl k) ?_
      show own_End p e below s _ _ _ (s0.setTop (mkF m 114 #[.val (.ref ta), .val (.int fm), .val (.int (22 : Int32)), .val .null, .val (.int (0 : Int32)), .val (.int z), .val (.long acc), .second, s8, s9] [(.ref ta)]))
      refine own_go (fun t k => XS.iloadN X0.here hx rfl (hb hby d3_114) rfl k) ?_
      show own_End p e below s _ _ _ (s0.setTop (mkF m 115 #[.val (.ref ta), .val (.int fm), .val (.int (22 : Int32)), .val .null, .val (.int (0 : Int32)), .val (.int z), .val (.long acc), .second, s8, s9] [(.int fm), (.ref ta)]))
      refine own_go (own_fldC X0 hx hZ e0 F_ta (j := fm) (v := (.int (g fr))) fr hfm (by omega) rfl (pc := 115) (Ls := #[.val (.ref ta), .val (.int fm), .val (.int (22 : Int32)), .val .null, .val (.int (0 : Int32)), .val (.int z), .val (.long acc), .second, s8, s9]) (rest := []) (hb hby d3_115)) ?_
      show own_End p e below s _ _ _ (s0.setTop (mkF m 116 #[.val (.ref ta), .val (.int fm), .val (.int (22 : Int32)), .val .null, .val (.int (0 : Int32)), .val (.int z), .val (.long acc), .second, s8, s9] [(.int (g fr))]))
      refine own_go (fun t k => XS.bipush X0.here hx rfl (hb hby d3_116) k) ?_
      show own_End p e below s _ _ _ (s0.setTop (mkF m 118 #[.val (.ref ta), .val (.int fm), .val (.int (22 : Int32)), .val .null, .val (.int (0 : Int32)), .val (.int z), .val (.long acc), .second, s8, s9] [(.int (45 : Int32)), (.int (g fr))]))
      by_cases qm : (g fr).toInt = 45
      ·
        refine own_go (fun t k => XS.icmpYes X0.here hx rfl (pc0 := 118) (pc' := 137) rfl (hb hby d3_118) rfl (own_eqY (k := 45) (by decide) qm) (by decide) (by decide) k) ?_
        show own_End p e below s _ _ _ (s0.setTop (mkF m 137 #[.val (.ref ta), .val (.int fm), .val (.int (22 : Int32)), .val .null, .val (.int (0 : Int32)), .val (.int z), .val (.long acc), .second, s8, s9] []))
        refine own_go (fun t k => XS.aloadN X0.here hx rfl (hb hby d3_137) rfl rfl k) ?_
        show own_End p e below s _ _ _ (s0.setTop (mkF m 138 #[.val (.ref ta), .val (.int fm), .val (.int (22 : Int32)), .val .null, .val (.int (0 : Int32)), .val (.int z), .val (.long acc), .second, s8, s9] [.null]))
        refine own_go (fun t k => XS.ifnullYes X0.here hx rfl (pc0 := 138) (pc' := 147) rfl (hb hby d3_138) rfl (by decide) (by decide) k) ?_
        show own_End p e below s _ _ _ (s0.setTop (mkF m 147 #[.val (.ref ta), .val (.int fm), .val (.int (22 : Int32)), .val .null, .val (.int (0 : Int32)), .val (.int z), .val (.long acc), .second, s8, s9] []))
        refine own_go (fun t k => XS.iconst X0.here hx rfl (hb hby d3_147) k) ?_
        show own_End p e below s _ _ _ (s0.setTop (mkF m 148 #[.val (.ref ta), .val (.int fm), .val (.int (22 : Int32)), .val .null, .val (.int (0 : Int32)), .val (.int z), .val (.long acc), .second, s8, s9] [(.int (1 : Int32))]))
        exact own_retN X0 hx (t := .boolean) hret hlk (by simp) (hb hby d3_148) ⟨N0, e0, Or.inr ⟨rfl, ⟨h22, fun j h1 h2 => hd j h1 (by omega), by unfold own_lim; rw [if_pos qm, hmm]; exact hv⟩⟩⟩ (by decide) (by decide)
      refine own_go (fun t k => XS.icmpNo X0.here hx rfl (hb hby d3_118) rfl (own_eqN (k := 45) (by decide) qm) k) ?_
      show own_End p e below s _ _ _ (s0.setTop (mkF m 121 #[.val (.ref ta), .val (.int fm), .val (.int (22 : Int32)), .val .null, .val (.int (0 : Int32)), .val (.int z), .val (.long acc), .second, s8, s9] []))
      refine own_go (fun t k => XT.lload X0.here hx rfl (hb hby d3_121) rfl k) ?_
      show own_End p e below s _ _ _ (s0.setTop (mkF m 123 #[.val (.ref ta), .val (.int fm), .val (.int (22 : Int32)), .val .null, .val (.int (0 : Int32)), .val (.int z), .val (.long acc), .second, s8, s9] [(.long acc)]))
      refine own_go (X0.ldc2Long (own := "com/example/ordinate/ordinate/sql/Numbers") (index := 21) (v := (-9223372036854775808)) hx hown (mvT hZ (hw _ (List.mem_of_getElem? (i := 36) rfl))) (g := (mkF m 123 #[.val (.ref ta), .val (.int fm), .val (.int (22 : Int32)), .val .null, .val (.int (0 : Int32)), .val (.int z), .val (.long acc), .second, s8, s9] [(.long acc)])) rfl (hb hby d3_123)) ?_
      show own_End p e below s _ _ _ (s0.setTop (mkF m 126 #[.val (.ref ta), .val (.int fm), .val (.int (22 : Int32)), .val .null, .val (.int (0 : Int32)), .val (.int z), .val (.long acc), .second, s8, s9] [(.long (-9223372036854775808 : Int64)), (.long acc)]))
      refine own_go (fun t k => XT.lcmp X0.here hx rfl (hb hby d3_126) rfl k) ?_
      show own_End p e below s _ _ _ (s0.setTop (mkF m 127 #[.val (.ref ta), .val (.int fm), .val (.int (22 : Int32)), .val .null, .val (.int (0 : Int32)), .val (.int z), .val (.long acc), .second, s8, s9] [(.int (XT.cmpL acc (-9223372036854775808 : Int64)))]))
      by_cases qn : ¬ acc.toInt = (-9223372036854775808)
      ·
        refine own_go (fun t k => XS.ifYes X0.here hx rfl (pc0 := 127) (pc' := 132) rfl (hb hby d3_127) rfl (own_lneY (k := (-9223372036854775808)) (by decide) qn) (by decide) (by decide) k) ?_
        show own_End p e below s _ _ _ (s0.setTop (mkF m 132 #[.val (.ref ta), .val (.int fm), .val (.int (22 : Int32)), .val .null, .val (.int (0 : Int32)), .val (.int z), .val (.long acc), .second, s8, s9] []))
        refine own_go (fun t k => XT.lload X0.here hx rfl (hb hby d3_132) rfl k) ?_
        show own_End p e below s _ _ _ (s0.setTop (mkF m 134 #[.val (.ref ta), .val (.int fm), .val (.int (22 : Int32)), .val .null, .val (.int (0 : Int32)), .val (.int z), .val (.long acc), .second, s8, s9] [(.long acc)]))
        have hneg : (-acc).toInt = own_val g (own_i0 g fr) mm := by have h1 := c_lneg acc; have h2 := rng64 (-acc); have h3 := rng64 acc; omega
        refine own_go (fun t k => XT.lneg X0.here hx rfl (hb hby d3_134) rfl k) ?_
        show own_End p e below s _ _ _ (s0.setTop (mkF m 135 #[.val (.ref ta), .val (.int fm), .val (.int (22 : Int32)), .val .null, .val (.int (0 : Int32)), .val (.int z), .val (.long acc), .second, s8, s9] [(.long (-acc))]))
        obtain ⟨na66, qna66⟩ : ∃ z : Int64, z = (-acc) := ⟨_, rfl⟩
        rw [← qna66]
        show own_End p e below s _ _ _ (s0.setTop (mkF m 135 #[.val (.ref ta), .val (.int fm), .val (.int (22 : Int32)), .val .null, .val (.int (0 : Int32)), .val (.int z), .val (.long acc), .second, s8, s9] [(.long na66)]))
        rw [← qna66] at hneg
        refine own_go (fun t k => XT.lstore X0.here hx rfl (hb hby d3_135) rfl (l' := #[.val (.ref ta), .val (.int fm), .val (.int (22 : Int32)), .val .null, .val (.int (0 : Int32)), .val (.int z), .val (.long na66), .second, s8, s9]) rfl k) ?_
        show own_End p e below s _ _ _ (s0.setTop (mkF m 137 #[.val (.ref ta), .val (.int fm), .val (.int (22 : Int32)), .val .null, .val (.int (0 : Int32)), .val (.int z), .val (.long na66), .second, s8, s9] []))
        refine own_go (fun t k => XS.aloadN X0.here hx rfl (hb hby d3_137) rfl rfl k) ?_
        show own_End p e below s _ _ _ (s0.setTop (mkF m 138 #[.val (.ref ta), .val (.int fm), .val (.int (22 : Int32)), .val .null, .val (.int (0 : Int32)), .val (.int z), .val (.long na66), .second, s8, s9] [.null]))
        refine own_go (fun t k => XS.ifnullYes X0.here hx rfl (pc0 := 138) (pc' := 147) rfl (hb hby d3_138) rfl (by decide) (by decide) k) ?_
        show own_End p e below s _ _ _ (s0.setTop (mkF m 147 #[.val (.ref ta), .val (.int fm), .val (.int (22 : Int32)), .val .null, .val (.int (0 : Int32)), .val (.int z), .val (.long na66), .second, s8, s9] []))
        refine own_go (fun t k => XS.iconst X0.here hx rfl (hb hby d3_147) k) ?_
        show own_End p e below s _ _ _ (s0.setTop (mkF m 148 #[.val (.ref ta), .val (.int fm), .val (.int (22 : Int32)), .val .null, .val (.int (0 : Int32)), .val (.int z), .val (.long na66), .second, s8, s9] [(.int (1 : Int32))]))
        exact own_retN X0 hx (t := .boolean) hret hlk (by simp) (hb hby d3_148) ⟨N0, e0, Or.inr ⟨rfl, ⟨h22, fun j h1 h2 => hd j h1 (by omega), by unfold own_lim; rw [if_neg qm, hmm]; omega⟩⟩⟩ (by decide) (by decide)
      refine own_go (fun t k => XS.ifNo X0.here hx rfl (hb hby d3_127) rfl (own_lneN (k := (-9223372036854775808)) (by decide) qn) k) ?_
      show own_End p e below s _ _ _ (s0.setTop (mkF m 130 #[.val (.ref ta), .val (.int fm), .val (.int (22 : Int32)), .val .null, .val (.int (0 : Int32)), .val (.int z), .val (.long acc), .second, s8, s9] []))
      refine own_go (fun t k => XS.iconst X0.here hx rfl (hb hby d3_130) k) ?_
      show own_End p e below s _ _ _ (s0.setTop (mkF m 131 #[.val (.ref ta), .val (.int fm), .val (.int (22 : Int32)), .val .null, .val (.int (0 : Int32)), .val (.int z), .val (.long acc), .second, s8, s9] [(.int (0 : Int32))]))
      exact own_retN X0 hx (t := .boolean) hret hlk (by simp) (hb hby d3_131) ⟨N0, e0, Or.inl ⟨rfl, (fun h => by have h1 := h.2.2; unfold own_lim at h1; rw [if_neg qm, hmm] at h1; omega)⟩⟩ (by decide) (by decide)
    | succ nn ih =>
      intro mm z acc s8 s9 o8 o9 h22 hz hmn hd ha hv
      show own_End p e below s _ _ _ (s0.setTop (mkF m 41 #[.val (.ref ta), .val (.int fm), .val (.int (22 : Int32)), .val .null, .val (.int (0 : Int32)), .val (.int z), .val (.long acc), .second, s8, s9] []))
      have hv0 := own_val0 hd
      refine own_go (fun t k => XS.iload X0.here hx rfl (hb hby d3_41) rfl k) ?_
      show own_End p e below s _ _ _ (s0.setTop (mkF m 43 #[.val (.ref ta), .val (.int fm), .val (.int (22 : Int32)), .val .null, .val (.int (0 : Int32)), .val (.int z), .val (.long acc), .second, s8, s9] [(.int z)]))
      refine own_go (fun t k => XS.iloadN X0.here hx rfl (hb hby d3_43) rfl k) ?_
      show own_End p e below s _ _ _ (s0.setTop (mkF m 44 #[.val (.ref ta), .val (.int fm), .val (.int (22 : Int32)), .val .null, .val (.int (0 : Int32)), .val (.int z), .val (.long acc), .second, s8, s9] [(.int (22 : Int32)), (.int z)]))
      refine own_go (fun t k => XS.icmpNo X0.here hx rfl (hb hby d3_44) rfl (own_geN (k := 22) (by decide) (by omega)) k) ?_
      show own_End p e below s _ _ _ (s0.setTop (mkF m 47 #[.val (.ref ta), .val (.int fm), .val (.int (22 : Int32)), .val .null, .val (.int (0 : Int32)), .val (.int z), .val (.long acc), .second, s8, s9] []))
      refine own_go (fun t k => XS.aloadN X0.here hx rfl (hb hby d3_47) rfl rfl k) ?_
      show own_End p e below s _ _ _ (s0.setTop (mkF m 48 #[.val (.ref ta), .val (.int fm), .val (.int (22 : Int32)), .val .null, .val (.int (0 : Int32)), .val (.int z), .val (.long acc), .second, s8, s9] [(.ref ta)]))
      refine own_go (fun t k => XS.iload X0.here hx rfl (hb hby d3_48) rfl k) ?_
      show own_End p e below s _ _ _ (s0.setTop (mkF m 50 #[.val (.ref ta), .val (.int fm), .val (.int (22 : Int32)), .val .null, .val (.int (0 : Int32)), .val (.int z), .val (.long acc), .second, s8, s9] [(.int z), (.ref ta)]))
      refine own_go (own_fldC X0 hx hZ e0 F_ta (j := z) (v := (.int (g (own_i0 g fr + mm)))) (own_i0 g fr + mm) hz (by omega) rfl (pc := 50) (Ls := #[.val (.ref ta), .val (.int fm), .val (.int (22 : Int32)), .val .null, .val (.int (0 : Int32)), .val (.int z), .val (.long acc), .second, s8, s9]) (rest := []) (hb hby d3_50)) ?_
      show own_End p e below s _ _ _ (s0.setTop (mkF m 51 #[.val (.ref ta), .val (.int fm), .val (.int (22 : Int32)), .val .null, .val (.int (0 : Int32)), .val (.int z), .val (.long acc), .second, s8, s9] [(.int (g (own_i0 g fr + mm)))]))
      refine own_go (fun t k => XS.istore X0.here hx rfl (hb hby d3_51) rfl (l' := #[.val (.ref ta), .val (.int fm), .val (.int (22 : Int32)), .val .null, .val (.int (0 : Int32)), .val (.int z), .val (.long acc), .second, .val (.int (g (own_i0 g fr + mm))), s9]) (XS.store1 rfl o8 rfl) k) ?_
      show own_End p e below s _ _ _ (s0.setTop (mkF m 53 #[.val (.ref ta), .val (.int fm), .val (.int (22 : Int32)), .val .null, .val (.int (0 : Int32)), .val (.int z), .val (.long acc), .second, .val (.int (g (own_i0 g fr + mm))), s9] []))
      refine own_go (fun t k => XS.iload X0.here hx rfl (hb hby d3_53) rfl k) ?_
      show own_End p e below s _ _ _ (s0.setTop (mkF m 55 #[.val (.ref ta), .val (.int fm), .val (.int (22 : Int32)), .val .null, .val (.int (0 : Int32)), .val (.int z), .val (.long acc), .second, .val (.int (g (own_i0 g fr + mm))), s9] [(.int (g (own_i0 g fr + mm)))]))
      refine own_go (fun t k => XS.bipush X0.here hx rfl (hb hby d3_55) k) ?_
      show own_End p e below s _ _ _ (s0.setTop (mkF m 57 #[.val (.ref ta), .val (.int fm), .val (.int (22 : Int32)), .val .null, .val (.int (0 : Int32)), .val (.int z), .val (.long acc), .second, .val (.int (g (own_i0 g fr + mm))), s9] [(.int (48 : Int32)), (.int (g (own_i0 g fr + mm)))]))
      by_cases qa : (g (own_i0 g fr + mm)).toInt < 48
      ·
        refine own_go (fun t k => XS.icmpYes X0.here hx rfl (pc0 := 57) (pc' := 67) rfl (hb hby d3_57) rfl (own_ltY (k := 48) (by decide) qa) (by decide) (by decide) k) ?_
        show own_End p e below s _ _ _ (s0.setTop (mkF m 67 #[.val (.ref ta), .val (.int fm), .val (.int (22 : Int32)), .val .null, .val (.int (0 : Int32)), .val (.int z), .val (.long acc), .second, .val (.int (g (own_i0 g fr + mm))), s9] []))
        refine own_go (fun t k => XS.iconst X0.here hx rfl (hb hby d3_67) k) ?_
        show own_End p e below s _ _ _ (s0.setTop (mkF m 68 #[.val (.ref ta), .val (.int fm), .val (.int (22 : Int32)), .val .null, .val (.int (0 : Int32)), .val (.int z), .val (.long acc), .second, .val (.int (g (own_i0 g fr + mm))), s9] [(.int (0 : Int32))]))
        exact own_retN X0 hx (t := .boolean) hret hlk (by simp) (hb hby d3_68) ⟨N0, e0, Or.inl ⟨rfl, (own_noB (p := own_i0 g fr + mm) (by omega) (by omega) (fun q => by have := q.1; omega))⟩⟩ (by decide) (by decide)
      refine own_go (fun t k => XS.icmpNo X0.here hx rfl (hb hby d3_57) rfl (own_ltN (k := 48) (by decide) qa) k) ?_
      show own_End p e below s _ _ _ (s0.setTop (mkF m 60 #[.val (.ref ta), .val (.int fm), .val (.int (22 : Int32)), .val .null, .val (.int (0 : Int32)), .val (.int z), .val (.long acc), .second, .val (.int (g (own_i0 g fr + mm))), s9] []))
      refine own_go (fun t k => XS.iload X0.here hx rfl (hb hby d3_60) rfl k) ?_
      show own_End p e below s _ _ _ (s0.setTop (mkF m 62 #[.val (.ref ta), .val (.int fm), .val (.int (22 : Int32)), .val .null, .val (.int (0 : Int32)), .val (.int z), .val (.long acc), .second, .val (.int (g (own_i0 g fr + mm))), s9] [(.int (g (own_i0 g fr + mm)))]))
      refine own_go (fun t k => XS.bipush X0.here hx rfl (hb hby d3_62) k) ?_
      show own_End p e below s _ _ _ (s0.setTop (mkF m 64 #[.val (.ref ta), .val (.int fm), .val (.int (22 : Int32)), .val .null, .val (.int (0 : Int32)), .val (.int z), .val (.long acc), .second, .val (.int (g (own_i0 g fr + mm))), s9] [(.int (57 : Int32)), (.int (g (own_i0 g fr + mm)))]))
      by_cases qb : (g (own_i0 g fr + mm)).toInt ≤ 57
      ·
        refine own_go (fun t k => XS.icmpYes X0.here hx rfl (pc0 := 64) (pc' := 69) rfl (hb hby d3_64) rfl (own_leY (k := 57) (by decide) qb) (by decide) (by decide) k) ?_
        show own_End p e below s _ _ _ (s0.setTop (mkF m 69 #[.val (.ref ta), .val (.int fm), .val (.int (22 : Int32)), .val .null, .val (.int (0 : Int32)), .val (.int z), .val (.long acc), .second, .val (.int (g (own_i0 g fr + mm))), s9] []))
        refine own_go (fun t k => XS.iload X0.here hx rfl (hb hby d3_69) rfl k) ?_
        show own_End p e below s _ _ _ (s0.setTop (mkF m 71 #[.val (.ref ta), .val (.int fm), .val (.int (22 : Int32)), .val .null, .val (.int (0 : Int32)), .val (.int z), .val (.long acc), .second, .val (.int (g (own_i0 g fr + mm))), s9] [(.int (g (own_i0 g fr + mm)))]))
        refine own_go (fun t k => XS.bipush X0.here hx rfl (hb hby d3_71) k) ?_
        show own_End p e below s _ _ _ (s0.setTop (mkF m 73 #[.val (.ref ta), .val (.int fm), .val (.int (22 : Int32)), .val .null, .val (.int (0 : Int32)), .val (.int z), .val (.long acc), .second, .val (.int (g (own_i0 g fr + mm))), s9] [(.int (48 : Int32)), (.int (g (own_i0 g fr + mm)))]))
        refine own_go (fun t k => XS.isub X0.here hx rfl (hb hby d3_73) rfl k) ?_
        show own_End p e below s _ _ _ (s0.setTop (mkF m 74 #[.val (.ref ta), .val (.int fm), .val (.int (22 : Int32)), .val .null, .val (.int (0 : Int32)), .val (.int z), .val (.long acc), .second, .val (.int (g (own_i0 g fr + mm))), s9] [(.int ((g (own_i0 g fr + mm)) - (48 : Int32)))]))
        obtain ⟨d67, qd67⟩ : ∃ z : Int32, z = ((g (own_i0 g fr + mm)) - (48 : Int32)) := ⟨_, rfl⟩
        rw [← qd67]
        show own_End p e below s _ _ _ (s0.setTop (mkF m 74 #[.val (.ref ta), .val (.int fm), .val (.int (22 : Int32)), .val .null, .val (.int (0 : Int32)), .val (.int z), .val (.long acc), .second, .val (.int (g (own_i0 g fr + mm))), s9] [(.int d67)]))
        have e48 : (48 : Int32).toInt = 48 := by decide
        have hdd : d67.toInt = (g (own_i0 g fr + mm)).toInt - 48 := by have := c_isub (g (own_i0 g fr + mm)) 48; have := rng32 (g (own_i0 g fr + mm) - 48); rw [qd67]; omega
        have hsv : own_val g (own_i0 g fr) (mm + 1) = own_val g (own_i0 g fr) mm * 10 + d67.toInt := by rw [hdd]; rfl
        refine own_go (fun t k => XS.istore X0.here hx rfl (hb hby d3_74) rfl (l' := #[.val (.ref ta), .val (.int fm), .val (.int (22 : Int32)), .val .null, .val (.int (0 : Int32)), .val (.int z), .val (.long acc), .second, .val (.int (g (own_i0 g fr + mm))), .val (.int d67)]) (XS.store1 rfl o9 rfl) k) ?_
        show own_End p e below s _ _ _ (s0.setTop (mkF m 76 #[.val (.ref ta), .val (.int fm), .val (.int (22 : Int32)), .val .null, .val (.int (0 : Int32)), .val (.int z), .val (.long acc), .second, .val (.int (g (own_i0 g fr + mm))), .val (.int d67)] []))
        refine own_go (fun t k => XT.lload X0.here hx rfl (hb hby d3_76) rfl k) ?_
        show own_End p e below s _ _ _ (s0.setTop (mkF m 78 #[.val (.ref ta), .val (.int fm), .val (.int (22 : Int32)), .val .null, .val (.int (0 : Int32)), .val (.int z), .val (.long acc), .second, .val (.int (g (own_i0 g fr + mm))), .val (.int d67)] [(.long acc)]))
        refine own_go (X0.ldc2Long (own := "com/example/ordinate/ordinate/sql/Numbers") (index := 21) (v := (-9223372036854775808)) hx hown (mvT hZ (hw _ (List.mem_of_getElem? (i := 36) rfl))) (g := (mkF m 78 #[.val (.ref ta), .val (.int fm), .val (.int (22 : Int32)), .val .null, .val (.int (0 : Int32)), .val (.int z), .val (.long acc), .second, .val (.int (g (own_i0 g fr + mm))), .val (.int d67)] [(.long acc)])) rfl (hb hby d3_78)) ?_
        show own_End p e below s _ _ _ (s0.setTop (mkF m 81 #[.val (.ref ta), .val (.int fm), .val (.int (22 : Int32)), .val .null, .val (.int (0 : Int32)), .val (.int z), .val (.long acc), .second, .val (.int (g (own_i0 g fr + mm))), .val (.int d67)] [(.long (-9223372036854775808 : Int64)), (.long acc)]))
        refine own_go (fun t k => XS.iload X0.here hx rfl (hb hby d3_81) rfl k) ?_
        show own_End p e below s _ _ _ (s0.setTop (mkF m 83 #[.val (.ref ta), .val (.int fm), .val (.int (22 : Int32)), .val .null, .val (.int (0 : Int32)), .val (.int z), .val (.long acc), .second, .val (.int (g (own_i0 g fr + mm))), .val (.int d67)] [(.int d67), (.long (-9223372036854775808 : Int64)), (.long acc)]))
        refine own_go (fun t k => XT.i2l X0.here hx rfl (hb hby d3_83) rfl k) ?_
        show own_End p e below s _ _ _ (s0.setTop (mkF m 84 #[.val (.ref ta), .val (.int fm), .val (.int (22 : Int32)), .val .null, .val (.int (0 : Int32)), .val (.int z), .val (.long acc), .second, .val (.int (g (own_i0 g fr + mm))), .val (.int d67)] [(.long (d67.toInt64)), (.long (-9223372036854775808 : Int64)), (.long acc)]))
        refine own_go (fun t k => XT.ladd X0.here hx rfl (hb hby d3_84) rfl k) ?_
        show own_End p e below s _ _ _ (s0.setTop (mkF m 85 #[.val (.ref ta), .val (.int fm), .val (.int (22 : Int32)), .val .null, .val (.int (0 : Int32)), .val (.int z), .val (.long acc), .second, .val (.int (g (own_i0 g fr + mm))), .val (.int d67)] [(.long ((-9223372036854775808 : Int64) + (d67.toInt64))), (.long acc)]))
        refine own_go (X0.ldc2Long (own := "com/example/ordinate/ordinate/sql/Numbers") (index := 23) (v := 10) hx hown (mvT hZ (hw _ (List.mem_of_getElem? (i := 37) rfl))) (g := (mkF m 85 #[.val (.ref ta), .val (.int fm), .val (.int (22 : Int32)), .val .null, .val (.int (0 : Int32)), .val (.int z), .val (.long acc), .second, .val (.int (g (own_i0 g fr + mm))), .val (.int d67)] [(.long ((-9223372036854775808 : Int64) + (d67.toInt64))), (.long acc)])) rfl (hb hby d3_85)) ?_
        show own_End p e below s _ _ _ (s0.setTop (mkF m 88 #[.val (.ref ta), .val (.int fm), .val (.int (22 : Int32)), .val .null, .val (.int (0 : Int32)), .val (.int z), .val (.long acc), .second, .val (.int (g (own_i0 g fr + mm))), .val (.int d67)] [(.long (10 : Int64)), (.long ((-9223372036854775808 : Int64) + (d67.toInt64))), (.long acc)]))
        refine own_go (fun t k => XT.ldiv X0.here hx rfl (hb hby d3_88) rfl (by decide) k) ?_
        show own_End p e below s _ _ _ (s0.setTop (mkF m 89 #[.val (.ref ta), .val (.int fm), .val (.int (22 : Int32)), .val .null, .val (.int (0 : Int32)), .val (.int z), .val (.long acc), .second, .val (.int (g (own_i0 g fr + mm))), .val (.int d67)] [(.long (((-9223372036854775808 : Int64) + (d67.toInt64)) / (10 : Int64))), (.long acc)]))
        obtain ⟨lm68, qlm68⟩ : ∃ z : Int64, z = (((-9223372036854775808 : Int64) + (d67.toInt64)) / (10 : Int64)) := ⟨_, rfl⟩
        rw [← qlm68]
        show own_End p e below s _ _ _ (s0.setTop (mkF m 89 #[.val (.ref ta), .val (.int fm), .val (.int (22 : Int32)), .val .null, .val (.int (0 : Int32)), .val (.int z), .val (.long acc), .second, .val (.int (g (own_i0 g fr + mm))), .val (.int d67)] [(.long lm68), (.long acc)]))
        have hlm : lm68.toInt = -((9223372036854775808 - d67.toInt) / 10) := by
          have h1 := own_addJ (x := -9223372036854775808) (y := d67.toInt64) (by rw [c_i2l]; have e0 : (-9223372036854775808 : Int64).toInt = -9223372036854775808 := (by decide); omega) (by rw [c_i2l]; have e0 : (-9223372036854775808 : Int64).toInt = -9223372036854775808 := (by decide); omega)
          rw [c_i2l] at h1
          have e0 : (-9223372036854775808 : Int64).toInt = -9223372036854775808 := by decide
          rw [qlm68, (c_ldiv _ 10 10 (by decide) (by decide)).2 (by omega), h1, e0]
          congr 2; omega
        refine own_go (fun t k => XT.lcmp X0.here hx rfl (hb hby d3_89) rfl k) ?_
        show own_End p e below s _ _ _ (s0.setTop (mkF m 90 #[.val (.ref ta), .val (.int fm), .val (.int (22 : Int32)), .val .null, .val (.int (0 : Int32)), .val (.int z), .val (.long acc), .second, .val (.int (g (own_i0 g fr + mm))), .val (.int d67)] [(.int (XT.cmpL acc lm68))]))
        by_cases qc : lm68.toInt ≤ acc.toInt
        ·
          refine own_go (fun t k => XS.ifYes X0.here hx rfl (pc0 := 90) (pc' := 95) rfl (hb hby d3_90) rfl (own_lgeY rfl qc) (by decide) (by decide) k) ?_
          show own_End p e below s _ _ _ (s0.setTop (mkF m 95 #[.val (.ref ta), .val (.int fm), .val (.int (22 : Int32)), .val .null, .val (.int (0 : Int32)), .val (.int z), .val (.long acc), .second, .val (.int (g (own_i0 g fr + mm))), .val (.int d67)] []))
          refine own_go (fun t k => XT.lload X0.here hx rfl (hb hby d3_95) rfl k) ?_
          show own_End p e below s _ _ _ (s0.setTop (mkF m 97 #[.val (.ref ta), .val (.int fm), .val (.int (22 : Int32)), .val .null, .val (.int (0 : Int32)), .val (.int z), .val (.long acc), .second, .val (.int (g (own_i0 g fr + mm))), .val (.int d67)] [(.long acc)]))
          refine own_go (X0.ldc2Long (own := "com/example/ordinate/ordinate/sql/Numbers") (index := 23) (v := 10) hx hown (mvT hZ (hw _ (List.mem_of_getElem? (i := 37) rfl))) (g := (mkF m 97 #[.val (.ref ta), .val (.int fm), .val (.int (22 : Int32)), .val .null, .val (.int (0 : Int32)), .val (.int z), .val (.long acc), .second, .val (.int (g (own_i0 g fr + mm))), .val (.int d67)] [(.long acc)])) rfl (hb hby d3_97)) ?_
          show own_End p e below s _ _ _ (s0.setTop (mkF m 100 #[.val (.ref ta), .val (.int fm), .val (.int (22 : Int32)), .val .null, .val (.int (0 : Int32)), .val (.int z), .val (.long acc), .second, .val (.int (g (own_i0 g fr + mm))), .val (.int d67)] [(.long (10 : Int64)), (.long acc)]))
          refine own_go (fun t k => XT.lmul X0.here hx rfl (hb hby d3_100) rfl k) ?_
          show own_End p e below s _ _ _ (s0.setTop (mkF m 101 #[.val (.ref ta), .val (.int fm), .val (.int (22 : Int32)), .val .null, .val (.int (0 : Int32)), .val (.int z), .val (.long acc), .second, .val (.int (g (own_i0 g fr + mm))), .val (.int d67)] [(.long (acc * (10 : Int64)))]))
          refine own_go (fun t k => XS.iload X0.here hx rfl (hb hby d3_101) rfl k) ?_
          show own_End p e below s _ _ _ (s0.setTop (mkF m 103 #[.val (.ref ta), .val (.int fm), .val (.int (22 : Int32)), .val .null, .val (.int (0 : Int32)), .val (.int z), .val (.long acc), .second, .val (.int (g (own_i0 g fr + mm))), .val (.int d67)] [(.int d67), (.long (acc * (10 : Int64)))]))
          refine own_go (fun t k => XT.i2l X0.here hx rfl (hb hby d3_103) rfl k) ?_
          show own_End p e below s _ _ _ (s0.setTop (mkF m 104 #[.val (.ref ta), .val (.int fm), .val (.int (22 : Int32)), .val .null, .val (.int (0 : Int32)), .val (.int z), .val (.long acc), .second, .val (.int (g (own_i0 g fr + mm))), .val (.int d67)] [(.long (d67.toInt64)), (.long (acc * (10 : Int64)))]))
          refine own_go (fun t k => XT.lsub X0.here hx rfl (hb hby d3_104) rfl k) ?_
          show own_End p e below s _ _ _ (s0.setTop (mkF m 105 #[.val (.ref ta), .val (.int fm), .val (.int (22 : Int32)), .val .null, .val (.int (0 : Int32)), .val (.int z), .val (.long acc), .second, .val (.int (g (own_i0 g fr + mm))), .val (.int d67)] [(.long ((acc * (10 : Int64)) - (d67.toInt64)))]))
          obtain ⟨ac69, qac69⟩ : ∃ z : Int64, z = ((acc * (10 : Int64)) - (d67.toInt64)) := ⟨_, rfl⟩
          rw [← qac69]
          show own_End p e below s _ _ _ (s0.setTop (mkF m 105 #[.val (.ref ta), .val (.int fm), .val (.int (22 : Int32)), .val .null, .val (.int (0 : Int32)), .val (.int z), .val (.long acc), .second, .val (.int (g (own_i0 g fr + mm))), .val (.int d67)] [(.long ac69)]))
          have hac : ac69.toInt = - own_val g (own_i0 g fr) (mm + 1) := by
            have h1 := c_lmul acc 10; have h2 := c_lsub (acc * 10) d67.toInt64; have h3 := rng64 (acc * 10 - d67.toInt64); have h4 := c_i2l d67
            have e0 : (10 : Int64).toInt = 10 := by decide
            rw [qac69, hsv]; rw [e0] at h1; omega
          refine own_go (fun t k => XT.lstore X0.here hx rfl (hb hby d3_105) rfl (l' := #[.val (.ref ta), .val (.int fm), .val (.int (22 : Int32)), .val .null, .val (.int (0 : Int32)), .val (.int z), .val (.long ac69), .second, .val (.int (g (own_i0 g fr + mm))), .val (.int d67)]) rfl k) ?_
          show own_End p e below s _ _ _ (s0.setTop (mkF m 107 #[.val (.ref ta), .val (.int fm), .val (.int (22 : Int32)), .val .null, .val (.int (0 : Int32)), .val (.int z), .val (.long ac69), .second, .val (.int (g (own_i0 g fr + mm))), .val (.int d67)] []))
          refine own_go (fun t k => XS.iinc X0.here hx rfl (hb hby d3_107) rfl (l' := #[.val (.ref ta), .val (.int fm), .val (.int (22 : Int32)), .val .null, .val (.int (0 : Int32)), .val (.int (z + (1 : Int32))), .val (.long ac69), .second, .val (.int (g (own_i0 g fr + mm))), .val (.int d67)]) rfl k) ?_
          show own_End p e below s _ _ _ (s0.setTop (mkF m 110 #[.val (.ref ta), .val (.int fm), .val (.int (22 : Int32)), .val .null, .val (.int (0 : Int32)), .val (.int (z + (1 : Int32))), .val (.long ac69), .second, .val (.int (g (own_i0 g fr + mm))), .val (.int d67)] []))
          refine own_go (fun t k => XS.goto X0.here hx rfl (pc0 := 110) (pc' := 41) rfl (hb hby d3_110) (by decide) (by decide) k) ?_
          show own_End p e below s _ _ _ (s0.setTop (mkF m 41 #[.val (.ref ta), .val (.int fm), .val (.int (22 : Int32)), .val .null, .val (.int (0 : Int32)), .val (.int (z + (1 : Int32))), .val (.long ac69), .second, .val (.int (g (own_i0 g fr + mm))), .val (.int d67)] []))
          have e1 : (1 : Int32).toInt = 1 := by decide
          exact ih (mm + 1) _ _ _ _ (One.val rfl) (One.val rfl) h22 (by have := c_iadd z 1; have := rng32 (z + 1); omega) (by omega) (fun j h1 h2 => by rcases (show j < own_i0 g fr + mm ∨ j = own_i0 g fr + mm by omega) with q | q; exact hd j h1 q; subst q; exact ⟨by omega, by omega⟩) hac (by omega)
        refine own_go (fun t k => XS.ifNo X0.here hx rfl (hb hby d3_90) rfl (own_lgeN rfl qc) k) ?_
        show own_End p e below s _ _ _ (s0.setTop (mkF m 93 #[.val (.ref ta), .val (.int fm), .val (.int (22 : Int32)), .val .null, .val (.int (0 : Int32)), .val (.int z), .val (.long acc), .second, .val (.int (g (own_i0 g fr + mm))), .val (.int d67)] []))
        refine own_go (fun t k => XS.iconst X0.here hx rfl (hb hby d3_93) k) ?_
        show own_End p e below s _ _ _ (s0.setTop (mkF m 94 #[.val (.ref ta), .val (.int fm), .val (.int (22 : Int32)), .val .null, .val (.int (0 : Int32)), .val (.int z), .val (.long acc), .second, .val (.int (g (own_i0 g fr + mm))), .val (.int d67)] [(.int (0 : Int32))]))
        exact own_retN X0 hx (t := .boolean) hret hlk (by simp) (hb hby d3_94) ⟨N0, e0, Or.inl ⟨rfl, (own_noV (m := mm + 1) (by omega) (by omega))⟩⟩ (by decide) (by decide)
      refine own_go (fun t k => XS.icmpNo X0.here hx rfl (hb hby d3_64) rfl (own_leN (k := 57) (by decide) qb) k) ?_
      show own_End p e below s _ _ _ (s0.setTop (mkF m 67 #[.val (.ref ta), .val (.int fm), .val (.int (22 : Int32)), .val .null, .val (.int (0 : Int32)), .val (.int z), .val (.long acc), .second, .val (.int (g (own_i0 g fr + mm))), s9] []))
      refine own_go (fun t k => XS.iconst X0.here hx rfl (hb hby d3_67) k) ?_
      show own_End p e below s _ _ _ (s0.setTop (mkF m 68 #[.val (.ref ta), .val (.int fm), .val (.int (22 : Int32)), .val .null, .val (.int (0 : Int32)), .val (.int z), .val (.long acc), .second, .val (.int (g (own_i0 g fr + mm))), s9] [(.int (0 : Int32))]))
      exact own_retN X0 hx (t := .boolean) hret hlk (by simp) (hb hby d3_68) ⟨N0, e0, Or.inl ⟨rfl, (own_noB (p := own_i0 g fr + mm) (by omega) (by omega) (fun q => by have := q.2; omega))⟩⟩ (by decide) (by decide)
  intro J41
  show own_End p e below s _ _ _ (s0.setTop (mkF m 0 #[.val (.ref ta), .val (.int fm), .val (.int (22 : Int32)), .val .null, .val (.int (0 : Int32)), .unset, .unset, .unset, .unset, .unset] []))
  refine own_join (fun G => ∀ z : Int32, z.toInt = ((own_i0 g fr : Nat) : Int) → G (s0.setTop (mkF m 28 #[.val (.ref ta), .val (.int fm), .val (.int (22 : Int32)), .val .null, .val (.int (0 : Int32)), .unset, .unset, .unset, .unset, .unset] [(.int z)]))) ?_ ?_
  ·
    intro z hz
    show own_End p e below s _ _ _ (s0.setTop (mkF m 28 #[.val (.ref ta), .val (.int fm), .val (.int (22 : Int32)), .val .null, .val (.int (0 : Int32)), .unset, .unset, .unset, .unset, .unset] [(.int z)]))
    refine own_go (fun t k => XS.istore X0.here hx rfl (hb hby d3_28) rfl (l' := #[.val (.ref ta), .val (.int fm), .val (.int (22 : Int32)), .val .null, .val (.int (0 : Int32)), .val (.int z), .unset, .unset, .unset, .unset]) rfl k) ?_
    show own_End p e below s _ _ _ (s0.setTop (mkF m 30 #[.val (.ref ta), .val (.int fm), .val (.int (22 : Int32)), .val .null, .val (.int (0 : Int32)), .val (.int z), .unset, .unset, .unset, .unset] []))
    refine own_go (fun t k => XS.iload X0.here hx rfl (hb hby d3_30) rfl k) ?_
    show own_End p e below s _ _ _ (s0.setTop (mkF m 32 #[.val (.ref ta), .val (.int fm), .val (.int (22 : Int32)), .val .null, .val (.int (0 : Int32)), .val (.int z), .unset, .unset, .unset, .unset] [(.int z)]))
    refine own_go (fun t k => XS.iloadN X0.here hx rfl (hb hby d3_32) rfl k) ?_
    show own_End p e below s _ _ _ (s0.setTop (mkF m 33 #[.val (.ref ta), .val (.int fm), .val (.int (22 : Int32)), .val .null, .val (.int (0 : Int32)), .val (.int z), .unset, .unset, .unset, .unset] [(.int (22 : Int32)), (.int z)]))
    have hi22 : own_i0 g fr ≤ 22 := by unfold own_i0; split <;> omega
    by_cases qe : ¬ z.toInt = 22
    ·
      refine own_go (fun t k => XS.icmpYes X0.here hx rfl (pc0 := 33) (pc' := 38) rfl (hb hby d3_33) rfl (own_neY (k := 22) (by decide) qe) (by decide) (by decide) k) ?_
      show own_End p e below s _ _ _ (s0.setTop (mkF m 38 #[.val (.ref ta), .val (.int fm), .val (.int (22 : Int32)), .val .null, .val (.int (0 : Int32)), .val (.int z), .unset, .unset, .unset, .unset] []))
      refine own_go (fun t k => XT.lconst X0.here hx rfl (hb hby d3_38) k) ?_
      show own_End p e below s _ _ _ (s0.setTop (mkF m 39 #[.val (.ref ta), .val (.int fm), .val (.int (22 : Int32)), .val .null, .val (.int (0 : Int32)), .val (.int z), .unset, .unset, .unset, .unset] [(.long (0 : Int64))]))
      refine own_go (fun t k => XT.lstore X0.here hx rfl (hb hby d3_39) rfl (l' := #[.val (.ref ta), .val (.int fm), .val (.int (22 : Int32)), .val .null, .val (.int (0 : Int32)), .val (.int z), .val (.long (0 : Int64)), .second, .unset, .unset]) rfl k) ?_
      show own_End p e below s _ _ _ (s0.setTop (mkF m 41 #[.val (.ref ta), .val (.int fm), .val (.int (22 : Int32)), .val .null, .val (.int (0 : Int32)), .val (.int z), .val (.long (0 : Int64)), .second, .unset, .unset] []))
      exact J41 (22 - own_i0 g fr) 0 z 0 _ _ One.u One.u (by omega) (by omega) (by omega) (fun j h1 h2 => by omega) rfl (by show (0 : Int) ≤ _; omega)
    refine own_go (fun t k => XS.icmpNo X0.here hx rfl (hb hby d3_33) rfl (own_neN (k := 22) (by decide) qe) k) ?_
    show own_End p e below s _ _ _ (s0.setTop (mkF m 36 #[.val (.ref ta), .val (.int fm), .val (.int (22 : Int32)), .val .null, .val (.int (0 : Int32)), .val (.int z), .unset, .unset, .unset, .unset] []))
    refine own_go (fun t k => XS.iconst X0.here hx rfl (hb hby d3_36) k) ?_
    show own_End p e below s _ _ _ (s0.setTop (mkF m 37 #[.val (.ref ta), .val (.int fm), .val (.int (22 : Int32)), .val .null, .val (.int (0 : Int32)), .val (.int z), .unset, .unset, .unset, .unset] [(.int (0 : Int32))]))
    exact own_retN X0 hx (t := .boolean) hret hlk (by simp) (hb hby d3_37) ⟨N0, e0, Or.inl ⟨rfl, (own_no0 (by omega))⟩⟩ (by decide) (by decide)
  intro J28
  show own_End p e below s _ _ _ (s0.setTop (mkF m 0 #[.val (.ref ta), .val (.int fm), .val (.int (22 : Int32)), .val .null, .val (.int (0 : Int32)), .unset, .unset, .unset, .unset, .unset] []))
  have e1 : (1 : Int32).toInt = 1 := by decide
  refine own_go (fun t k => XS.iloadN X0.here hx rfl (hb hby d3_0) rfl k) ?_
  show own_End p e below s _ _ _ (s0.setTop (mkF m 1 #[.val (.ref ta), .val (.int fm), .val (.int (22 : Int32)), .val .null, .val (.int (0 : Int32)), .unset, .unset, .unset, .unset, .unset] [(.int fm)]))
  refine own_go (fun t k => XS.iloadN X0.here hx rfl (hb hby d3_1) rfl k) ?_
  show own_End p e below s _ _ _ (s0.setTop (mkF m 2 #[.val (.ref ta), .val (.int fm), .val (.int (22 : Int32)), .val .null, .val (.int (0 : Int32)), .unset, .unset, .unset, .unset, .unset] [(.int (22 : Int32)), (.int fm)]))
  by_cases qs : 22 ≤ fm.toInt
  ·
    refine own_go (fun t k => XS.icmpYes X0.here hx rfl (pc0 := 2) (pc' := 27) rfl (hb hby d3_2) rfl (own_geY (k := 22) (by decide) qs) (by decide) (by decide) k) ?_
    show own_End p e below s _ _ _ (s0.setTop (mkF m 27 #[.val (.ref ta), .val (.int fm), .val (.int (22 : Int32)), .val .null, .val (.int (0 : Int32)), .unset, .unset, .unset, .unset, .unset] []))
    refine own_go (fun t k => XS.iloadN X0.here hx rfl (hb hby d3_27) rfl k) ?_
    show own_End p e below s _ _ _ (s0.setTop (mkF m 28 #[.val (.ref ta), .val (.int fm), .val (.int (22 : Int32)), .val .null, .val (.int (0 : Int32)), .unset, .unset, .unset, .unset, .unset] [(.int fm)]))
    exact J28 fm (by unfold own_i0; rw [if_neg (by omega)]; exact hfm)
  refine own_go (fun t k => XS.icmpNo X0.here hx rfl (hb hby d3_2) rfl (own_geN (k := 22) (by decide) qs) k) ?_
  show own_End p e below s _ _ _ (s0.setTop (mkF m 5 #[.val (.ref ta), .val (.int fm), .val (.int (22 : Int32)), .val .null, .val (.int (0 : Int32)), .unset, .unset, .unset, .unset, .unset] []))
  refine own_go (fun t k => XS.aloadN X0.here hx rfl (hb hby d3_5) rfl rfl k) ?_
  show own_End p e below s _ _ _ (s0.setTop (mkF m 6 #[.val (.ref ta), .val (.int fm), .val (.int (22 : Int32)), .val .null, .val (.int (0 : Int32)), .unset, .unset, .unset, .unset, .unset] [(.ref ta)]))
  refine own_go (fun t k => XS.iloadN X0.here hx rfl (hb hby d3_6) rfl k) ?_
  show own_End p e below s _ _ _ (s0.setTop (mkF m 7 #[.val (.ref ta), .val (.int fm), .val (.int (22 : Int32)), .val .null, .val (.int (0 : Int32)), .unset, .unset, .unset, .unset, .unset] [(.int fm), (.ref ta)]))
  refine own_go (own_fldC X0 hx hZ e0 F_ta (j := fm) (v := (.int (g fr))) fr hfm (by omega) rfl (pc := 7) (Ls := #[.val (.ref ta), .val (.int fm), .val (.int (22 : Int32)), .val .null, .val (.int (0 : Int32)), .unset, .unset, .unset, .unset, .unset]) (rest := []) (hb hby d3_7)) ?_
  show own_End p e below s _ _ _ (s0.setTop (mkF m 8 #[.val (.ref ta), .val (.int fm), .val (.int (22 : Int32)), .val .null, .val (.int (0 : Int32)), .unset, .unset, .unset, .unset, .unset] [(.int (g fr))]))
  refine own_go (fun t k => XS.bipush X0.here hx rfl (hb hby d3_8) k) ?_
  show own_End p e below s _ _ _ (s0.setTop (mkF m 10 #[.val (.ref ta), .val (.int fm), .val (.int (22 : Int32)), .val .null, .val (.int (0 : Int32)), .unset, .unset, .unset, .unset, .unset] [(.int (45 : Int32)), (.int (g fr))]))
  by_cases qt : (g fr).toInt = 45
  ·
    refine own_go (fun t k => XS.icmpYes X0.here hx rfl (pc0 := 10) (pc' := 21) rfl (hb hby d3_10) rfl (own_eqY (k := 45) (by decide) qt) (by decide) (by decide) k) ?_
    show own_End p e below s _ _ _ (s0.setTop (mkF m 21 #[.val (.ref ta), .val (.int fm), .val (.int (22 : Int32)), .val .null, .val (.int (0 : Int32)), .unset, .unset, .unset, .unset, .unset] []))
    refine own_go (fun t k => XS.iloadN X0.here hx rfl (hb hby d3_21) rfl k) ?_
    show own_End p e below s _ _ _ (s0.setTop (mkF m 22 #[.val (.ref ta), .val (.int fm), .val (.int (22 : Int32)), .val .null, .val (.int (0 : Int32)), .unset, .unset, .unset, .unset, .unset] [(.int fm)]))
    refine own_go (fun t k => XS.iconst X0.here hx rfl (hb hby d3_22) k) ?_
    show own_End p e below s _ _ _ (s0.setTop (mkF m 23 #[.val (.ref ta), .val (.int fm), .val (.int (22 : Int32)), .val .null, .val (.int (0 : Int32)), .unset, .unset, .unset, .unset, .unset] [(.int (1 : Int32)), (.int fm)]))
    refine own_go (fun t k => XS.iadd X0.here hx rfl (hb hby d3_23) rfl k) ?_
    show own_End p e below s _ _ _ (s0.setTop (mkF m 24 #[.val (.ref ta), .val (.int fm), .val (.int (22 : Int32)), .val .null, .val (.int (0 : Int32)), .unset, .unset, .unset, .unset, .unset] [(.int (fm + (1 : Int32)))]))
    refine own_go (fun t k => XS.goto X0.here hx rfl (pc0 := 24) (pc' := 28) rfl (hb hby d3_24) (by decide) (by decide) k) ?_
    show own_End p e below s _ _ _ (s0.setTop (mkF m 28 #[.val (.ref ta), .val (.int fm), .val (.int (22 : Int32)), .val .null, .val (.int (0 : Int32)), .unset, .unset, .unset, .unset, .unset] [(.int (fm + (1 : Int32)))]))
    exact J28 (fm + 1) (by unfold own_i0; rw [if_pos ⟨by omega, Or.inl qt⟩]; have := c_iadd fm 1; have := rng32 (fm + 1); omega)
  refine own_go (fun t k => XS.icmpNo X0.here hx rfl (hb hby d3_10) rfl (own_eqN (k := 45) (by decide) qt) k) ?_
  show own_End p e below s _ _ _ (s0.setTop (mkF m 13 #[.val (.ref ta), .val (.int fm), .val (.int (22 : Int32)), .val .null, .val (.int (0 : Int32)), .unset, .unset, .unset, .unset, .unset] []))
  refine own_go (fun t k => XS.aloadN X0.here hx rfl (hb hby d3_13) rfl rfl k) ?_
  show own_End p e below s _ _ _ (s0.setTop (mkF m 14 #[.val (.ref ta), .val (.int fm), .val (.int (22 : Int32)), .val .null, .val (.int (0 : Int32)), .unset, .unset, .unset, .unset, .unset] [(.ref ta)]))
  refine own_go (fun t k => XS.iloadN X0.here hx rfl (hb hby d3_14) rfl k) ?_
  show own_End p e below s _ _ _ (s0.setTop (mkF m 15 #[.val (.ref ta), .val (.int fm), .val (.int (22 : Int32)), .val .null, .val (.int (0 : Int32)), .unset, .unset, .unset, .unset, .unset] [(.int fm), (.ref ta)]))
  refine own_go (own_fldC X0 hx hZ e0 F_ta (j := fm) (v := (.int (g fr))) fr hfm (by omega) rfl (pc := 15) (Ls := #[.val (.ref ta), .val (.int fm), .val (.int (22 : Int32)), .val .null, .val (.int (0 : Int32)), .unset, .unset, .unset, .unset, .unset]) (rest := []) (hb hby d3_15)) ?_
  show own_End p e below s _ _ _ (s0.setTop (mkF m 16 #[.val (.ref ta), .val (.int fm), .val (.int (22 : Int32)), .val .null, .val (.int (0 : Int32)), .unset, .unset, .unset, .unset, .unset] [(.int (g fr))]))
  refine own_go (fun t k => XS.bipush X0.here hx rfl (hb hby d3_16) k) ?_
  show own_End p e below s _ _ _ (s0.setTop (mkF m 18 #[.val (.ref ta), .val (.int fm), .val (.int (22 : Int32)), .val .null, .val (.int (0 : Int32)), .unset, .unset, .unset, .unset, .unset] [(.int (43 : Int32)), (.int (g fr))]))
  by_cases qu : ¬ (g fr).toInt = 43
  ·
    refine own_go (fun t k => XS.icmpYes X0.here hx rfl (pc0 := 18) (pc' := 27) rfl (hb hby d3_18) rfl (own_neY (k := 43) (by decide) qu) (by decide) (by decide) k) ?_
    show own_End p e below s _ _ _ (s0.setTop (mkF m 27 #[.val (.ref ta), .val (.int fm), .val (.int (22 : Int32)), .val .null, .val (.int (0 : Int32)), .unset, .unset, .unset, .unset, .unset] []))
    refine own_go (fun t k => XS.iloadN X0.here hx rfl (hb hby d3_27) rfl k) ?_
    show own_End p e below s _ _ _ (s0.setTop (mkF m 28 #[.val (.ref ta), .val (.int fm), .val (.int (22 : Int32)), .val .null, .val (.int (0 : Int32)), .unset, .unset, .unset, .unset, .unset] [(.int fm)]))
    exact J28 fm (by unfold own_i0; rw [if_neg (by omega)]; exact hfm)
  refine own_go (fun t k => XS.icmpNo X0.here hx rfl (hb hby d3_18) rfl (own_neN (k := 43) (by decide) qu) k) ?_
  show own_End p e below s _ _ _ (s0.setTop (mkF m 21 #[.val (.ref ta), .val (.int fm), .val (.int (22 : Int32)), .val .null, .val (.int (0 : Int32)), .unset, .unset, .unset, .unset, .unset] []))
  refine own_go (fun t k => XS.iloadN X0.here hx rfl (hb hby d3_21) rfl k) ?_
  show own_End p e below s _ _ _ (s0.setTop (mkF m 22 #[.val (.ref ta), .val (.int fm), .val (.int (22 : Int32)), .val .null, .val (.int (0 : Int32)), .unset, .unset, .unset, .unset, .unset] [(.int fm)]))
  refine own_go (fun t k => XS.iconst X0.here hx rfl (hb hby d3_22) k) ?_
  show own_End p e below s _ _ _ (s0.setTop (mkF m 23 #[.val (.ref ta), .val (.int fm), .val (.int (22 : Int32)), .val .null, .val (.int (0 : Int32)), .unset, .unset, .unset, .unset, .unset] [(.int (1 : Int32)), (.int fm)]))
  refine own_go (fun t k => XS.iadd X0.here hx rfl (hb hby d3_23) rfl k) ?_
  show own_End p e below s _ _ _ (s0.setTop (mkF m 24 #[.val (.ref ta), .val (.int fm), .val (.int (22 : Int32)), .val .null, .val (.int (0 : Int32)), .unset, .unset, .unset, .unset, .unset] [(.int (fm + (1 : Int32)))]))
  refine own_go (fun t k => XS.goto X0.here hx rfl (pc0 := 24) (pc' := 28) rfl (hb hby d3_24) (by decide) (by decide) k) ?_
  show own_End p e below s _ _ _ (s0.setTop (mkF m 28 #[.val (.ref ta), .val (.int fm), .val (.int (22 : Int32)), .val .null, .val (.int (0 : Int32)), .unset, .unset, .unset, .unset, .unset] [(.int (fm + (1 : Int32)))]))
  exact J28 (fm + 1) (by unfold own_i0; rw [if_pos ⟨by omega, Or.inr (by omega)⟩]; have := c_iadd fm 1; have := rng32 (fm + 1); omega)
set_option maxRecDepth 65536 in
set_option maxHeartbeats 40000000 in
theorem rm3_1 (l : Launch) (Z : State) (a0 : Array Value) (hw : ∀ d ∈ tables_1, d.before a0 Z = true) (ws : List Jvm.Cond) (ta : Addr) (fm : Int32) (ia : Addr) (ax : Int32) (h0 : Heap) (n0 : Nat) (Z0 : n0 ≤ h0.size) (g : Nat → Int32) (fr : Nat) (hfm : fm.toInt = fr) (hf22 : fr ≤ 22) {kt : ClassId} (F_ta : own_F Z h0 ta kt .char 23 (fun i => .int (g i))) {ki : ClassId} (fi : Nat → Value) (F_ia : own_F Z h0 ia ki .long 3 fi) (nia : n0 ≤ ia) (ne_ta_ia : ta ≠ ia) (an : Nat) (hax : ax.toInt = an) (han : an < 3) :
    own_Met l (⟨"com/example/ordinate/ordinate/sql/Numbers", "parseInteger", "([CII[JI)Z"⟩ : MethodName) prog_211_method_4_code 10 (some .boolean) ws ({ frames := 0, cells := 0, slots := 0, locals := 0 } : Room) #[(.ref ta), (.int fm), (.int (22 : Int32)), (.ref ia), (.int ax)] Z h0 (fun v h L => Fr n0 L ∧ ((v = some (.int 0) ∧ ¬ own_ok g fr ∧ h = h0) ∨ (v = some (.int 1) ∧ own_ok g fr ∧ Keep h0 h [ia] ∧ ∃ y : Int64, y.toInt = own_res g fr ∧ own_F Z h ia ki .long 3 (own_up fi an (.long y))))) := by
  refine own_body (plainFor_of_name pn_Numbers) ?_
  intro p e s m below meth c s0 X0 hx hby hml hret hlk hown hnm hZ e0
  replace hown : s.vm.findClass "com/example/ordinate/ordinate/sql/Numbers" = some m.cls := hown
  have N0 := Fr.nil n0
  have ef : entryFrame m #[(.ref ta), (.int fm), (.int (22 : Int32)), (.ref ia), (.int ax)] 10 = (mkF m 0 #[.val (.ref ta), .val (.int fm), .val (.int (22 : Int32)), .val (.ref ia), .val (.int ax), .unset, .unset, .unset, .unset, .unset] []) := by first | (simp [entryFrame, mkF, argsToLocals, Value.category, maxLocals]; done) | rfl
  rw [ef]
  show own_End p e below s _ _ _ (s0.setTop (mkF m 0 #[.val (.ref ta), .val (.int fm), .val (.int (22 : Int32)), .val (.ref ia), .val (.int ax), .unset, .unset, .unset, .unset, .unset] []))
  have K70 := Keep.refl h0 [ia]
  refine own_join (fun G => ∀ (nn mm : Nat) (z : Int32) (acc : Int64) (s8 s9 : Slot), One s8 → One s9 → (own_i0 g fr < 22) → z.toInt = ((own_i0 g fr + mm : Nat) : Int) → own_i0 g fr + mm + nn = 22 → (∀ j, own_i0 g fr ≤ j → j < own_i0 g fr + mm → own_dig g j) → acc.toInt = - own_val g (own_i0 g fr) mm → own_val g (own_i0 g fr) mm ≤ 9223372036854775808 → G (s0.setTop (mkF m 41 #[.val (.ref ta), .val (.int fm), .val (.int (22 : Int32)), .val (.ref ia), .val (.int ax), .val (.int z), .val (.long acc), .second, s8, s9] []))) ?_ ?_
  ·
    intro nn
    induction nn with
    | zero =>
      intro mm z acc s8 s9 o8 o9 h22 hz hmn hd ha hv
      show own_End p e below s _ _ _ (s0.setTop (mkF m 41 #[.val (.ref ta), .val (.int fm), .val (.int (22 : Int32)), .val (.ref ia), .val (.int ax), .val (.int z), .val (.long acc), .second, s8, s9] []))
      have h23 : own_i0 g fr + mm = 22 := by omega
      have hmm : 22 - own_i0 g fr = mm := by omega
      have hfr : fr < 22 := by unfold own_i0 at h22; split at h22 <;> omega
      have hv0 := own_val0 hd
      refine own_go (fun t k => XS.iload X0.here hx rfl (hb hby d3_41) rfl k) ?_
      show own_End p e below s _ _ _ (s0.setTop (mkF m 43 #[.val (.ref ta), .val (.int fm), .val (.int (22 : Int32)), .val (.ref ia), .val (.int ax), .val (.int z), .val (.long acc), .second, s8, s9] [(.int z)]))
      refine own_go (fun t k => XS.iloadN X0.here hx rfl (hb hby d3_43) rfl k) ?_
      show own_End p e below s _ _ _ (s0.setTop (mkF m 44 #[.val (.ref ta), .val (.int fm), .val (.int (22 : Int32)), .val (.ref ia), .val (.int ax), .val (.int z), .val (.long acc), .second, s8, s9] [(.int (22 : Int32)), (.int z)]))
      refine own_go (fun t k => XS.icmpYes X0.here hx rfl (pc0 := 44) (pc' := 113) rfl (hb hby d3_44) rfl (own_geY (k := 22) (by decide) (by omega)) (by decide) (by decide) k) ?_
      show own_End p e below s _ _ _ (s0.setTop (mkF m 113 #[.val (.ref ta), .val (.int fm), .val (.int (22 : Int32)), .val (.ref ia), .val (.int ax), .val (.int z), .val (.long acc), .second, s8, s9] []))
      refine own_go (fun t k => XS.aloadN X0.here hx rfl (hb hby d3_113) rfl rfl k) ?_
      show own_End p e below s _ _ _ (s0.setTop (mkF m 114 #[.val (.ref ta), .val (.int fm), .val (.int (22 : Int32)), .val (.ref ia), .val (.int ax), .val (.int z), .val (.long acc), .second, s8, s9] [(.ref ta)]))
      refine own_go (fun t k => XS.iloadN X0.here hx rfl (hb hby d3_114) rfl k) ?_
      show own_End p e below s _ _ _ (s0.setTop (mkF m 115 #[.val (.ref ta), .val (.int fm), .val (.int (22 : Int32)), .val (.ref ia), .val (.int ax), .val (.int z), .val (.long acc), .second, s8, s9] [(.int fm), (.ref ta)]))
      refine own_go (own_fldC X0 hx hZ e0 F_ta (j := fm) (v := (.int (g fr))) fr hfm (by omega) rfl (pc := 115) (Ls := #[.val (.ref ta), .val (.int fm), .val (.int (22 : Int32)), .val (.ref ia), .val (.int ax), .val (.int z), .val (.long acc), .second, s8, s9]) (rest := []) (hb hby d3_115)) ?_
      show own_End p e below s _ _ _ (s0.setTop (mkF m 116 #[.val (.ref ta), .val (.int fm), .val (.int (22 : Int32)), .val (.ref ia), .val (.int ax), .val (.int z), .val (.long acc), .second, s8, s9] [(.int (g fr))]))
      refine own_go (fun t k => XS.bipush X0.here hx rfl (hb hby d3_116) k) ?_
      show own_End p e below s _ _ _ (s0.setTop (mkF m 118 #[.val (.ref ta), .val (.int fm), .val (.int (22 : Int32)), .val (.ref ia), .val (.int ax), .val (.int z), .val (.long acc), .second, s8, s9] [(.int (45 : Int32)), (.int (g fr))]))
      by_cases qm : (g fr).toInt = 45
      ·
        refine own_go (fun t k => XS.icmpYes X0.here hx rfl (pc0 := 118) (pc' := 137) rfl (hb hby d3_118) rfl (own_eqY (k := 45) (by decide) qm) (by decide) (by decide) k) ?_
        show own_End p e below s _ _ _ (s0.setTop (mkF m 137 #[.val (.ref ta), .val (.int fm), .val (.int (22 : Int32)), .val (.ref ia), .val (.int ax), .val (.int z), .val (.long acc), .second, s8, s9] []))
        refine own_go (fun t k => XS.aloadN X0.here hx rfl (hb hby d3_137) rfl rfl k) ?_
        show own_End p e below s _ _ _ (s0.setTop (mkF m 138 #[.val (.ref ta), .val (.int fm), .val (.int (22 : Int32)), .val (.ref ia), .val (.int ax), .val (.int z), .val (.long acc), .second, s8, s9] [(.ref ia)]))
        refine own_go (fun t k => XS.ifnullNo X0.here hx rfl (hb hby d3_138) rfl k) ?_
        show own_End p e below s _ _ _ (s0.setTop (mkF m 141 #[.val (.ref ta), .val (.int fm), .val (.int (22 : Int32)), .val (.ref ia), .val (.int ax), .val (.int z), .val (.long acc), .second, s8, s9] []))
        refine own_go (fun t k => XS.aloadN X0.here hx rfl (hb hby d3_141) rfl rfl k) ?_
        show own_End p e below s _ _ _ (s0.setTop (mkF m 142 #[.val (.ref ta), .val (.int fm), .val (.int (22 : Int32)), .val (.ref ia), .val (.int ax), .val (.int z), .val (.long acc), .second, s8, s9] [(.ref ia)]))
        refine own_go (fun t k => XS.iload X0.here hx rfl (hb hby d3_142) rfl k) ?_
        show own_End p e below s _ _ _ (s0.setTop (mkF m 144 #[.val (.ref ta), .val (.int fm), .val (.int (22 : Int32)), .val (.ref ia), .val (.int ax), .val (.int z), .val (.long acc), .second, s8, s9] [(.int ax), (.ref ia)]))
        refine own_go (fun t k => XT.lload X0.here hx rfl (hb hby d3_144) rfl k) ?_
        show own_End p e below s _ _ _ (s0.setTop (mkF m 146 #[.val (.ref ta), .val (.int fm), .val (.int (22 : Int32)), .val (.ref ia), .val (.int ax), .val (.int z), .val (.long acc), .second, s8, s9] [(.long acc), (.int ax), (.ref ia)]))
        obtain ⟨T71, h71, X71, e71, W71, F71, st71⟩ := own_fstJ X0 hx hZ e0 F_ia (j := ax) (y := acc) an hax han (pc := 146) (Ls := #[.val (.ref ta), .val (.int fm), .val (.int (22 : Int32)), .val (.ref ia), .val (.int ax), .val (.int z), .val (.long acc), .second, s8, s9]) (rest := []) (hb hby d3_146)
        have N71 := Fr.snoc X71 N0 nia
        have Z71 : n0 ≤ h71.size := by rw [W71.size]; exact Z0
        refine own_go st71 ?_
        have K72 := K70.wr W71 (Or.inl (List.mem_of_getElem? (i := 0) rfl))
        have f73 := F_ta.other W71 ne_ta_ia
        show own_End p e below s _ _ _ (T71.setTop (mkF m 147 #[.val (.ref ta), .val (.int fm), .val (.int (22 : Int32)), .val (.ref ia), .val (.int ax), .val (.int z), .val (.long acc), .second, s8, s9] []))
        refine own_go (fun t k => XS.iconst X71.here hx rfl (hb hby d3_147) k) ?_
        show own_End p e below s _ _ _ (T71.setTop (mkF m 148 #[.val (.ref ta), .val (.int fm), .val (.int (22 : Int32)), .val (.ref ia), .val (.int ax), .val (.int z), .val (.long acc), .second, s8, s9] [(.int (1 : Int32))]))
        exact own_retN X71 hx (t := .boolean) hret hlk (by simp) (hb hby d3_148) ⟨N71, Or.inr ⟨rfl, ⟨h22, fun j h1 h2 => hd j h1 (by omega), by unfold own_lim; rw [if_pos qm, hmm]; exact hv⟩, by rw [e71]; exact K72, _, (by unfold own_res; rw [if_pos qm, hmm]; exact ha), by rw [e71]; exact F71⟩⟩ (by decide) (by decide)
      refine own_go (fun t k => XS.icmpNo X0.here hx rfl (hb hby d3_118) rfl (own_eqN (k := 45) (by decide) qm) k) ?_
      show own_End p e below s _ _ _ (s0.setTop (mkF m 121 #[.val (.ref ta), .val (.int fm), .val (.int (22 : Int32)), .val (.ref ia), .val (.int ax), .val (.int z), .val (.long acc), .second, s8, s9] []))
      refine own_go (fun t k => XT.lload X0.here hx rfl (hb hby d3_121) rfl k) ?_
      show own_End p e below s _ _ _ (s0.setTop (mkF m 123 #[.val (.ref ta), .val (.int fm), .val (.int (22 : Int32)), .val (.ref ia), .val (.int ax), .val (.int z), .val (.long acc), .second, s8, s9] [(.long acc)]))
      refine own_go (X0.ldc2Long (own := "com/example/ordinate/ordinate/sql/Numbers") (index := 21) (v := (-9223372036854775808)) hx hown (mvT hZ (hw _ (List.mem_of_getElem? (i := 36) rfl))) (g := (mkF m 123 #[.val (.ref ta), .val (.int fm), .val (.int (22 : Int32)), .val (.ref ia), .val (.int ax), .val (.int z), .val (.long acc), .second, s8, s9] [(.long acc)])) rfl (hb hby d3_123)) ?_
      show own_End p e below s _ _ _ (s0.setTop (mkF m 126 #[.val (.ref ta), .val (.int fm), .val (.int (22 : Int32)), .val (.ref ia), .val (.int ax), .val (.int z), .val (.long acc), .second, s8, s9] [(.long (-9223372036854775808 : Int64)), (.long acc)]))
      refine own_go (fun t k => XT.lcmp X0.here hx rfl (hb hby d3_126) rfl k) ?_
      show own_End p e below s _ _ _ (s0.setTop (mkF m 127 #[.val (.ref ta), .val (.int fm), .val (.int (22 : Int32)), .val (.ref ia), .val (.int ax), .val (.int z), .val (.long acc), .second, s8, s9] [(.int (XT.cmpL acc (-9223372036854775808 : Int64)))]))
      by_cases qn : ¬ acc.toInt = (-9223372036854775808)
      ·
        refine own_go (fun t k => XS.ifYes X0.here hx rfl (pc0 := 127) (pc' := 132) rfl (hb hby d3_127) rfl (own_lneY (k := (-9223372036854775808)) (by decide) qn) (by decide) (by decide) k) ?_
        show own_End p e below s _ _ _ (s0.setTop (mkF m 132 #[.val (.ref ta), .val (.int fm), .val (.int (22 : Int32)), .val (.ref ia), .val (.int ax), .val (.int z), .val (.long acc), .second, s8, s9] []))
        refine own_go (fun t k => XT.lload X0.here hx rfl (hb hby d3_132) rfl k) ?_
        show own_End p e below s _ _ _ (s0.setTop (mkF m 134 #[.val (.ref ta), .val (.int fm), .val (.int (22 : Int32)), .val (.ref ia), .val (.int ax), .val (.int z), .val (.long acc), .second, s8, s9] [(.long acc)]))
        have hneg : (-acc).toInt = own_val g (own_i0 g fr) mm := by have h1 := c_lneg acc; have h2 := rng64 (-acc); have h3 := rng64 acc; omega
        refine own_go (fun t k => XT.lneg X0.here hx rfl (hb hby d3_134) rfl k) ?_
        show own_End p e below s _ _ _ (s0.setTop (mkF m 135 #[.val (.ref ta), .val (.int fm), .val (.int (22 : Int32)), .val (.ref ia), .val (.int ax), .val (.int z), .val (.long acc), .second, s8, s9] [(.long (-acc))]))
        obtain ⟨na75, qna75⟩ : ∃ z : Int64, z = (-acc) := ⟨_, rfl⟩
        rw [← qna75]
        show own_End p e below s _ _ _ (s0.setTop (mkF m 135 #[.val (.ref ta), .val (.int fm), .val (.int (22 : Int32)), .val (.ref ia), .val (.int ax), .val (.int z), .val (.long acc), .second, s8, s9] [(.long na75)]))
        rw [← qna75] at hneg
        refine own_go (fun t k => XT.lstore X0.here hx rfl (hb hby d3_135) rfl (l' := #[.val (.ref ta), .val (.int fm), .val (.int (22 : Int32)), .val (.ref ia), .val (.int ax), .val (.int z), .val (.long na75), .second, s8, s9]) rfl k) ?_
        show own_End p e below s _ _ _ (s0.setTop (mkF m 137 #[.val (.ref ta), .val (.int fm), .val (.int (22 : Int32)), .val (.ref ia), .val (.int ax), .val (.int z), .val (.long na75), .second, s8, s9] []))
        refine own_go (fun t k => XS.aloadN X0.here hx rfl (hb hby d3_137) rfl rfl k) ?_
        show own_End p e below s _ _ _ (s0.setTop (mkF m 138 #[.val (.ref ta), .val (.int fm), .val (.int (22 : Int32)), .val (.ref ia), .val (.int ax), .val (.int z), .val (.long na75), .second, s8, s9] [(.ref ia)]))
        refine own_go (fun t k => XS.ifnullNo X0.here hx rfl (hb hby d3_138) rfl k) ?_
        show own_End p e below s _ _ _ (s0.setTop (mkF m 141 #[.val (.ref ta), .val (.int fm), .val (.int (22 : Int32)), .val (.ref ia), .val (.int ax), .val (.int z), .val (.long na75), .second, s8, s9] []))
        refine own_go (fun t k => XS.aloadN X0.here hx rfl (hb hby d3_141) rfl rfl k) ?_
        show own_End p e below s _ _ _ (s0.setTop (mkF m 142 #[.val (.ref ta), .val (.int fm), .val (.int (22 : Int32)), .val (.ref ia), .val (.int ax), .val (.int z), .val (.long na75), .second, s8, s9] [(.ref ia)]))
        refine own_go (fun t k => XS.iload X0.here hx rfl (hb hby d3_142) rfl k) ?_
        show own_End p e below s _ _ _ (s0.setTop (mkF m 144 #[.val (.ref ta), .val (.int fm), .val (.int (22 : Int32)), .val (.ref ia), .val (.int ax), .val (.int z), .val (.long na75), .second, s8, s9] [(.int ax), (.ref ia)]))
        refine own_go (fun t k => XT.lload X0.here hx rfl (hb hby d3_144) rfl k) ?_
        show own_End p e below s _ _ _ (s0.setTop (mkF m 146 #[.val (.ref ta), .val (.int fm), .val (.int (22 : Int32)), .val (.ref ia), .val (.int ax), .val (.int z), .val (.long na75), .second, s8, s9] [(.long na75), (.int ax), (.ref ia)]))
        obtain ⟨T76, h76, X76, e76, W76, F76, st76⟩ := own_fstJ X0 hx hZ e0 F_ia (j := ax) (y := na75) an hax han (pc := 146) (Ls := #[.val (.ref ta), .val (.int fm), .val (.int (22 : Int32)), .val (.ref ia), .val (.int ax), .val (.int z), .val (.long na75), .second, s8, s9]) (rest := []) (hb hby d3_146)
        have N76 := Fr.snoc X76 N0 nia
        have Z76 : n0 ≤ h76.size := by rw [W76.size]; exact Z0
        refine own_go st76 ?_
        have K77 := K70.wr W76 (Or.inl (List.mem_of_getElem? (i := 0) rfl))
        have f78 := F_ta.other W76 ne_ta_ia
        show own_End p e below s _ _ _ (T76.setTop (mkF m 147 #[.val (.ref ta), .val (.int fm), .val (.int (22 : Int32)), .val (.ref ia), .val (.int ax), .val (.int z), .val (.long na75), .second, s8, s9] []))
        refine own_go (fun t k => XS.iconst X76.here hx rfl (hb hby d3_147) k) ?_
        show own_End p e below s _ _ _ (T76.setTop (mkF m 148 #[.val (.ref ta), .val (.int fm), .val (.int (22 : Int32)), .val (.ref ia), .val (.int ax), .val (.int z), .val (.long na75), .second, s8, s9] [(.int (1 : Int32))]))
        exact own_retN X76 hx (t := .boolean) hret hlk (by simp) (hb hby d3_148) ⟨N76, Or.inr ⟨rfl, ⟨h22, fun j h1 h2 => hd j h1 (by omega), by unfold own_lim; rw [if_neg qm, hmm]; omega⟩, by rw [e76]; exact K77, _, (by unfold own_res; rw [if_neg qm, hmm]; exact hneg), by rw [e76]; exact F76⟩⟩ (by decide) (by decide)
      refine own_go (fun t k => XS.ifNo X0.here hx rfl (hb hby d3_127) rfl (own_lneN (k := (-9223372036854775808)) (by decide) qn) k) ?_
      show own_End p e below s _ _ _ (s0.setTop (mkF m 130 #[.val (.ref ta), .val (.int fm), .val (.int (22 : Int32)), .val (.ref ia), .val (.int ax), .val (.int z), .val (.long acc), .second, s8, s9] []))
      refine own_go (fun t k => XS.iconst X0.here hx rfl (hb hby d3_130) k) ?_
      show own_End p e below s _ _ _ (s0.setTop (mkF m 131 #[.val (.ref ta), .val (.int fm), .val (.int (22 : Int32)), .val (.ref ia), .val (.int ax), .val (.int z), .val (.long acc), .second, s8, s9] [(.int (0 : Int32))]))
      exact own_retN X0 hx (t := .boolean) hret hlk (by simp) (hb hby d3_131) ⟨N0, Or.inl ⟨rfl, (fun h => by have h1 := h.2.2; unfold own_lim at h1; rw [if_neg qm, hmm] at h1; omega), e0⟩⟩ (by decide) (by decide)
    | succ nn ih =>
      intro mm z acc s8 s9 o8 o9 h22 hz hmn hd ha hv
      show own_End p e below s _ _ _ (s0.setTop (mkF m 41 #[.val (.ref ta), .val (.int fm), .val (.int (22 : Int32)), .val (.ref ia), .val (.int ax), .val (.int z), .val (.long acc), .second, s8, s9] []))
      have hv0 := own_val0 hd
      refine own_go (fun t k => XS.iload X0.here hx rfl (hb hby d3_41) rfl k) ?_
      show own_End p e below s _ _ _ (s0.setTop (mkF m 43 #[.val (.ref ta), .val (.int fm), .val (.int (22 : Int32)), .val (.ref ia), .val (.int ax), .val (.int z), .val (.long acc), .second, s8, s9] [(.int z)]))
      refine own_go (fun t k => XS.iloadN X0.here hx rfl (hb hby d3_43) rfl k) ?_
      show own_End p e below s _ _ _ (s0.setTop (mkF m 44 #[.val (.ref ta), .val (.int fm), .val (.int (22 : Int32)), .val (.ref ia), .val (.int ax), .val (.int z), .val (.long acc), .second, s8, s9] [(.int (22 : Int32)), (.int z)]))
      refine own_go (fun t k => XS.icmpNo X0.here hx rfl (hb hby d3_44) rfl (own_geN (k := 22) (by decide) (by omega)) k) ?_
      show own_End p e below s _ _ _ (s0.setTop (mkF m 47 #[.val (.ref ta), .val (.int fm), .val (.int (22 : Int32)), .val (.ref ia), .val (.int ax), .val (.int z), .val (.long acc), .second, s8, s9] []))
      refine own_go (fun t k => XS.aloadN X0.here hx rfl (hb hby d3_47) rfl rfl k) ?_
      show own_End p e below s _ _ _ (s0.setTop (mkF m 48 #[.val (.ref ta), .val (.int fm), .val (.int (22 : Int32)), .val (.ref ia), .val (.int ax), .val (.int z), .val (.long acc), .second, s8, s9] [(.ref ta)]))
      refine own_go (fun t k => XS.iload X0.here hx rfl (hb hby d3_48) rfl k) ?_
      show own_End p e below s _ _ _ (s0.setTop (mkF m 50 #[.val (.ref ta), .val (.int fm), .val (.int (22 : Int32)), .val (.ref ia), .val (.int ax), .val (.int z), .val (.long acc), .second, s8, s9] [(.int z), (.ref ta)]))
      refine own_go (own_fldC X0 hx hZ e0 F_ta (j := z) (v := (.int (g (own_i0 g fr + mm)))) (own_i0 g fr + mm) hz (by omega) rfl (pc := 50) (Ls := #[.val (.ref ta), .val (.int fm), .val (.int (22 : Int32)), .val (.ref ia), .val (.int ax), .val (.int z), .val (.long acc), .second, s8, s9]) (rest := []) (hb hby d3_50)) ?_
      show own_End p e below s _ _ _ (s0.setTop (mkF m 51 #[.val (.ref ta), .val (.int fm), .val (.int (22 : Int32)), .val (.ref ia), .val (.int ax), .val (.int z), .val (.long acc), .second, s8, s9] [(.int (g (own_i0 g fr + mm)))]))
      refine own_go (fun t k => XS.istore X0.here hx rfl (hb hby d3_51) rfl (l' := #[.val (.ref ta), .val (.int fm), .val (.int (22 : Int32)), .val (.ref ia), .val (.int ax), .val (.int z), .val (.long acc), .second, .val (.int (g (own_i0 g fr + mm))), s9]) (XS.store1 rfl o8 rfl) k) ?_
      show own_End p e below s _ _ _ (s0.setTop (mkF m 53 #[.val (.ref ta), .val (.int fm), .val (.int (22 : Int32)), .val (.ref ia), .val (.int ax), .val (.int z), .val (.long acc), .second, .val (.int (g (own_i0 g fr + mm))), s9] []))
      refine own_go (fun t k => XS.iload X0.here hx rfl (hb hby d3_53) rfl k) ?_
      show own_End p e below s _ _ _ (s0.setTop (mkF m 55 #[.val (.ref ta), .val (.int fm), .val (.int (22 : Int32)), .val (.ref ia), .val (.int ax), .val (.int z), .val (.long acc), .second, .val (.int (g (own_i0 g fr + mm))), s9] [(.int (g (own_i0 g fr + mm)))]))
      refine own_go (fun t k => XS.bipush X0.here hx rfl (hb hby d3_55) k) ?_
      show own_End p e below s _ _ _ (s0.setTop (mkF m 57 #[.val (.ref ta), .val (.int fm), .val (.int (22 : Int32)), .val (.ref ia), .val (.int ax), .val (.int z), .val (.long acc), .second, .val (.int (g (own_i0 g fr + mm))), s9] [(.int (48 : Int32)), (.int (g (own_i0 g fr + mm)))]))
      by_cases qa : (g (own_i0 g fr + mm)).toInt < 48
      ·
        refine own_go (fun t k => XS.icmpYes X0.here hx rfl (pc0 := 57) (pc' := 67) rfl (hb hby d3_57) rfl (own_ltY (k := 48) (by decide) qa) (by decide) (by decide) k) ?_
        show own_End p e below s _ _ _ (s0.setTop (mkF m 67 #[.val (.ref ta), .val (.int fm), .val (.int (22 : Int32)), .val (.ref ia), .val (.int ax), .val (.int z), .val (.long acc), .second, .val (.int (g (own_i0 g fr + mm))), s9] []))
        refine own_go (fun t k => XS.iconst X0.here hx rfl (hb hby d3_67) k) ?_
        show own_End p e below s _ _ _ (s0.setTop (mkF m 68 #[.val (.ref ta), .val (.int fm), .val (.int (22 : Int32)), .val (.ref ia), .val (.int ax), .val (.int z), .val (.long acc), .second, .val (.int (g (own_i0 g fr + mm))), s9] [(.int (0 : Int32))]))
        exact own_retN X0 hx (t := .boolean) hret hlk (by simp) (hb hby d3_68) ⟨N0, Or.inl ⟨rfl, (own_noB (p := own_i0 g fr + mm) (by omega) (by omega) (fun q => by have := q.1; omega)), e0⟩⟩ (by decide) (by decide)
      refine own_go (fun t k => XS.icmpNo X0.here hx rfl (hb hby d3_57) rfl (own_ltN (k := 48) (by decide) qa) k) ?_
      show own_End p e below s _ _ _ (s0.setTop (mkF m 60 #[.val (.ref ta), .val (.int fm), .val (.int (22 : Int32)), .val (.ref ia), .val (.int ax), .val (.int z), .val (.long acc), .second, .val (.int (g (own_i0 g fr + mm))), s9] []))
      refine own_go (fun t k => XS.iload X0.here hx rfl (hb hby d3_60) rfl k) ?_
      show own_End p e below s _ _ _ (s0.setTop (mkF m 62 #[.val (.ref ta), .val (.int fm), .val (.int (22 : Int32)), .val (.ref ia), .val (.int ax), .val (.int z), .val (.long acc), .second, .val (.int (g (own_i0 g fr + mm))), s9] [(.int (g (own_i0 g fr + mm)))]))
      refine own_go (fun t k => XS.bipush X0.here hx rfl (hb hby d3_62) k) ?_
      show own_End p e below s _ _ _ (s0.setTop (mkF m 64 #[.val (.ref ta), .val (.int fm), .val (.int (22 : Int32)), .val (.ref ia), .val (.int ax), .val (.int z), .val (.long acc), .second, .val (.int (g (own_i0 g fr + mm))), s9] [(.int (57 : Int32)), (.int (g (own_i0 g fr + mm)))]))
      by_cases qb : (g (own_i0 g fr + mm)).toInt ≤ 57
      ·
        refine own_go (fun t k => XS.icmpYes X0.here hx rfl (pc0 := 64) (pc' := 69) rfl (hb hby d3_64) rfl (own_leY (k := 57) (by decide) qb) (by decide) (by decide) k) ?_
        show own_End p e below s _ _ _ (s0.setTop (mkF m 69 #[.val (.ref ta), .val (.int fm), .val (.int (22 : Int32)), .val (.ref ia), .val (.int ax), .val (.int z), .val (.long acc), .second, .val (.int (g (own_i0 g fr + mm))), s9] []))
        refine own_go (fun t k => XS.iload X0.here hx rfl (hb hby d3_69) rfl k) ?_
        show own_End p e below s _ _ _ (s0.setTop (mkF m 71 #[.val (.ref ta), .val (.int fm), .val (.int (22 : Int32)), .val (.ref ia), .val (.int ax), .val (.int z), .val (.long acc), .second, .val (.int (g (own_i0 g fr + mm))), s9] [(.int (g (own_i0 g fr + mm)))]))
        refine own_go (fun t k => XS.bipush X0.here hx rfl (hb hby d3_71) k) ?_
        show own_End p e below s _ _ _ (s0.setTop (mkF m 73 #[.val (.ref ta), .val (.int fm), .val (.int (22 : Int32)), .val (.ref ia), .val (.int ax), .val (.int z), .val (.long acc), .second, .val (.int (g (own_i0 g fr + mm))), s9] [(.int (48 : Int32)), (.int (g (own_i0 g fr + mm)))]))
        refine own_go (fun t k => XS.isub X0.here hx rfl (hb hby d3_73) rfl k) ?_
        show own_End p e below s _ _ _ (s0.setTop (mkF m 74 #[.val (.ref ta), .val (.int fm), .val (.int (22 : Int32)), .val (.ref ia), .val (.int ax), .val (.int z), .val (.long acc), .second, .val (.int (g (own_i0 g fr + mm))), s9] [(.int ((g (own_i0 g fr + mm)) - (48 : Int32)))]))
        obtain ⟨d80, qd80⟩ : ∃ z : Int32, z = ((g (own_i0 g fr + mm)) - (48 : Int32)) := ⟨_, rfl⟩
        rw [← qd80]
        show own_End p e below s _ _ _ (s0.setTop (mkF m 74 #[.val (.ref ta), .val (.int fm), .val (.int (22 : Int32)), .val (.ref ia), .val (.int ax), .val (.int z), .val (.long acc), .second, .val (.int (g (own_i0 g fr + mm))), s9] [(.int d80)]))
        have e48 : (48 : Int32).toInt = 48 := by decide
        have hdd : d80.toInt = (g (own_i0 g fr + mm)).toInt - 48 := by have := c_isub (g (own_i0 g fr + mm)) 48; have := rng32 (g (own_i0 g fr + mm) - 48); rw [qd80]; omega
        have hsv : own_val g (own_i0 g fr) (mm + 1) = own_val g (own_i0 g fr) mm * 10 + d80.toInt := by rw [hdd]; rfl
        refine own_go (fun t k => XS.istore X0.here hx rfl (hb hby d3_74) rfl (l' := #[.val (.ref ta), .val (.int fm), .val (.int (22 : Int32)), .val (.ref ia), .val (.int ax), .val (.int z), .val (.long acc), .second, .val (.int (g (own_i0 g fr + mm))), .val (.int d80)]) (XS.store1 rfl o9 rfl) k) ?_
        show own_End p e below s _ _ _ (s0.setTop (mkF m 76 #[.val (.ref ta), .val (.int fm), .val (.int (22 : Int32)), .val (.ref ia), .val (.int ax), .val (.int z), .val (.long acc), .second, .val (.int (g (own_i0 g fr + mm))), .val (.int d80)] []))
        refine own_go (fun t k => XT.lload X0.here hx rfl (hb hby d3_76) rfl k) ?_
        show own_End p e below s _ _ _ (s0.setTop (mkF m 78 #[.val (.ref ta), .val (.int fm), .val (.int (22 : Int32)), .val (.ref ia), .val (.int ax), .val (.int z), .val (.long acc), .second, .val (.int (g (own_i0 g fr + mm))), .val (.int d80)] [(.long acc)]))
        refine own_go (X0.ldc2Long (own := "com/example/ordinate/ordinate/sql/Numbers") (index := 21) (v := (-9223372036854775808)) hx hown (mvT hZ (hw _ (List.mem_of_getElem? (i := 36) rfl))) (g := (mkF m 78 #[.val (.ref ta), .val (.int fm), .val (.int (22 : Int32)), .val (.ref ia), .val (.int ax), .val (.int z), .val (.long acc), .second, .val (.int (g (own_i0 g fr + mm))), .val (.int d80)] [(.long acc)])) rfl (hb hby d3_78)) ?_
        show own_End p e below s _ _ _ (s0.setTop (mkF m 81 #[.val (.ref ta), .val (.int fm), .val (.int (22 : Int32)), .val (.ref ia), .val (.int ax), .val (.int z), .val (.long acc), .second, .val (.int (g (own_i0 g fr + mm))), .val (.int d80)] [(.long (-9223372036854775808 : Int64)), (.long acc)]))
        refine own_go (fun t k => XS.iload X0.here hx rfl (hb hby d3_81) rfl k) ?_
        show own_End p e below s _ _ _ (s0.setTop (mkF m 83 #[.val (.ref ta), .val (.int fm), .val (.int (22 : Int32)), .val (.ref ia), .val (.int ax), .val (.int z), .val (.long acc), .second, .val (.int (g (own_i0 g fr + mm))), .val (.int d80)] [(.int d80), (.long (-9223372036854775808 : Int64)), (.long acc)]))
        refine own_go (fun t k => XT.i2l X0.here hx rfl (hb hby d3_83) rfl k) ?_
        show own_End p e below s _ _ _ (s0.setTop (mkF m 84 #[.val (.ref ta), .val (.int fm), .val (.int (22 : Int32)), .val (.ref ia), .val (.int ax), .val (.int z), .val (.long acc), .second, .val (.int (g (own_i0 g fr + mm))), .val (.int d80)] [(.long (d80.toInt64)), (.long (-9223372036854775808 : Int64)), (.long acc)]))
        refine own_go (fun t k => XT.ladd X0.here hx rfl (hb hby d3_84) rfl k) ?_
        show own_End p e below s _ _ _ (s0.setTop (mkF m 85 #[.val (.ref ta), .val (.int fm), .val (.int (22 : Int32)), .val (.ref ia), .val (.int ax), .val (.int z), .val (.long acc), .second, .val (.int (g (own_i0 g fr + mm))), .val (.int d80)] [(.long ((-9223372036854775808 : Int64) + (d80.toInt64))), (.long acc)]))
        refine own_go (X0.ldc2Long (own := "com/example/ordinate/ordinate/sql/Numbers") (index := 23) (v := 10) hx hown (mvT hZ (hw _ (List.mem_of_getElem? (i := 37) rfl))) (g := (mkF m 85 #[.val (.ref ta), .val (.int fm), .val (.int (22 : Int32)), .val (.ref ia), .val (.int ax), .val (.int z), .val (.long acc), .second, .val (.int (g (own_i0 g fr + mm))), .val (.int d80)] [(.long ((-9223372036854775808 : Int64) + (d80.toInt64))), (.long acc)])) rfl (hb hby d3_85)) ?_
        show own_End p e below s _ _ _ (s0.setTop (mkF m 88 #[.val (.ref ta), .val (.int fm), .val (.int (22 : Int32)), .val (.ref ia), .val (.int ax), .val (.int z), .val (.long acc), .second, .val (.int (g (own_i0 g fr + mm))), .val (.int d80)] [(.long (10 : Int64)), (.long ((-9223372036854775808 : Int64) + (d80.toInt64))), (.long acc)]))
        refine own_go (fun t k => XT.ldiv X0.here hx rfl (hb hby d3_88) rfl (by decide) k) ?_
        show own_End p e below s _ _ _ (s0.setTop (mkF m 89 #[.val (.ref ta), .val (.int fm), .val (.int (22 : Int32)), .val (.ref ia), .val (.int ax), .val (.int z), .val (.long acc), .second, .val (.int (g (own_i0 g fr + mm))), .val (.int d80)] [(.long (((-9223372036854775808 : Int64) + (d80.toInt64)) / (10 : Int64))), (.long acc)]))
        obtain ⟨lm81, qlm81⟩ : ∃ z : Int64, z = (((-9223372036854775808 : Int64) + (d80.toInt64)) / (10 : Int64)) := ⟨_, rfl⟩
        rw [← qlm81]
        show own_End p e below s _ _ _ (s0.setTop (mkF m 89 #[.val (.ref ta), .val (.int fm), .val (.int (22 : Int32)), .val (.ref ia), .val (.int ax), .val (.int z), .val (.long acc), .second, .val (.int (g (own_i0 g fr + mm))), .val (.int d80)] [(.long lm81), (.long acc)]))
        have hlm : lm81.toInt = -((9223372036854775808 - d80.toInt) / 10) := by
          have h1 := own_addJ (x := -9223372036854775808) (y := d80.toInt64) (by rw [c_i2l]; have e0 : (-9223372036854775808 : Int64).toInt = -9223372036854775808 := (by decide); omega) (by rw [c_i2l]; have e0 : (-9223372036854775808 : Int64).toInt = -9223372036854775808 := (by decide); omega)
          rw [c_i2l] at h1
          have e0 : (-9223372036854775808 : Int64).toInt = -9223372036854775808 := by decide
          rw [qlm81, (c_ldiv _ 10 10 (by decide) (by decide)).2 (by omega), h1, e0]
          congr 2; omega
        refine own_go (fun t k => XT.lcmp X0.here hx rfl (hb hby d3_89) rfl k) ?_
        show own_End p e below s _ _ _ (s0.setTop (mkF m 90 #[.val (.ref ta), .val (.int fm), .val (.int (22 : Int32)), .val (.ref ia), .val (.int ax), .val (.int z), .val (.long acc), .second, .val (.int (g (own_i0 g fr + mm))), .val (.int d80)] [(.int (XT.cmpL acc lm81))]))
        by_cases qc : lm81.toInt ≤ acc.toInt
        ·
          refine own_go (fun t k => XS.ifYes X0.here hx rfl (pc0 := 90) (pc' := 95) rfl (hb hby d3_90) rfl (own_lgeY rfl qc) (by decide) (by decide) k) ?_
          show own_End p e below s _ _ _ (s0.setTop (mkF m 95 #[.val (.ref ta), .val (.int fm), .val (.int (22 : Int32)), .val (.ref ia), .val (.int ax), .val (.int z), .val (.long acc), .second, .val (.int (g (own_i0 g fr + mm))), .val (.int d80)] []))
          refine own_go (fun t k => XT.lload X0.here hx rfl (hb hby d3_95) rfl k) ?_
          show own_End p e below s _ _ _ (s0.setTop (mkF m 97 #[.val (.ref ta), .val (.int fm), .val (.int (22 : Int32)), .val (.ref ia), .val (.int ax), .val (.int z), .val (.long acc), .second, .val (.int (g (own_i0 g fr + mm))), .val (.int d80)] [(.long acc)]))
          refine own_go (X0.ldc2Long (own := "com/example/ordinate/ordinate/sql/Numbers") (index := 23) (v := 10) hx hown (mvT hZ (hw _ (List.mem_of_getElem? (i := 37) rfl))) (g := (mkF m 97 #[.val (.ref ta), .val (.int fm), .val (.int (22 : Int32)), .val (.ref ia), .val (.int ax), .val (.int z), .val (.long acc), .second, .val (.int (g (own_i0 g fr + mm))), .val (.int d80)] [(.long acc)])) rfl (hb hby d3_97)) ?_
          show own_End p e below s _ _ _ (s0.setTop (mkF m 100 #[.val (.ref ta), .val (.int fm), .val (.int (22 : Int32)), .val (.ref ia), .val (.int ax), .val (.int z), .val (.long acc), .second, .val (.int (g (own_i0 g fr + mm))), .val (.int d80)] [(.long (10 : Int64)), (.long acc)]))
          refine own_go (fun t k => XT.lmul X0.here hx rfl (hb hby d3_100) rfl k) ?_
          show own_End p e below s _ _ _ (s0.setTop (mkF m 101 #[.val (.ref ta), .val (.int fm), .val (.int (22 : Int32)), .val (.ref ia), .val (.int ax), .val (.int z), .val (.long acc), .second, .val (.int (g (own_i0 g fr + mm))), .val (.int d80)] [(.long (acc * (10 : Int64)))]))
          refine own_go (fun t k => XS.iload X0.here hx rfl (hb hby d3_101) rfl k) ?_
          show own_End p e below s _ _ _ (s0.setTop (mkF m 103 #[.val (.ref ta), .val (.int fm), .val (.int (22 : Int32)), .val (.ref ia), .val (.int ax), .val (.int z), .val (.long acc), .second, .val (.int (g (own_i0 g fr + mm))), .val (.int d80)] [(.int d80), (.long (acc * (10 : Int64)))]))
          refine own_go (fun t k => XT.i2l X0.here hx rfl (hb hby d3_103) rfl k) ?_
          show own_End p e below s _ _ _ (s0.setTop (mkF m 104 #[.val (.ref ta), .val (.int fm), .val (.int (22 : Int32)), .val (.ref ia), .val (.int ax), .val (.int z), .val (.long acc), .second, .val (.int (g (own_i0 g fr + mm))), .val (.int d80)] [(.long (d80.toInt64)), (.long (acc * (10 : Int64)))]))
          refine own_go (fun t k => XT.lsub X0.here hx rfl (hb hby d3_104) rfl k) ?_
          show own_End p e below s _ _ _ (s0.setTop (mkF m 105 #[.val (.ref ta), .val (.int fm), .val (.int (22 : Int32)), .val (.ref ia), .val (.int ax), .val (.int z), .val (.long acc), .second, .val (.int (g (own_i0 g fr + mm))), .val (.int d80)] [(.long ((acc * (10 : Int64)) - (d80.toInt64)))]))
          obtain ⟨ac82, qac82⟩ : ∃ z : Int64, z = ((acc * (10 : Int64)) - (d80.toInt64)) := ⟨_, rfl⟩
          rw [← qac82]
          show own_End p e below s _ _ _ (s0.setTop (mkF m 105 #[.val (.ref ta), .val (.int fm), .val (.int (22 : Int32)), .val (.ref ia), .val (.int ax), .val (.int z), .val (.long acc), .second, .val (.int (g (own_i0 g fr + mm))), .val (.int d80)] [(.long ac82)]))
          have hac : ac82.toInt = - own_val g (own_i0 g fr) (mm + 1) := by
            have h1 := c_lmul acc 10; have h2 := c_lsub (acc * 10) d80.toInt64; have h3 := rng64 (acc * 10 - d80.toInt64); have h4 := c_i2l d80
            have e0 : (10 : Int64).toInt = 10 := by decide
            rw [qac82, hsv]; rw [e0] at h1; omega
          refine own_go (fun t k => XT.lstore X0.here hx rfl (hb hby d3_105) rfl (l' := #[.val (.ref ta), .val (.int fm), .val (.int (22 : Int32)), .val (.ref ia), .val (.int ax), .val (.int z), .val (.long ac82), .second, .val (.int (g (own_i0 g fr + mm))), .val (.int d80)]) rfl k) ?_
          show own_End p e below s _ _ _ (s0.setTop (mkF m 107 #[.val (.ref ta), .val (.int fm), .val (.int (22 : Int32)), .val (.ref ia), .val (.int ax), .val (.int z), .val (.long ac82), .second, .val (.int (g (own_i0 g fr + mm))), .val (.int d80)] []))
          refine own_go (fun t k => XS.iinc X0.here hx rfl (hb hby d3_107) rfl (l' := #[.val (.ref ta), .val (.int fm), .val (.int (22 : Int32)), .val (.ref ia), .val (.int ax), .val (.int (z + (1 : Int32))), .val (.long ac82), .second, .val (.int (g (own_i0 g fr + mm))), .val (.int d80)]) rfl k) ?_
          show own_End p e below s _ _ _ (s0.setTop (mkF m 110 #[.val (.ref ta), .val (.int fm), .val (.int (22 : Int32)), .val (.ref ia), .val (.int ax), .val (.int (z + (1 : Int32))), .val (.long ac82), .second, .val (.int (g (own_i0 g fr + mm))), .val (.int d80)] []))
          refine own_go (fun t k => XS.goto X0.here hx rfl (pc0 := 110) (pc' := 41) rfl (hb hby d3_110) (by decide) (by decide) k) ?_
          show own_End p e below s _ _ _ (s0.setTop (mkF m 41 #[.val (.ref ta), .val (.int fm), .val (.int (22 : Int32)), .val (.ref ia), .val (.int ax), .val (.int (z + (1 : Int32))), .val (.long ac82), .second, .val (.int (g (own_i0 g fr + mm))), .val (.int d80)] []))
          have e1 : (1 : Int32).toInt = 1 := by decide
          exact ih (mm + 1) _ _ _ _ (One.val rfl) (One.val rfl) h22 (by have := c_iadd z 1; have := rng32 (z + 1); omega) (by omega) (fun j h1 h2 => by rcases (show j < own_i0 g fr + mm ∨ j = own_i0 g fr + mm by omega) with q | q; exact hd j h1 q; subst q; exact ⟨by omega, by omega⟩) hac (by omega)
        refine own_go (fun t k => XS.ifNo X0.here hx rfl (hb hby d3_90) rfl (own_lgeN rfl qc) k) ?_
        show own_End p e below s _ _ _ (s0.setTop (mkF m 93 #[.val (.ref ta), .val (.int fm), .val (.int (22 : Int32)), .val (.ref ia), .val (.int ax), .val (.int z), .val (.long acc), .second, .val (.int (g (own_i0 g fr + mm))), .val (.int d80)] []))
        refine own_go (fun t k => XS.iconst X0.here hx rfl (hb hby d3_93) k) ?_
        show own_End p e below s _ _ _ (s0.setTop (mkF m 94 #[.val (.ref ta), .val (.int fm), .val (.int (22 : Int32)), .val (.ref ia), .val (.int ax), .val (.int z), .val (.long acc), .second, .val (.int (g (own_i0 g fr + mm))), .val (.int d80)] [(.int (0 : Int32))]))
        exact own_retN X0 hx (t := .boolean) hret hlk (by simp) (hb hby d3_94) ⟨N0, Or.inl ⟨rfl, (own_noV (m := mm + 1) (by omega) (by omega)), e0⟩⟩ (by decide) (by decide)
      refine own_go (fun t k => XS.icmpNo X0.here hx rfl (hb hby d3_64) rfl (own_leN (k := 57) (by decide) qb) k) ?_
      show own_End p e below s _ _ _ (s0.setTop (mkF m 67 #[.val (.ref ta), .val (.int fm), .val (.int (22 : Int32)), .val (.ref ia), .val (.int ax), .val (.int z), .val (.long acc), .second, .val (.int (g (own_i0 g fr + mm))), s9] []))
      refine own_go (fun t k => XS.iconst X0.here hx rfl (hb hby d3_67) k) ?_
      show own_End p e below s _ _ _ (s0.setTop (mkF m 68 #[.val (.ref ta), .val (.int fm), .val (.int (22 : Int32)), .val (.ref ia), .val (.int ax), .val (.int z), .val (.long acc), .second, .val (.int (g (own_i0 g fr + mm))), s9] [(.int (0 : Int32))]))
      exact own_retN X0 hx (t := .boolean) hret hlk (by simp) (hb hby d3_68) ⟨N0, Or.inl ⟨rfl, (own_noB (p := own_i0 g fr + mm) (by omega) (by omega) (fun q => by have := q.2; omega)), e0⟩⟩ (by decide) (by decide)
  intro J41
  show own_End p e below s _ _ _ (s0.setTop (mkF m 0 #[.val (.ref ta), .val (.int fm), .val (.int (22 : Int32)), .val (.ref ia), .val (.int ax), .unset, .unset, .unset, .unset, .unset] []))
  refine own_join (fun G => ∀ z : Int32, z.toInt = ((own_i0 g fr : Nat) : Int) → G (s0.setTop (mkF m 28 #[.val (.ref ta), .val (.int fm), .val (.int (22 : Int32)), .val (.ref ia), .val (.int ax), .unset, .unset, .unset, .unset, .unset] [(.int z)]))) ?_ ?_
  ·
    intro z hz
    show own_End p e below s _ _ _ (s0.setTop (mkF m 28 #[.val (.ref ta), .val (.int fm), .val (.int (22 : Int32)), .val (.ref ia), .val (.int ax), .unset, .unset, .unset, .unset, .unset] [(.int z)]))
    refine own_go (fun t k => XS.istore X0.here hx rfl (hb hby d3_28) rfl (l' := #[.val (.ref ta), .val (.int fm), .val (.int (22 : Int32)), .val (.ref ia), .val (.int ax), .val (.int z), .unset, .unset, .unset, .unset]) rfl k) ?_
    show own_End p e below s _ _ _ (s0.setTop (mkF m 30 #[.val (.ref ta), .val (.int fm), .val (.int (22 : Int32)), .val (.ref ia), .val (.int ax), .val (.int z), .unset, .unset, .unset, .unset] []))
    refine own_go (fun t k => XS.iload X0.here hx rfl (hb hby d3_30) rfl k) ?_
    show own_End p e below s _ _ _ (s0.setTop (mkF m 32 #[.val (.ref ta), .val (.int fm), .val (.int (22 : Int32)), .val (.ref ia), .val (.int ax), .val (.int z), .unset, .unset, .unset, .unset] [(.int z)]))
    refine own_go (fun t k => XS.iloadN X0.here hx rfl (hb hby d3_32) rfl k) ?_
    show own_End p e below s _ _ _ (s0.setTop (mkF m 33 #[.val (.ref ta), .val (.int fm), .val (.int (22 : Int32)), .val (.ref ia), .val (.int ax), .val (.int z), .unset, .unset, .unset, .unset] [(.int (22 : Int32)), (.int z)]))
    have hi22 : own_i0 g fr ≤ 22 := by unfold own_i0; split <;> omega
    by_cases qe : ¬ z.toInt = 22
    ·
      refine own_go (fun t k => XS.icmpYes X0.here hx rfl (pc0 := 33) (pc' := 38) rfl (hb hby d3_33) rfl (own_neY (k := 22) (by decide) qe) (by decide) (by decide) k) ?_
      show own_End p e below s _ _ _ (s0.setTop (mkF m 38 #[.val (.ref ta), .val (.int fm), .val (.int (22 : Int32)), .val (.ref ia), .val (.int ax), .val (.int z), .unset, .unset, .unset, .unset] []))
      refine own_go (fun t k => XT.lconst X0.here hx rfl (hb hby d3_38) k) ?_
      show own_End p e below s _ _ _ (s0.setTop (mkF m 39 #[.val (.ref ta), .val (.int fm), .val (.int (22 : Int32)), .val (.ref ia), .val (.int ax), .val (.int z), .unset, .unset, .unset, .unset] [(.long (0 : Int64))]))
      refine own_go (fun t k => XT.lstore X0.here hx rfl (hb hby d3_39) rfl (l' := #[.val (.ref ta), .val (.int fm), .val (.int (22 : Int32)), .val (.ref ia), .val (.int ax), .val (.int z), .val (.long (0 : Int64)), .second, .unset, .unset]) rfl k) ?_
      show own_End p e below s _ _ _ (s0.setTop (mkF m 41 #[.val (.ref ta), .val (.int fm), .val (.int (22 : Int32)), .val (.ref ia), .val (.int ax), .val (.int z), .val (.long (0 : Int64)), .second, .unset, .unset] []))
      exact J41 (22 - own_i0 g fr) 0 z 0 _ _ One.u One.u (by omega) (by omega) (by omega) (fun j h1 h2 => by omega) rfl (by show (0 : Int) ≤ _; omega)
    refine own_go (fun t k => XS.icmpNo X0.here hx rfl (hb hby d3_33) rfl (own_neN (k := 22) (by decide) qe) k) ?_
    show own_End p e below s _ _ _ (s0.setTop (mkF m 36 #[.val (.ref ta), .val (.int fm), .val (.int (22 : Int32)), .val (.ref ia), .val (.int ax), .val (.int z), .unset, .unset, .unset, .unset] []))
    refine own_go (fun t k => XS.iconst X0.here hx rfl (hb hby d3_36) k) ?_
    show own_End p e below s _ _ _ (s0.setTop (mkF m 37 #[.val (.ref ta), .val (.int fm), .val (.int (22 : Int32)), .val (.ref ia), .val (.int ax), .val (.int z), .unset, .unset, .unset, .unset] [(.int (0 : Int32))]))
    exact own_retN X0 hx (t := .boolean) hret hlk (by simp) (hb hby d3_37) ⟨N0, Or.inl ⟨rfl, (own_no0 (by omega)), e0⟩⟩ (by decide) (by decide)
  intro J28
  show own_End p e below s _ _ _ (s0.setTop (mkF m 0 #[.val (.ref ta), .val (.int fm), .val (.int (22 : Int32)), .val (.ref ia), .val (.int ax), .unset, .unset, .unset, .unset, .unset] []))
  have e1 : (1 : Int32).toInt = 1 := by decide
  refine own_go (fun t k => XS.iloadN X0.here hx rfl (hb hby d3_0) rfl k) ?_
  show own_End p e below s _ _ _ (s0.setTop (mkF m 1 #[.val (.ref ta), .val (.int fm), .val (.int (22 : Int32)), .val (.ref ia), .val (.int ax), .unset, .unset, .unset, .unset, .unset] [(.int fm)]))
  refine own_go (fun t k => XS.iloadN X0.here hx rfl (hb hby d3_1) rfl k) ?_
  show own_End p e below s _ _ _ (s0.setTop (mkF m 2 #[.val (.ref ta), .val (.int fm), .val (.int (22 : Int32)), .val (.ref ia), .val (.int ax), .unset, .unset, .unset, .unset, .unset] [(.int (22 : Int32)), (.int fm)]))
  by_cases qs : 22 ≤ fm.toInt
  ·
    refine own_go (fun t k => XS.icmpYes X0.here hx rfl (pc0 := 2) (pc' := 27) rfl (hb hby d3_2) rfl (own_geY (k := 22) (by decide) qs) (by decide) (by decide) k) ?_
    show own_End p e below s _ _ _ (s0.setTop (mkF m 27 #[.val (.ref ta), .val (.int fm), .val (.int (22 : Int32)), .val (.ref ia), .val (.int ax), .unset, .unset, .unset, .unset, .unset] []))
    refine own_go (fun t k => XS.iloadN X0.here hx rfl (hb hby d3_27) rfl k) ?_
    show own_End p e below s _ _ _ (s0.setTop (mkF m 28 #[.val (.ref ta), .val (.int fm), .val (.int (22 : Int32)), .val (.ref ia), .val (.int ax), .unset, .unset, .unset, .unset, .unset] [(.int fm)]))
    exact J28 fm (by unfold own_i0; rw [if_neg (by omega)]; exact hfm)
  refine own_go (fun t k => XS.icmpNo X0.here hx rfl (hb hby d3_2) rfl (own_geN (k := 22) (by decide) qs) k) ?_
  show own_End p e below s _ _ _ (s0.setTop (mkF m 5 #[.val (.ref ta), .val (.int fm), .val (.int (22 : Int32)), .val (.ref ia), .val (.int ax), .unset, .unset, .unset, .unset, .unset] []))
  refine own_go (fun t k => XS.aloadN X0.here hx rfl (hb hby d3_5) rfl rfl k) ?_
  show own_End p e below s _ _ _ (s0.setTop (mkF m 6 #[.val (.ref ta), .val (.int fm), .val (.int (22 : Int32)), .val (.ref ia), .val (.int ax), .unset, .unset, .unset, .unset, .unset] [(.ref ta)]))
  refine own_go (fun t k => XS.iloadN X0.here hx rfl (hb hby d3_6) rfl k) ?_
  show own_End p e below s _ _ _ (s0.setTop (mkF m 7 #[.val (.ref ta), .val (.int fm), .val (.int (22 : Int32)), .val (.ref ia), .val (.int ax), .unset, .unset, .unset, .unset, .unset] [(.int fm), (.ref ta)]))
  refine own_go (own_fldC X0 hx hZ e0 F_ta (j := fm) (v := (.int (g fr))) fr hfm (by omega) rfl (pc := 7) (Ls := #[.val (.ref ta), .val (.int fm), .val (.int (22 : Int32)), .val (.ref ia), .val (.int ax), .unset, .unset, .unset, .unset, .unset]) (rest := []) (hb hby d3_7)) ?_
  show own_End p e below s _ _ _ (s0.setTop (mkF m 8 #[.val (.ref ta), .val (.int fm), .val (.int (22 : Int32)), .val (.ref ia), .val (.int ax), .unset, .unset, .unset, .unset, .unset] [(.int (g fr))]))
  refine own_go (fun t k => XS.bipush X0.here hx rfl (hb hby d3_8) k) ?_
  show own_End p e below s _ _ _ (s0.setTop (mkF m 10 #[.val (.ref ta), .val (.int fm), .val (.int (22 : Int32)), .val (.ref ia), .val (.int ax), .unset, .unset, .unset, .unset, .unset] [(.int (45 : Int32)), (.int (g fr))]))
  by_cases qt : (g fr).toInt = 45
  ·
    refine own_go (fun t k => XS.icmpYes X0.here hx rfl (pc0 := 10) (pc' := 21) rfl (hb hby d3_10) rfl (own_eqY (k := 45) (by decide) qt) (by decide) (by decide) k) ?_
    show own_End p e below s _ _ _ (s0.setTop (mkF m 21 #[.val (.ref ta), .val (.int fm), .val (.int (22 : Int32)), .val (.ref ia), .val (.int ax), .unset, .unset, .unset, .unset, .unset] []))
    refine own_go (fun t k => XS.iloadN X0.here hx rfl (hb hby d3_21) rfl k) ?_
    show own_End p e below s _ _ _ (s0.setTop (mkF m 22 #[.val (.ref ta), .val (.int fm), .val (.int (22 : Int32)), .val (.ref ia), .val (.int ax), .unset, .unset, .unset, .unset, .unset] [(.int fm)]))
    refine own_go (fun t k => XS.iconst X0.here hx rfl (hb hby d3_22) k) ?_
    show own_End p e below s _ _ _ (s0.setTop (mkF m 23 #[.val (.ref ta), .val (.int fm), .val (.int (22 : Int32)), .val (.ref ia), .val (.int ax), .unset, .unset, .unset, .unset, .unset] [(.int (1 : Int32)), (.int fm)]))
    refine own_go (fun t k => XS.iadd X0.here hx rfl (hb hby d3_23) rfl k) ?_
    show own_End p e below s _ _ _ (s0.setTop (mkF m 24 #[.val (.ref ta), .val (.int fm), .val (.int (22 : Int32)), .val (.ref ia), .val (.int ax), .unset, .unset, .unset, .unset, .unset] [(.int (fm + (1 : Int32)))]))
    refine own_go (fun t k => XS.goto X0.here hx rfl (pc0 := 24) (pc' := 28) rfl (hb hby d3_24) (by decide) (by decide) k) ?_
    show own_End p e below s _ _ _ (s0.setTop (mkF m 28 #[.val (.ref ta), .val (.int fm), .val (.int (22 : Int32)), .val (.ref ia), .val (.int ax), .unset, .unset, .unset, .unset, .unset] [(.int (fm + (1 : Int32)))]))
    exact J28 (fm + 1) (by unfold own_i0; rw [if_pos ⟨by omega, Or.inl qt⟩]; have := c_iadd fm 1; have := rng32 (fm + 1); omega)
  refine own_go (fun t k => XS.icmpNo X0.here hx rfl (hb hby d3_10) rfl (own_eqN (k := 45) (by decide) qt) k) ?_
  show own_End p e below s _ _ _ (s0.setTop (mkF m 13 #[.val (.ref ta), .val (.int fm), .val (.int (22 : Int32)), .val (.ref ia), .val (.int ax), .unset, .unset, .unset, .unset, .unset] []))
  refine own_go (fun t k => XS.aloadN X0.here hx rfl (hb hby d3_13) rfl rfl k) ?_
  show own_End p e below s _ _ _ (s0.setTop (mkF m 14 #[.val (.ref ta), .val (.int fm), .val (.int (22 : Int32)), .val (.ref ia), .val (.int ax), .unset, .unset, .unset, .unset, .unset] [(.ref ta)]))
  refine own_go (fun t k => XS.iloadN X0.here hx rfl (hb hby d3_14) rfl k) ?_
  show own_End p e below s _ _ _ (s0.setTop (mkF m 15 #[.val (.ref ta), .val (.int fm), .val (.int (22 : Int32)), .val (.ref ia), .val (.int ax), .unset, .unset, .unset, .unset, .unset] [(.int fm), (.ref ta)]))
  refine own_go (own_fldC X0 hx hZ e0 F_ta (j := fm) (v := (.int (g fr))) fr hfm (by omega) rfl (pc := 15) (Ls := #[.val (.ref ta), .val (.int fm), .val (.int (22 : Int32)), .val (.ref ia), .val (.int ax), .unset, .unset, .unset, .unset, .unset]) (rest := []) (hb hby d3_15)) ?_
  show own_End p e below s _ _ _ (s0.setTop (mkF m 16 #[.val (.ref ta), .val (.int fm), .val (.int (22 : Int32)), .val (.ref ia), .val (.int ax), .unset, .unset, .unset, .unset, .unset] [(.int (g fr))]))
  refine own_go (fun t k => XS.bipush X0.here hx rfl (hb hby d3_16) k) ?_
  show own_End p e below s _ _ _ (s0.setTop (mkF m 18 #[.val (.ref ta), .val (.int fm), .val (.int (22 : Int32)), .val (.ref ia), .val (.int ax), .unset, .unset, .unset, .unset, .unset] [(.int (43 : Int32)), (.int (g fr))]))
  by_cases qu : ¬ (g fr).toInt = 43
  ·
    refine own_go (fun t k => XS.icmpYes X0.here hx rfl (pc0 := 18) (pc' := 27) rfl (hb hby d3_18) rfl (own_neY (k := 43) (by decide) qu) (by decide) (by decide) k) ?_
    show own_End p e below s _ _ _ (s0.setTop (mkF m 27 #[.val (.ref ta), .val (.int fm), .val (.int (22 : Int32)), .val (.ref ia), .val (.int ax), .unset, .unset, .unset, .unset, .unset] []))
    refine own_go (fun t k => XS.iloadN X0.here hx rfl (hb hby d3_27) rfl k) ?_
    show own_End p e below s _ _ _ (s0.setTop (mkF m 28 #[.val (.ref ta), .val (.int fm), .val (.int (22 : Int32)), .val (.ref ia), .val (.int ax), .unset, .unset, .unset, .unset, .unset] [(.int fm)]))
    exact J28 fm (by unfold own_i0; rw [if_neg (by omega)]; exact hfm)
  refine own_go (fun t k => XS.icmpNo X0.here hx rfl (hb hby d3_18) rfl (own_neN (k := 43) (by decide) qu) k) ?_
  show own_End p e below s _ _ _ (s0.setTop (mkF m 21 #[.val (.ref ta), .val (.int fm), .val (.int (22 : Int32)), .val (.ref ia), .val (.int ax), .unset, .unset, .unset, .unset, .unset] []))
  refine own_go (fun t k => XS.iloadN X0.here hx rfl (hb hby d3_21) rfl k) ?_
  show own_End p e below s _ _ _ (s0.setTop (mkF m 22 #[.val (.ref ta), .val (.int fm), .val (.int (22 : Int32)), .val (.ref ia), .val (.int ax), .unset, .unset, .unset, .unset, .unset] [(.int fm)]))
  refine own_go (fun t k => XS.iconst X0.here hx rfl (hb hby d3_22) k) ?_
  show own_End p e below s _ _ _ (s0.setTop (mkF m 23 #[.val (.ref ta), .val (.int fm), .val (.int (22 : Int32)), .val (.ref ia), .val (.int ax), .unset, .unset, .unset, .unset, .unset] [(.int (1 : Int32)), (.int fm)]))
  refine own_go (fun t k => XS.iadd X0.here hx rfl (hb hby d3_23) rfl k) ?_
  show own_End p e below s _ _ _ (s0.setTop (mkF m 24 #[.val (.ref ta), .val (.int fm), .val (.int (22 : Int32)), .val (.ref ia), .val (.int ax), .unset, .unset, .unset, .unset, .unset] [(.int (fm + (1 : Int32)))]))
  refine own_go (fun t k => XS.goto X0.here hx rfl (pc0 := 24) (pc' := 28) rfl (hb hby d3_24) (by decide) (by decide) k) ?_
  show own_End p e below s _ _ _ (s0.setTop (mkF m 28 #[.val (.ref ta), .val (.int fm), .val (.int (22 : Int32)), .val (.ref ia), .val (.int ax), .unset, .unset, .unset, .unset, .unset] [(.int (fm + (1 : Int32)))]))
  exact J28 (fm + 1) (by unfold own_i0; rw [if_pos ⟨by omega, Or.inr (by omega)⟩]; have := c_iadd fm 1; have := rng32 (fm + 1); omega)
set_option maxRecDepth 65536 in
set_option maxHeartbeats 40000000 in
theorem rm0 (l : Launch) (Z : State) (a0 : Array Value) (hw : ∀ d ∈ tables_1, d.before a0 Z = true) (ws : List Jvm.Cond) (p1 : Int64) (p2 : Int32) (p3 : Int32) (p4 : Int32) (p5 : Int64) (h0 : Heap) (n0 : Nat) (Z0 : n0 ≤ h0.size)  :
    own_Met l x code maxLocals ret ws room_1 #[(.long p1), (.int p2), (.int p3), (.int p4), (.long p5)] Z h0 (fun v h L => v = some (.int 1) ∧ Fr n0 L) := by
  refine own_body (plainFor_of_name pn_NumbersParseIntegerPinLaw) ?_
  intro p e s m below meth c s0 X0 hx hby hml hret hlk hown hnm hZ e0
  replace hown : s.vm.findClass "com/example/ordinate/ordinate/sql/NumbersParseIntegerPinLaw" = some m.cls := hown
  have N0 := Fr.nil n0
  have ef : entryFrame m #[(.long p1), (.int p2), (.int p3), (.int p4), (.long p5)] maxLocals = (mkF m 0 #[.val (.long p1), .second, .val (.int p2), .val (.int p3), .val (.int p4), .val (.long p5), .second, .unset, .unset, .unset, .unset, .unset, .unset, .unset, .unset, .unset, .unset, .unset, .unset, .unset, .unset, .unset, .unset, .unset, .unset, .unset, .unset] []) := by first | (simp [entryFrame, mkF, argsToLocals, Value.category, maxLocals]; done) | rfl
  rw [ef]
  show own_End p e below s _ _ _ (s0.setTop (mkF m 0 #[.val (.long p1), .second, .val (.int p2), .val (.int p3), .val (.int p4), .val (.long p5), .second, .unset, .unset, .unset, .unset, .unset, .unset, .unset, .unset, .unset, .unset, .unset, .unset, .unset, .unset, .unset, .unset, .unset, .unset, .unset, .unset] []))
  refine own_go (fun t k => XS.iloadN X0.here hx rfl (hb hby at_0) rfl k) ?_
  show own_End p e below s _ _ _ (s0.setTop (mkF m 1 #[.val (.long p1), .second, .val (.int p2), .val (.int p3), .val (.int p4), .val (.long p5), .second, .unset, .unset, .unset, .unset, .unset, .unset, .unset, .unset, .unset, .unset, .unset, .unset, .unset, .unset, .unset, .unset, .unset, .unset, .unset, .unset] [(.int p2)]))
  refine own_go (fun t k => XS.bipush X0.here hx rfl (hb hby at_1) k) ?_
  show own_End p e below s _ _ _ (s0.setTop (mkF m 3 #[.val (.long p1), .second, .val (.int p2), .val (.int p3), .val (.int p4), .val (.long p5), .second, .unset, .unset, .unset, .unset, .unset, .unset, .unset, .unset, .unset, .unset, .unset, .unset, .unset, .unset, .unset, .unset, .unset, .unset, .unset, .unset] [(.int (31 : Int32)), (.int p2)]))
  refine own_go (fun t k => XS.iand X0.here hx rfl (hb hby at_3) rfl k) ?_
  show own_End p e below s _ _ _ (s0.setTop (mkF m 4 #[.val (.long p1), .second, .val (.int p2), .val (.int p3), .val (.int p4), .val (.long p5), .second, .unset, .unset, .unset, .unset, .unset, .unset, .unset, .unset, .unset, .unset, .unset, .unset, .unset, .unset, .unset, .unset, .unset, .unset, .unset, .unset] [(.int (p2 &&& (31 : Int32)))]))
  refine own_go (fun t k => XS.bipush X0.here hx rfl (hb hby at_4) k) ?_
  show own_End p e below s _ _ _ (s0.setTop (mkF m 6 #[.val (.long p1), .second, .val (.int p2), .val (.int p3), .val (.int p4), .val (.long p5), .second, .unset, .unset, .unset, .unset, .unset, .unset, .unset, .unset, .unset, .unset, .unset, .unset, .unset, .unset, .unset, .unset, .unset, .unset, .unset, .unset] [(.int (21 : Int32)), (.int (p2 &&& (31 : Int32)))]))
  refine own_go (fun t k => XS.irem X0.here hx rfl (hb hby at_6) rfl (by decide) k) ?_
  show own_End p e below s _ _ _ (s0.setTop (mkF m 7 #[.val (.long p1), .second, .val (.int p2), .val (.int p3), .val (.int p4), .val (.long p5), .second, .unset, .unset, .unset, .unset, .unset, .unset, .unset, .unset, .unset, .unset, .unset, .unset, .unset, .unset, .unset, .unset, .unset, .unset, .unset, .unset] [(.int ((p2 &&& (31 : Int32)) - ((p2 &&& (31 : Int32)) / (21 : Int32)) * (21 : Int32)))]))
  rw [irem_eq_mod (p2 &&& (31 : Int32)) (21 : Int32)]
  show own_End p e below s _ _ _ (s0.setTop (mkF m 7 #[.val (.long p1), .second, .val (.int p2), .val (.int p3), .val (.int p4), .val (.long p5), .second, .unset, .unset, .unset, .unset, .unset, .unset, .unset, .unset, .unset, .unset, .unset, .unset, .unset, .unset, .unset, .unset, .unset, .unset, .unset, .unset] [(.int ((p2 &&& (31 : Int32)) % (21 : Int32)))]))
  obtain ⟨kk83, qkk83⟩ : ∃ z : Int32, z = ((p2 &&& (31 : Int32)) % (21 : Int32)) := ⟨_, rfl⟩
  rw [← qkk83]
  show own_End p e below s _ _ _ (s0.setTop (mkF m 7 #[.val (.long p1), .second, .val (.int p2), .val (.int p3), .val (.int p4), .val (.long p5), .second, .unset, .unset, .unset, .unset, .unset, .unset, .unset, .unset, .unset, .unset, .unset, .unset, .unset, .unset, .unset, .unset, .unset, .unset, .unset, .unset] [(.int kk83)]))
  refine own_go (fun t k => XS.istore X0.here hx rfl (hb hby at_7) rfl (l' := #[.val (.long p1), .second, .val (.int p2), .val (.int p3), .val (.int p4), .val (.long p5), .second, .val (.int kk83), .unset, .unset, .unset, .unset, .unset, .unset, .unset, .unset, .unset, .unset, .unset, .unset, .unset, .unset, .unset, .unset, .unset, .unset, .unset]) rfl k) ?_
  show own_End p e below s _ _ _ (s0.setTop (mkF m 9 #[.val (.long p1), .second, .val (.int p2), .val (.int p3), .val (.int p4), .val (.long p5), .second, .val (.int kk83), .unset, .unset, .unset, .unset, .unset, .unset, .unset, .unset, .unset, .unset, .unset, .unset, .unset, .unset, .unset, .unset, .unset, .unset, .unset] []))
  refine own_go (fun t k => XS.iloadN X0.here hx rfl (hb hby at_9) rfl k) ?_
  show own_End p e below s _ _ _ (s0.setTop (mkF m 10 #[.val (.long p1), .second, .val (.int p2), .val (.int p3), .val (.int p4), .val (.long p5), .second, .val (.int kk83), .unset, .unset, .unset, .unset, .unset, .unset, .unset, .unset, .unset, .unset, .unset, .unset, .unset, .unset, .unset, .unset, .unset, .unset, .unset] [(.int p2)]))
  refine own_go (fun t k => XS.iconst X0.here hx rfl (hb hby at_10) k) ?_
  show own_End p e below s _ _ _ (s0.setTop (mkF m 11 #[.val (.long p1), .second, .val (.int p2), .val (.int p3), .val (.int p4), .val (.long p5), .second, .val (.int kk83), .unset, .unset, .unset, .unset, .unset, .unset, .unset, .unset, .unset, .unset, .unset, .unset, .unset, .unset, .unset, .unset, .unset, .unset, .unset] [(.int (5 : Int32)), (.int p2)]))
  refine own_go (fun t k => XT.iushr X0.here hx rfl (hb hby at_11) rfl k) ?_
  show own_End p e below s _ _ _ (s0.setTop (mkF m 12 #[.val (.long p1), .second, .val (.int p2), .val (.int p3), .val (.int p4), .val (.long p5), .second, .val (.int kk83), .unset, .unset, .unset, .unset, .unset, .unset, .unset, .unset, .unset, .unset, .unset, .unset, .unset, .unset, .unset, .unset, .unset, .unset, .unset] [(.int (XT.ushr p2 (5 : Int32)))]))
  refine own_go (fun t k => XS.iconst X0.here hx rfl (hb hby at_12) k) ?_
  show own_End p e below s _ _ _ (s0.setTop (mkF m 13 #[.val (.long p1), .second, .val (.int p2), .val (.int p3), .val (.int p4), .val (.long p5), .second, .val (.int kk83), .unset, .unset, .unset, .unset, .unset, .unset, .unset, .unset, .unset, .unset, .unset, .unset, .unset, .unset, .unset, .unset, .unset, .unset, .unset] [(.int (3 : Int32)), (.int (XT.ushr p2 (5 : Int32)))]))
  refine own_go (fun t k => XS.iand X0.here hx rfl (hb hby at_13) rfl k) ?_
  show own_End p e below s _ _ _ (s0.setTop (mkF m 14 #[.val (.long p1), .second, .val (.int p2), .val (.int p3), .val (.int p4), .val (.long p5), .second, .val (.int kk83), .unset, .unset, .unset, .unset, .unset, .unset, .unset, .unset, .unset, .unset, .unset, .unset, .unset, .unset, .unset, .unset, .unset, .unset, .unset] [(.int ((XT.ushr p2 (5 : Int32)) &&& (3 : Int32)))]))
  refine own_go (fun t k => XS.iconst X0.here hx rfl (hb hby at_14) k) ?_
  show own_End p e below s _ _ _ (s0.setTop (mkF m 15 #[.val (.long p1), .second, .val (.int p2), .val (.int p3), .val (.int p4), .val (.long p5), .second, .val (.int kk83), .unset, .unset, .unset, .unset, .unset, .unset, .unset, .unset, .unset, .unset, .unset, .unset, .unset, .unset, .unset, .unset, .unset, .unset, .unset] [(.int (3 : Int32)), (.int ((XT.ushr p2 (5 : Int32)) &&& (3 : Int32)))]))
  refine own_go (fun t k => XS.irem X0.here hx rfl (hb hby at_15) rfl (by decide) k) ?_
  show own_End p e below s _ _ _ (s0.setTop (mkF m 16 #[.val (.long p1), .second, .val (.int p2), .val (.int p3), .val (.int p4), .val (.long p5), .second, .val (.int kk83), .unset, .unset, .unset, .unset, .unset, .unset, .unset, .unset, .unset, .unset, .unset, .unset, .unset, .unset, .unset, .unset, .unset, .unset, .unset] [(.int (((XT.ushr p2 (5 : Int32)) &&& (3 : Int32)) - (((XT.ushr p2 (5 : Int32)) &&& (3 : Int32)) / (3 : Int32)) * (3 : Int32)))]))
  rw [irem_eq_mod ((XT.ushr p2 (5 : Int32)) &&& (3 : Int32)) (3 : Int32)]
  show own_End p e below s _ _ _ (s0.setTop (mkF m 16 #[.val (.long p1), .second, .val (.int p2), .val (.int p3), .val (.int p4), .val (.long p5), .second, .val (.int kk83), .unset, .unset, .unset, .unset, .unset, .unset, .unset, .unset, .unset, .unset, .unset, .unset, .unset, .unset, .unset, .unset, .unset, .unset, .unset] [(.int (((XT.ushr p2 (5 : Int32)) &&& (3 : Int32)) % (3 : Int32)))]))
  obtain ⟨sg84, qsg84⟩ : ∃ z : Int32, z = (((XT.ushr p2 (5 : Int32)) &&& (3 : Int32)) % (3 : Int32)) := ⟨_, rfl⟩
  rw [← qsg84]
  show own_End p e below s _ _ _ (s0.setTop (mkF m 16 #[.val (.long p1), .second, .val (.int p2), .val (.int p3), .val (.int p4), .val (.long p5), .second, .val (.int kk83), .unset, .unset, .unset, .unset, .unset, .unset, .unset, .unset, .unset, .unset, .unset, .unset, .unset, .unset, .unset, .unset, .unset, .unset, .unset] [(.int sg84)]))
  refine own_go (fun t k => XS.istore X0.here hx rfl (hb hby at_16) rfl (l' := #[.val (.long p1), .second, .val (.int p2), .val (.int p3), .val (.int p4), .val (.long p5), .second, .val (.int kk83), .val (.int sg84), .unset, .unset, .unset, .unset, .unset, .unset, .unset, .unset, .unset, .unset, .unset, .unset, .unset, .unset, .unset, .unset, .unset, .unset]) rfl k) ?_
  show own_End p e below s _ _ _ (s0.setTop (mkF m 18 #[.val (.long p1), .second, .val (.int p2), .val (.int p3), .val (.int p4), .val (.long p5), .second, .val (.int kk83), .val (.int sg84), .unset, .unset, .unset, .unset, .unset, .unset, .unset, .unset, .unset, .unset, .unset, .unset, .unset, .unset, .unset, .unset, .unset, .unset] []))
  refine own_go (fun t k => XS.iloadN X0.here hx rfl (hb hby at_18) rfl k) ?_
  show own_End p e below s _ _ _ (s0.setTop (mkF m 19 #[.val (.long p1), .second, .val (.int p2), .val (.int p3), .val (.int p4), .val (.long p5), .second, .val (.int kk83), .val (.int sg84), .unset, .unset, .unset, .unset, .unset, .unset, .unset, .unset, .unset, .unset, .unset, .unset, .unset, .unset, .unset, .unset, .unset, .unset] [(.int p2)]))
  refine own_go (fun t k => XS.bipush X0.here hx rfl (hb hby at_19) k) ?_
  show own_End p e below s _ _ _ (s0.setTop (mkF m 21 #[.val (.long p1), .second, .val (.int p2), .val (.int p3), .val (.int p4), .val (.long p5), .second, .val (.int kk83), .val (.int sg84), .unset, .unset, .unset, .unset, .unset, .unset, .unset, .unset, .unset, .unset, .unset, .unset, .unset, .unset, .unset, .unset, .unset, .unset] [(.int (7 : Int32)), (.int p2)]))
  refine own_go (fun t k => XT.iushr X0.here hx rfl (hb hby at_21) rfl k) ?_
  show own_End p e below s _ _ _ (s0.setTop (mkF m 22 #[.val (.long p1), .second, .val (.int p2), .val (.int p3), .val (.int p4), .val (.long p5), .second, .val (.int kk83), .val (.int sg84), .unset, .unset, .unset, .unset, .unset, .unset, .unset, .unset, .unset, .unset, .unset, .unset, .unset, .unset, .unset, .unset, .unset, .unset] [(.int (XT.ushr p2 (7 : Int32)))]))
  refine own_go (fun t k => XS.iconst X0.here hx rfl (hb hby at_22) k) ?_
  show own_End p e below s _ _ _ (s0.setTop (mkF m 23 #[.val (.long p1), .second, .val (.int p2), .val (.int p3), .val (.int p4), .val (.long p5), .second, .val (.int kk83), .val (.int sg84), .unset, .unset, .unset, .unset, .unset, .unset, .unset, .unset, .unset, .unset, .unset, .unset, .unset, .unset, .unset, .unset, .unset, .unset] [(.int (3 : Int32)), (.int (XT.ushr p2 (7 : Int32)))]))
  refine own_go (fun t k => XS.iand X0.here hx rfl (hb hby at_23) rfl k) ?_
  show own_End p e below s _ _ _ (s0.setTop (mkF m 24 #[.val (.long p1), .second, .val (.int p2), .val (.int p3), .val (.int p4), .val (.long p5), .second, .val (.int kk83), .val (.int sg84), .unset, .unset, .unset, .unset, .unset, .unset, .unset, .unset, .unset, .unset, .unset, .unset, .unset, .unset, .unset, .unset, .unset, .unset] [(.int ((XT.ushr p2 (7 : Int32)) &&& (3 : Int32)))]))
  refine own_go (fun t k => XS.iconst X0.here hx rfl (hb hby at_24) k) ?_
  show own_End p e below s _ _ _ (s0.setTop (mkF m 25 #[.val (.long p1), .second, .val (.int p2), .val (.int p3), .val (.int p4), .val (.long p5), .second, .val (.int kk83), .val (.int sg84), .unset, .unset, .unset, .unset, .unset, .unset, .unset, .unset, .unset, .unset, .unset, .unset, .unset, .unset, .unset, .unset, .unset, .unset] [(.int (3 : Int32)), (.int ((XT.ushr p2 (7 : Int32)) &&& (3 : Int32)))]))
  refine own_go (fun t k => XS.irem X0.here hx rfl (hb hby at_25) rfl (by decide) k) ?_
  show own_End p e below s _ _ _ (s0.setTop (mkF m 26 #[.val (.long p1), .second, .val (.int p2), .val (.int p3), .val (.int p4), .val (.long p5), .second, .val (.int kk83), .val (.int sg84), .unset, .unset, .unset, .unset, .unset, .unset, .unset, .unset, .unset, .unset, .unset, .unset, .unset, .unset, .unset, .unset, .unset, .unset] [(.int (((XT.ushr p2 (7 : Int32)) &&& (3 : Int32)) - (((XT.ushr p2 (7 : Int32)) &&& (3 : Int32)) / (3 : Int32)) * (3 : Int32)))]))
  rw [irem_eq_mod ((XT.ushr p2 (7 : Int32)) &&& (3 : Int32)) (3 : Int32)]
  show own_End p e below s _ _ _ (s0.setTop (mkF m 26 #[.val (.long p1), .second, .val (.int p2), .val (.int p3), .val (.int p4), .val (.long p5), .second, .val (.int kk83), .val (.int sg84), .unset, .unset, .unset, .unset, .unset, .unset, .unset, .unset, .unset, .unset, .unset, .unset, .unset, .unset, .unset, .unset, .unset, .unset] [(.int (((XT.ushr p2 (7 : Int32)) &&& (3 : Int32)) % (3 : Int32)))]))
  obtain ⟨ax85, qax85⟩ : ∃ z : Int32, z = (((XT.ushr p2 (7 : Int32)) &&& (3 : Int32)) % (3 : Int32)) := ⟨_, rfl⟩
  rw [← qax85]
  show own_End p e below s _ _ _ (s0.setTop (mkF m 26 #[.val (.long p1), .second, .val (.int p2), .val (.int p3), .val (.int p4), .val (.long p5), .second, .val (.int kk83), .val (.int sg84), .unset, .unset, .unset, .unset, .unset, .unset, .unset, .unset, .unset, .unset, .unset, .unset, .unset, .unset, .unset, .unset, .unset, .unset] [(.int ax85)]))
  obtain ⟨K, hK, hK20⟩ : ∃ z : Nat, kk83.toInt = z ∧ z ≤ 20 := by
    have h1 := c_and p2 31 (by decide); have e1 : (21 : Int32).toInt = 21 := by decide
    have h2 := (c_iremV (p2 &&& 31) 21).1 h1.1 (by decide)
    rw [qkk83]; exact ⟨((p2 &&& 31) % 21).toInt.toNat, by omega, by omega⟩
  have rsg : 0 ≤ sg84.toInt ∧ sg84.toInt ≤ 2 := by
    have h1 := c_and (XT.ushr p2 5) 3 (by decide); have e1 : (3 : Int32).toInt = 3 := by decide
    have h2 := (c_iremV (XT.ushr p2 5 &&& 3) 3).1 h1.1 (by decide); rw [qsg84]; omega
  obtain ⟨an, hax, han⟩ : ∃ z : Nat, ax85.toInt = z ∧ z < 3 := by
    have h1 := c_and (XT.ushr p2 7) 3 (by decide); have e1 : (3 : Int32).toInt = 3 := by decide
    have h2 := (c_iremV (XT.ushr p2 7 &&& 3) 3).1 h1.1 (by decide)
    rw [qax85]; exact ⟨((XT.ushr p2 7 &&& 3) % 3).toInt.toNat, by omega, by omega⟩
  refine own_go (fun t k => XS.istore X0.here hx rfl (hb hby at_26) rfl (l' := #[.val (.long p1), .second, .val (.int p2), .val (.int p3), .val (.int p4), .val (.long p5), .second, .val (.int kk83), .val (.int sg84), .val (.int ax85), .unset, .unset, .unset, .unset, .unset, .unset, .unset, .unset, .unset, .unset, .unset, .unset, .unset, .unset, .unset, .unset, .unset]) rfl k) ?_
  show own_End p e below s _ _ _ (s0.setTop (mkF m 28 #[.val (.long p1), .second, .val (.int p2), .val (.int p3), .val (.int p4), .val (.long p5), .second, .val (.int kk83), .val (.int sg84), .val (.int ax85), .unset, .unset, .unset, .unset, .unset, .unset, .unset, .unset, .unset, .unset, .unset, .unset, .unset, .unset, .unset, .unset, .unset] []))
  refine own_go (fun t k => XS.iloadN X0.here hx rfl (hb hby at_28) rfl k) ?_
  show own_End p e below s _ _ _ (s0.setTop (mkF m 29 #[.val (.long p1), .second, .val (.int p2), .val (.int p3), .val (.int p4), .val (.long p5), .second, .val (.int kk83), .val (.int sg84), .val (.int ax85), .unset, .unset, .unset, .unset, .unset, .unset, .unset, .unset, .unset, .unset, .unset, .unset, .unset, .unset, .unset, .unset, .unset] [(.int p2)]))
  refine own_go (fun t k => XS.bipush X0.here hx rfl (hb hby at_29) k) ?_
  show own_End p e below s _ _ _ (s0.setTop (mkF m 31 #[.val (.long p1), .second, .val (.int p2), .val (.int p3), .val (.int p4), .val (.long p5), .second, .val (.int kk83), .val (.int sg84), .val (.int ax85), .unset, .unset, .unset, .unset, .unset, .unset, .unset, .unset, .unset, .unset, .unset, .unset, .unset, .unset, .unset, .unset, .unset] [(.int (9 : Int32)), (.int p2)]))
  refine own_go (fun t k => XT.iushr X0.here hx rfl (hb hby at_31) rfl k) ?_
  show own_End p e below s _ _ _ (s0.setTop (mkF m 32 #[.val (.long p1), .second, .val (.int p2), .val (.int p3), .val (.int p4), .val (.long p5), .second, .val (.int kk83), .val (.int sg84), .val (.int ax85), .unset, .unset, .unset, .unset, .unset, .unset, .unset, .unset, .unset, .unset, .unset, .unset, .unset, .unset, .unset, .unset, .unset] [(.int (XT.ushr p2 (9 : Int32)))]))
  refine own_go (fun t k => XS.iconst X0.here hx rfl (hb hby at_32) k) ?_
  show own_End p e below s _ _ _ (s0.setTop (mkF m 33 #[.val (.long p1), .second, .val (.int p2), .val (.int p3), .val (.int p4), .val (.long p5), .second, .val (.int kk83), .val (.int sg84), .val (.int ax85), .unset, .unset, .unset, .unset, .unset, .unset, .unset, .unset, .unset, .unset, .unset, .unset, .unset, .unset, .unset, .unset, .unset] [(.int (1 : Int32)), (.int (XT.ushr p2 (9 : Int32)))]))
  refine own_go (fun t k => XS.iand X0.here hx rfl (hb hby at_33) rfl k) ?_
  show own_End p e below s _ _ _ (s0.setTop (mkF m 34 #[.val (.long p1), .second, .val (.int p2), .val (.int p3), .val (.int p4), .val (.long p5), .second, .val (.int kk83), .val (.int sg84), .val (.int ax85), .unset, .unset, .unset, .unset, .unset, .unset, .unset, .unset, .unset, .unset, .unset, .unset, .unset, .unset, .unset, .unset, .unset] [(.int ((XT.ushr p2 (9 : Int32)) &&& (1 : Int32)))]))
  refine own_join (fun G => ∀ un : Int32, G (s0.setTop (mkF m 42 #[.val (.long p1), .second, .val (.int p2), .val (.int p3), .val (.int p4), .val (.long p5), .second, .val (.int kk83), .val (.int sg84), .val (.int ax85), .unset, .unset, .unset, .unset, .unset, .unset, .unset, .unset, .unset, .unset, .unset, .unset, .unset, .unset, .unset, .unset, .unset] [(.int un)]))) ?_ ?_
  ·
    intro un
    show own_End p e below s _ _ _ (s0.setTop (mkF m 42 #[.val (.long p1), .second, .val (.int p2), .val (.int p3), .val (.int p4), .val (.long p5), .second, .val (.int kk83), .val (.int sg84), .val (.int ax85), .unset, .unset, .unset, .unset, .unset, .unset, .unset, .unset, .unset, .unset, .unset, .unset, .unset, .unset, .unset, .unset, .unset] [(.int un)]))
    refine own_go (fun t k => XS.istore X0.here hx rfl (hb hby at_42) rfl (l' := #[.val (.long p1), .second, .val (.int p2), .val (.int p3), .val (.int p4), .val (.long p5), .second, .val (.int kk83), .val (.int sg84), .val (.int ax85), .val (.int un), .unset, .unset, .unset, .unset, .unset, .unset, .unset, .unset, .unset, .unset, .unset, .unset, .unset, .unset, .unset, .unset]) rfl k) ?_
    show own_End p e below s _ _ _ (s0.setTop (mkF m 44 #[.val (.long p1), .second, .val (.int p2), .val (.int p3), .val (.int p4), .val (.long p5), .second, .val (.int kk83), .val (.int sg84), .val (.int ax85), .val (.int un), .unset, .unset, .unset, .unset, .unset, .unset, .unset, .unset, .unset, .unset, .unset, .unset, .unset, .unset, .unset, .unset] []))
    refine own_go (fun t k => XT.lloadN X0.here hx rfl (hb hby at_44) rfl k) ?_
    show own_End p e below s _ _ _ (s0.setTop (mkF m 45 #[.val (.long p1), .second, .val (.int p2), .val (.int p3), .val (.int p4), .val (.long p5), .second, .val (.int kk83), .val (.int sg84), .val (.int ax85), .val (.int un), .unset, .unset, .unset, .unset, .unset, .unset, .unset, .unset, .unset, .unset, .unset, .unset, .unset, .unset, .unset, .unset] [(.long p1)]))
    refine own_go (fun t k => XS.iconst X0.here hx rfl (hb hby at_45) k) ?_
    show own_End p e below s _ _ _ (s0.setTop (mkF m 46 #[.val (.long p1), .second, .val (.int p2), .val (.int p3), .val (.int p4), .val (.long p5), .second, .val (.int kk83), .val (.int sg84), .val (.int ax85), .val (.int un), .unset, .unset, .unset, .unset, .unset, .unset, .unset, .unset, .unset, .unset, .unset, .unset, .unset, .unset, .unset, .unset] [(.int (1 : Int32)), (.long p1)]))
    refine own_go (fun t k => XT.lushr X0.here hx rfl (hb hby at_46) rfl k) ?_
    show own_End p e below s _ _ _ (s0.setTop (mkF m 47 #[.val (.long p1), .second, .val (.int p2), .val (.int p3), .val (.int p4), .val (.long p5), .second, .val (.int kk83), .val (.int sg84), .val (.int ax85), .val (.int un), .unset, .unset, .unset, .unset, .unset, .unset, .unset, .unset, .unset, .unset, .unset, .unset, .unset, .unset, .unset, .unset] [(.long (XT.ushrL p1 (1 : Int32)))]))
    refine own_go (X0.ldc2Long (own := "com/example/ordinate/ordinate/sql/NumbersParseIntegerPinLaw") (index := 51) (v := 5) hx hown (mvT hZ (hw _ (List.mem_of_getElem? (i := 0) rfl))) (g := (mkF m 47 #[.val (.long p1), .second, .val (.int p2), .val (.int p3), .val (.int p4), .val (.long p5), .second, .val (.int kk83), .val (.int sg84), .val (.int ax85), .val (.int un), .unset, .unset, .unset, .unset, .unset, .unset, .unset, .unset, .unset, .unset, .unset, .unset, .unset, .unset, .unset, .unset] [(.long (XT.ushrL p1 (1 : Int32)))])) rfl (hb hby at_47)) ?_
    show own_End p e below s _ _ _ (s0.setTop (mkF m 50 #[.val (.long p1), .second, .val (.int p2), .val (.int p3), .val (.int p4), .val (.long p5), .second, .val (.int kk83), .val (.int sg84), .val (.int ax85), .val (.int un), .unset, .unset, .unset, .unset, .unset, .unset, .unset, .unset, .unset, .unset, .unset, .unset, .unset, .unset, .unset, .unset] [(.long (5 : Int64)), (.long (XT.ushrL p1 (1 : Int32)))]))
    refine own_go (fun t k => XT.ldiv X0.here hx rfl (hb hby at_50) rfl (by decide) k) ?_
    show own_End p e below s _ _ _ (s0.setTop (mkF m 51 #[.val (.long p1), .second, .val (.int p2), .val (.int p3), .val (.int p4), .val (.long p5), .second, .val (.int kk83), .val (.int sg84), .val (.int ax85), .val (.int un), .unset, .unset, .unset, .unset, .unset, .unset, .unset, .unset, .unset, .unset, .unset, .unset, .unset, .unset, .unset, .unset] [(.long ((XT.ushrL p1 (1 : Int32)) / (5 : Int64)))]))
    obtain ⟨uq86, quq86⟩ : ∃ z : Int64, z = ((XT.ushrL p1 (1 : Int32)) / (5 : Int64)) := ⟨_, rfl⟩
    rw [← quq86]
    show own_End p e below s _ _ _ (s0.setTop (mkF m 51 #[.val (.long p1), .second, .val (.int p2), .val (.int p3), .val (.int p4), .val (.long p5), .second, .val (.int kk83), .val (.int sg84), .val (.int ax85), .val (.int un), .unset, .unset, .unset, .unset, .unset, .unset, .unset, .unset, .unset, .unset, .unset, .unset, .unset, .unset, .unset, .unset] [(.long uq86)]))
    refine own_go (fun t k => XT.lstore X0.here hx rfl (hb hby at_51) rfl (l' := #[.val (.long p1), .second, .val (.int p2), .val (.int p3), .val (.int p4), .val (.long p5), .second, .val (.int kk83), .val (.int sg84), .val (.int ax85), .val (.int un), .val (.long uq86), .second, .unset, .unset, .unset, .unset, .unset, .unset, .unset, .unset, .unset, .unset, .unset, .unset, .unset, .unset]) rfl k) ?_
    show own_End p e below s _ _ _ (s0.setTop (mkF m 53 #[.val (.long p1), .second, .val (.int p2), .val (.int p3), .val (.int p4), .val (.long p5), .second, .val (.int kk83), .val (.int sg84), .val (.int ax85), .val (.int un), .val (.long uq86), .second, .unset, .unset, .unset, .unset, .unset, .unset, .unset, .unset, .unset, .unset, .unset, .unset, .unset, .unset] []))
    refine own_go (fun t k => XT.lloadN X0.here hx rfl (hb hby at_53) rfl k) ?_
    show own_End p e below s _ _ _ (s0.setTop (mkF m 54 #[.val (.long p1), .second, .val (.int p2), .val (.int p3), .val (.int p4), .val (.long p5), .second, .val (.int kk83), .val (.int sg84), .val (.int ax85), .val (.int un), .val (.long uq86), .second, .unset, .unset, .unset, .unset, .unset, .unset, .unset, .unset, .unset, .unset, .unset, .unset, .unset, .unset] [(.long p1)]))
    refine own_go (fun t k => XT.lload X0.here hx rfl (hb hby at_54) rfl k) ?_
    show own_End p e below s _ _ _ (s0.setTop (mkF m 56 #[.val (.long p1), .second, .val (.int p2), .val (.int p3), .val (.int p4), .val (.long p5), .second, .val (.int kk83), .val (.int sg84), .val (.int ax85), .val (.int un), .val (.long uq86), .second, .unset, .unset, .unset, .unset, .unset, .unset, .unset, .unset, .unset, .unset, .unset, .unset, .unset, .unset] [(.long uq86), (.long p1)]))
    refine own_go (X0.ldc2Long (own := "com/example/ordinate/ordinate/sql/NumbersParseIntegerPinLaw") (index := 7) (v := 10) hx hown (mvT hZ (hw _ (List.mem_of_getElem? (i := 1) rfl))) (g := (mkF m 56 #[.val (.long p1), .second, .val (.int p2), .val (.int p3), .val (.int p4), .val (.long p5), .second, .val (.int kk83), .val (.int sg84), .val (.int ax85), .val (.int un), .val (.long uq86), .second, .unset, .unset, .unset, .unset, .unset, .unset, .unset, .unset, .unset, .unset, .unset, .unset, .unset, .unset] [(.long uq86), (.long p1)])) rfl (hb hby at_56)) ?_
    show own_End p e below s _ _ _ (s0.setTop (mkF m 59 #[.val (.long p1), .second, .val (.int p2), .val (.int p3), .val (.int p4), .val (.long p5), .second, .val (.int kk83), .val (.int sg84), .val (.int ax85), .val (.int un), .val (.long uq86), .second, .unset, .unset, .unset, .unset, .unset, .unset, .unset, .unset, .unset, .unset, .unset, .unset, .unset, .unset] [(.long (10 : Int64)), (.long uq86), (.long p1)]))
    refine own_go (fun t k => XT.lmul X0.here hx rfl (hb hby at_59) rfl k) ?_
    show own_End p e below s _ _ _ (s0.setTop (mkF m 60 #[.val (.long p1), .second, .val (.int p2), .val (.int p3), .val (.int p4), .val (.long p5), .second, .val (.int kk83), .val (.int sg84), .val (.int ax85), .val (.int un), .val (.long uq86), .second, .unset, .unset, .unset, .unset, .unset, .unset, .unset, .unset, .unset, .unset, .unset, .unset, .unset, .unset] [(.long (uq86 * (10 : Int64))), (.long p1)]))
    refine own_go (fun t k => XT.lsub X0.here hx rfl (hb hby at_60) rfl k) ?_
    show own_End p e below s _ _ _ (s0.setTop (mkF m 61 #[.val (.long p1), .second, .val (.int p2), .val (.int p3), .val (.int p4), .val (.long p5), .second, .val (.int kk83), .val (.int sg84), .val (.int ax85), .val (.int un), .val (.long uq86), .second, .unset, .unset, .unset, .unset, .unset, .unset, .unset, .unset, .unset, .unset, .unset, .unset, .unset, .unset] [(.long (p1 - (uq86 * (10 : Int64))))]))
    obtain ⟨r087, qr087⟩ : ∃ z : Int64, z = (p1 - (uq86 * (10 : Int64))) := ⟨_, rfl⟩
    rw [← qr087]
    show own_End p e below s _ _ _ (s0.setTop (mkF m 61 #[.val (.long p1), .second, .val (.int p2), .val (.int p3), .val (.int p4), .val (.long p5), .second, .val (.int kk83), .val (.int sg84), .val (.int ax85), .val (.int un), .val (.long uq86), .second, .unset, .unset, .unset, .unset, .unset, .unset, .unset, .unset, .unset, .unset, .unset, .unset, .unset, .unset] [(.long r087)]))
    obtain ⟨Nn, hN⟩ : ∃ z : Nat, (z : Int) = p1.toInt % 18446744073709551616 := ⟨(p1.toInt % 18446744073709551616).toNat, by omega⟩
    have hu : uq86.toInt = ((Nn / 10 : Nat) : Int) := by
      have h1 : (XT.ushrL p1 1).toInt = (p1.toInt % 18446744073709551616) / ((2 ^ 1 : Nat) : Int) := c_lushr p1 1 1 (by decide) (by decide)
      have e2 : ((2 ^ 1 : Nat) : Int) = 2 := rfl
      rw [e2] at h1
      rw [quq86, (c_ldiv _ 5 5 (by decide) (by decide)).1 (by omega), h1]; omega
    have hr : r087.toInt = ((Nn % 10 : Nat) : Int) := by
      have h1 := c_lmul uq86 10; have h2 := c_lsub p1 (uq86 * 10); have h3 := rng64 (p1 - uq86 * 10); have e0 : (10 : Int64).toInt = 10 := by decide
      rw [e0] at h1; rw [qr087]; omega
    refine own_go (fun t k => XT.lstore X0.here hx rfl (hb hby at_61) rfl (l' := #[.val (.long p1), .second, .val (.int p2), .val (.int p3), .val (.int p4), .val (.long p5), .second, .val (.int kk83), .val (.int sg84), .val (.int ax85), .val (.int un), .val (.long uq86), .second, .val (.long r087), .second, .unset, .unset, .unset, .unset, .unset, .unset, .unset, .unset, .unset, .unset, .unset, .unset]) rfl k) ?_
    show own_End p e below s _ _ _ (s0.setTop (mkF m 63 #[.val (.long p1), .second, .val (.int p2), .val (.int p3), .val (.int p4), .val (.long p5), .second, .val (.int kk83), .val (.int sg84), .val (.int ax85), .val (.int un), .val (.long uq86), .second, .val (.long r087), .second, .unset, .unset, .unset, .unset, .unset, .unset, .unset, .unset, .unset, .unset, .unset, .unset] []))
    refine own_join (fun G => ∀ (TJ : State) (lJ : List Loc) (hJ : Heap) (tb : Addr) (kt : ClassId) (g : Nat → Int32) (fr : Nat) (fm nv okv : Int32) (ex : Int64) (s18 s19 s20 s24 s25 : Slot), Stand p l e room_1 s m #[(.long p1), (.int p2), (.int p3), (.int p4), (.long p5)] below meth c TJ lJ 21 403 → TJ.heap = hJ → Fr n0 lJ → n0 ≤ hJ.size → n0 ≤ tb → own_F Z hJ tb kt .char 23 (fun i => .int (g i)) → (fm.toInt = ((fr : Nat) : Int)) → (fr ≤ 22) → ((s24 = .unset ∧ s25 = .unset) ∨ ∃ z : Int64, s24 = .val (.long z) ∧ s25 = .second) → ((okv = 1 ∧ own_ok g fr ∧ ex.toInt = own_res g fr) ∨ (okv = 0 ∧ ¬ own_ok g fr)) → G (TJ.setTop (mkF m 644 #[.val (.long p1), .second, .val (.int p2), .val (.int p3), .val (.int p4), .val (.long p5), .second, .val (.int kk83), .val (.int sg84), .val (.int ax85), .val (.int un), .val (.long uq86), .second, .val (.long r087), .second, .val (.ref tb), .val (.int fm), .val (.int nv), s18, s19, s20, .val (.int okv), .val (.long ex), .second, s24, s25, .unset] []))) ?_ ?_
    ·
      intro TJ lJ hJ tb kt g fr fm nv okv ex s18 s19 s20 s24 s25 XJ eJ NJ ZJ ntb VJ hfm hf22 hs24 hok
      show own_End p e below s _ _ _ (TJ.setTop (mkF m 644 #[.val (.long p1), .second, .val (.int p2), .val (.int p3), .val (.int p4), .val (.long p5), .second, .val (.int kk83), .val (.int sg84), .val (.int ax85), .val (.int un), .val (.long uq86), .second, .val (.long r087), .second, .val (.ref tb), .val (.int fm), .val (.int nv), s18, s19, s20, .val (.int okv), .val (.long ex), .second, s24, s25, .unset] []))
      refine own_go (fun t k => XS.iload XJ.here hx rfl (hb hby at_644) rfl k) ?_
      show own_End p e below s _ _ _ (TJ.setTop (mkF m 646 #[.val (.long p1), .second, .val (.int p2), .val (.int p3), .val (.int p4), .val (.long p5), .second, .val (.int kk83), .val (.int sg84), .val (.int ax85), .val (.int un), .val (.long uq86), .second, .val (.long r087), .second, .val (.ref tb), .val (.int fm), .val (.int nv), s18, s19, s20, .val (.int okv), .val (.long ex), .second, s24, s25, .unset] [(.int un)]))
      by_cases qz : un.toInt = 0
      ·
        refine own_go (fun t k => XS.ifYes XJ.here hx rfl (pc0 := 646) (pc' := 671) rfl (hb hby at_646) rfl (own_0 (own_eqY (k := 0) rfl qz)) (by decide) (by decide) k) ?_
        show own_End p e below s _ _ _ (TJ.setTop (mkF m 671 #[.val (.long p1), .second, .val (.int p2), .val (.int p3), .val (.int p4), .val (.long p5), .second, .val (.int kk83), .val (.int sg84), .val (.int ax85), .val (.int un), .val (.long uq86), .second, .val (.long r087), .second, .val (.ref tb), .val (.int fm), .val (.int nv), s18, s19, s20, .val (.int okv), .val (.long ex), .second, s24, s25, .unset] []))
        refine own_go (fun t k => XS.iconst XJ.here hx rfl (hb hby at_671) k) ?_
        show own_End p e below s _ _ _ (TJ.setTop (mkF m 672 #[.val (.long p1), .second, .val (.int p2), .val (.int p3), .val (.int p4), .val (.long p5), .second, .val (.int kk83), .val (.int sg84), .val (.int ax85), .val (.int un), .val (.long uq86), .second, .val (.long r087), .second, .val (.ref tb), .val (.int fm), .val (.int nv), s18, s19, s20, .val (.int okv), .val (.long ex), .second, s24, s25, .unset] [(.int (3 : Int32))]))
        obtain ⟨T88, h88, k88, X88, e88, E88, A88, st88⟩ := newP XJ hx hZ (hw _ (List.mem_of_getElem? (i := 11) rfl)) eJ (g := (mkF m 672 #[.val (.long p1), .second, .val (.int p2), .val (.int p3), .val (.int p4), .val (.long p5), .second, .val (.int kk83), .val (.int sg84), .val (.int ax85), .val (.int un), .val (.long uq86), .second, .val (.long r087), .second, .val (.ref tb), .val (.int fm), .val (.int nv), s18, s19, s20, .val (.int okv), .val (.long ex), .second, s24, s25, .unset] [(.int (3 : Int32))])) rfl (hb hby at_672) rfl (by decide) (cap := 3) (by decide) (by decide) (by decide) (by decide)
        obtain ⟨b88, gb88⟩ : ∃ z, z = hJ.size := ⟨_, rfl⟩
        rw [← gb88] at A88 st88
        have F88 := own_F.new A88 (n := 3) (by decide) (by decide)
        have nb88 : n0 ≤ b88 := by rw [gb88]; exact ZJ
        have Z88 : n0 ≤ h88.size := Nat.le_trans ZJ E88.1
        have lt_tb_b88 : @LT.lt Nat _ tb b88 := Nat.lt_of_lt_of_le VJ.lt (Nat.le_of_eq gb88.symm)
        have f89 := VJ.ext E88
        refine own_go st88 ?_
        show own_End p e below s _ _ _ (T88.setTop (mkF m 674 #[.val (.long p1), .second, .val (.int p2), .val (.int p3), .val (.int p4), .val (.long p5), .second, .val (.int kk83), .val (.int sg84), .val (.int ax85), .val (.int un), .val (.long uq86), .second, .val (.long r087), .second, .val (.ref tb), .val (.int fm), .val (.int nv), s18, s19, s20, .val (.int okv), .val (.long ex), .second, s24, s25, .unset] [(.ref b88)]))
        refine own_go (fun t k => XS.dup X88.here hx rfl (hb hby at_674) rfl rfl k) ?_
        show own_End p e below s _ _ _ (T88.setTop (mkF m 675 #[.val (.long p1), .second, .val (.int p2), .val (.int p3), .val (.int p4), .val (.long p5), .second, .val (.int kk83), .val (.int sg84), .val (.int ax85), .val (.int un), .val (.long uq86), .second, .val (.long r087), .second, .val (.ref tb), .val (.int fm), .val (.int nv), s18, s19, s20, .val (.int okv), .val (.long ex), .second, s24, s25, .unset] [(.ref b88), (.ref b88)]))
        refine own_go (fun t k => XS.iconst X88.here hx rfl (hb hby at_675) k) ?_
        show own_End p e below s _ _ _ (T88.setTop (mkF m 676 #[.val (.long p1), .second, .val (.int p2), .val (.int p3), .val (.int p4), .val (.long p5), .second, .val (.int kk83), .val (.int sg84), .val (.int ax85), .val (.int un), .val (.long uq86), .second, .val (.long r087), .second, .val (.ref tb), .val (.int fm), .val (.int nv), s18, s19, s20, .val (.int okv), .val (.long ex), .second, s24, s25, .unset] [(.int (0 : Int32)), (.ref b88), (.ref b88)]))
        refine own_go (fun t k => XT.lload X88.here hx rfl (hb hby at_676) rfl k) ?_
        show own_End p e below s _ _ _ (T88.setTop (mkF m 678 #[.val (.long p1), .second, .val (.int p2), .val (.int p3), .val (.int p4), .val (.long p5), .second, .val (.int kk83), .val (.int sg84), .val (.int ax85), .val (.int un), .val (.long uq86), .second, .val (.long r087), .second, .val (.ref tb), .val (.int fm), .val (.int nv), s18, s19, s20, .val (.int okv), .val (.long ex), .second, s24, s25, .unset] [(.long p5), (.int (0 : Int32)), (.ref b88), (.ref b88)]))
        obtain ⟨T90, h90, X90, e90, W90, F90, st90⟩ := own_fstJ X88 hx hZ e88 F88 (j := (0 : Int32)) (y := p5) 0 (by decide) (by decide) (pc := 678) (Ls := #[.val (.long p1), .second, .val (.int p2), .val (.int p3), .val (.int p4), .val (.long p5), .second, .val (.int kk83), .val (.int sg84), .val (.int ax85), .val (.int un), .val (.long uq86), .second, .val (.long r087), .second, .val (.ref tb), .val (.int fm), .val (.int nv), s18, s19, s20, .val (.int okv), .val (.long ex), .second, s24, s25, .unset]) (rest := [(.ref b88)]) (hb hby at_678)
        have N90 := Fr.snoc X90 NJ nb88
        have Z90 : n0 ≤ h90.size := by rw [W90.size]; exact Z88
        refine own_go st90 ?_
        have f91 := f89.other W90 (Nat.ne_of_lt lt_tb_b88)
        show own_End p e below s _ _ _ (T90.setTop (mkF m 679 #[.val (.long p1), .second, .val (.int p2), .val (.int p3), .val (.int p4), .val (.long p5), .second, .val (.int kk83), .val (.int sg84), .val (.int ax85), .val (.int un), .val (.long uq86), .second, .val (.long r087), .second, .val (.ref tb), .val (.int fm), .val (.int nv), s18, s19, s20, .val (.int okv), .val (.long ex), .second, s24, s25, .unset] [(.ref b88)]))
        refine own_go (fun t k => XS.dup X90.here hx rfl (hb hby at_679) rfl rfl k) ?_
        show own_End p e below s _ _ _ (T90.setTop (mkF m 680 #[.val (.long p1), .second, .val (.int p2), .val (.int p3), .val (.int p4), .val (.long p5), .second, .val (.int kk83), .val (.int sg84), .val (.int ax85), .val (.int un), .val (.long uq86), .second, .val (.long r087), .second, .val (.ref tb), .val (.int fm), .val (.int nv), s18, s19, s20, .val (.int okv), .val (.long ex), .second, s24, s25, .unset] [(.ref b88), (.ref b88)]))
        refine own_go (fun t k => XS.iconst X90.here hx rfl (hb hby at_680) k) ?_
        show own_End p e below s _ _ _ (T90.setTop (mkF m 681 #[.val (.long p1), .second, .val (.int p2), .val (.int p3), .val (.int p4), .val (.long p5), .second, .val (.int kk83), .val (.int sg84), .val (.int ax85), .val (.int un), .val (.long uq86), .second, .val (.long r087), .second, .val (.ref tb), .val (.int fm), .val (.int nv), s18, s19, s20, .val (.int okv), .val (.long ex), .second, s24, s25, .unset] [(.int (1 : Int32)), (.ref b88), (.ref b88)]))
        refine own_go (fun t k => XT.lload X90.here hx rfl (hb hby at_681) rfl k) ?_
        show own_End p e below s _ _ _ (T90.setTop (mkF m 683 #[.val (.long p1), .second, .val (.int p2), .val (.int p3), .val (.int p4), .val (.long p5), .second, .val (.int kk83), .val (.int sg84), .val (.int ax85), .val (.int un), .val (.long uq86), .second, .val (.long r087), .second, .val (.ref tb), .val (.int fm), .val (.int nv), s18, s19, s20, .val (.int okv), .val (.long ex), .second, s24, s25, .unset] [(.long p5), (.int (1 : Int32)), (.ref b88), (.ref b88)]))
        refine own_go (X90.ldc2Long (own := "com/example/ordinate/ordinate/sql/NumbersParseIntegerPinLaw") (index := 68) (v := (-1)) hx hown (mvT hZ (hw _ (List.mem_of_getElem? (i := 30) rfl))) (g := (mkF m 683 #[.val (.long p1), .second, .val (.int p2), .val (.int p3), .val (.int p4), .val (.long p5), .second, .val (.int kk83), .val (.int sg84), .val (.int ax85), .val (.int un), .val (.long uq86), .second, .val (.long r087), .second, .val (.ref tb), .val (.int fm), .val (.int nv), s18, s19, s20, .val (.int okv), .val (.long ex), .second, s24, s25, .unset] [(.long p5), (.int (1 : Int32)), (.ref b88), (.ref b88)])) rfl (hb hby at_683)) ?_
        show own_End p e below s _ _ _ (T90.setTop (mkF m 686 #[.val (.long p1), .second, .val (.int p2), .val (.int p3), .val (.int p4), .val (.long p5), .second, .val (.int kk83), .val (.int sg84), .val (.int ax85), .val (.int un), .val (.long uq86), .second, .val (.long r087), .second, .val (.ref tb), .val (.int fm), .val (.int nv), s18, s19, s20, .val (.int okv), .val (.long ex), .second, s24, s25, .unset] [(.long (-1 : Int64)), (.long p5), (.int (1 : Int32)), (.ref b88), (.ref b88)]))
        refine own_go (fun t k => XT.lxor X90.here hx rfl (hb hby at_686) rfl k) ?_
        show own_End p e below s _ _ _ (T90.setTop (mkF m 687 #[.val (.long p1), .second, .val (.int p2), .val (.int p3), .val (.int p4), .val (.long p5), .second, .val (.int kk83), .val (.int sg84), .val (.int ax85), .val (.int un), .val (.long uq86), .second, .val (.long r087), .second, .val (.ref tb), .val (.int fm), .val (.int nv), s18, s19, s20, .val (.int okv), .val (.long ex), .second, s24, s25, .unset] [(.long (p5 ^^^ (-1 : Int64))), (.int (1 : Int32)), (.ref b88), (.ref b88)]))
        obtain ⟨T93, h93, X93, e93, W93, F93, st93⟩ := own_fstJ X90 hx hZ e90 F90 (j := (1 : Int32)) (y := (p5 ^^^ (-1 : Int64))) 1 (by decide) (by decide) (pc := 687) (Ls := #[.val (.long p1), .second, .val (.int p2), .val (.int p3), .val (.int p4), .val (.long p5), .second, .val (.int kk83), .val (.int sg84), .val (.int ax85), .val (.int un), .val (.long uq86), .second, .val (.long r087), .second, .val (.ref tb), .val (.int fm), .val (.int nv), s18, s19, s20, .val (.int okv), .val (.long ex), .second, s24, s25, .unset]) (rest := [(.ref b88)]) (hb hby at_687)
        have N93 := Fr.snoc X93 N90 nb88
        have Z93 : n0 ≤ h93.size := by rw [W93.size]; exact Z90
        refine own_go st93 ?_
        have f94 := f91.other W93 (Nat.ne_of_lt lt_tb_b88)
        show own_End p e below s _ _ _ (T93.setTop (mkF m 688 #[.val (.long p1), .second, .val (.int p2), .val (.int p3), .val (.int p4), .val (.long p5), .second, .val (.int kk83), .val (.int sg84), .val (.int ax85), .val (.int un), .val (.long uq86), .second, .val (.long r087), .second, .val (.ref tb), .val (.int fm), .val (.int nv), s18, s19, s20, .val (.int okv), .val (.long ex), .second, s24, s25, .unset] [(.ref b88)]))
        refine own_go (fun t k => XS.dup X93.here hx rfl (hb hby at_688) rfl rfl k) ?_
        show own_End p e below s _ _ _ (T93.setTop (mkF m 689 #[.val (.long p1), .second, .val (.int p2), .val (.int p3), .val (.int p4), .val (.long p5), .second, .val (.int kk83), .val (.int sg84), .val (.int ax85), .val (.int un), .val (.long uq86), .second, .val (.long r087), .second, .val (.ref tb), .val (.int fm), .val (.int nv), s18, s19, s20, .val (.int okv), .val (.long ex), .second, s24, s25, .unset] [(.ref b88), (.ref b88)]))
        refine own_go (fun t k => XS.iconst X93.here hx rfl (hb hby at_689) k) ?_
        show own_End p e below s _ _ _ (T93.setTop (mkF m 690 #[.val (.long p1), .second, .val (.int p2), .val (.int p3), .val (.int p4), .val (.long p5), .second, .val (.int kk83), .val (.int sg84), .val (.int ax85), .val (.int un), .val (.long uq86), .second, .val (.long r087), .second, .val (.ref tb), .val (.int fm), .val (.int nv), s18, s19, s20, .val (.int okv), .val (.long ex), .second, s24, s25, .unset] [(.int (2 : Int32)), (.ref b88), (.ref b88)]))
        refine own_go (fun t k => XT.lload X93.here hx rfl (hb hby at_690) rfl k) ?_
        show own_End p e below s _ _ _ (T93.setTop (mkF m 692 #[.val (.long p1), .second, .val (.int p2), .val (.int p3), .val (.int p4), .val (.long p5), .second, .val (.int kk83), .val (.int sg84), .val (.int ax85), .val (.int un), .val (.long uq86), .second, .val (.long r087), .second, .val (.ref tb), .val (.int fm), .val (.int nv), s18, s19, s20, .val (.int okv), .val (.long ex), .second, s24, s25, .unset] [(.long p5), (.int (2 : Int32)), (.ref b88), (.ref b88)]))
        refine own_go (X93.ldc2Long (own := "com/example/ordinate/ordinate/sql/NumbersParseIntegerPinLaw") (index := 70) (v := 7) hx hown (mvT hZ (hw _ (List.mem_of_getElem? (i := 31) rfl))) (g := (mkF m 692 #[.val (.long p1), .second, .val (.int p2), .val (.int p3), .val (.int p4), .val (.long p5), .second, .val (.int kk83), .val (.int sg84), .val (.int ax85), .val (.int un), .val (.long uq86), .second, .val (.long r087), .second, .val (.ref tb), .val (.int fm), .val (.int nv), s18, s19, s20, .val (.int okv), .val (.long ex), .second, s24, s25, .unset] [(.long p5), (.int (2 : Int32)), (.ref b88), (.ref b88)])) rfl (hb hby at_692)) ?_
        show own_End p e below s _ _ _ (T93.setTop (mkF m 695 #[.val (.long p1), .second, .val (.int p2), .val (.int p3), .val (.int p4), .val (.long p5), .second, .val (.int kk83), .val (.int sg84), .val (.int ax85), .val (.int un), .val (.long uq86), .second, .val (.long r087), .second, .val (.ref tb), .val (.int fm), .val (.int nv), s18, s19, s20, .val (.int okv), .val (.long ex), .second, s24, s25, .unset] [(.long (7 : Int64)), (.long p5), (.int (2 : Int32)), (.ref b88), (.ref b88)]))
        refine own_go (fun t k => XT.ladd X93.here hx rfl (hb hby at_695) rfl k) ?_
        show own_End p e below s _ _ _ (T93.setTop (mkF m 696 #[.val (.long p1), .second, .val (.int p2), .val (.int p3), .val (.int p4), .val (.long p5), .second, .val (.int kk83), .val (.int sg84), .val (.int ax85), .val (.int un), .val (.long uq86), .second, .val (.long r087), .second, .val (.ref tb), .val (.int fm), .val (.int nv), s18, s19, s20, .val (.int okv), .val (.long ex), .second, s24, s25, .unset] [(.long (p5 + (7 : Int64))), (.int (2 : Int32)), (.ref b88), (.ref b88)]))
        obtain ⟨T96, h96, X96, e96, W96, F96, st96⟩ := own_fstJ X93 hx hZ e93 F93 (j := (2 : Int32)) (y := (p5 + (7 : Int64))) 2 (by decide) (by decide) (pc := 696) (Ls := #[.val (.long p1), .second, .val (.int p2), .val (.int p3), .val (.int p4), .val (.long p5), .second, .val (.int kk83), .val (.int sg84), .val (.int ax85), .val (.int un), .val (.long uq86), .second, .val (.long r087), .second, .val (.ref tb), .val (.int fm), .val (.int nv), s18, s19, s20, .val (.int okv), .val (.long ex), .second, s24, s25, .unset]) (rest := [(.ref b88)]) (hb hby at_696)
        have N96 := Fr.snoc X96 N93 nb88
        have Z96 : n0 ≤ h96.size := by rw [W96.size]; exact Z93
        refine own_go st96 ?_
        have f97 := f94.other W96 (Nat.ne_of_lt lt_tb_b88)
        show own_End p e below s _ _ _ (T96.setTop (mkF m 697 #[.val (.long p1), .second, .val (.int p2), .val (.int p3), .val (.int p4), .val (.long p5), .second, .val (.int kk83), .val (.int sg84), .val (.int ax85), .val (.int un), .val (.long uq86), .second, .val (.long r087), .second, .val (.ref tb), .val (.int fm), .val (.int nv), s18, s19, s20, .val (.int okv), .val (.long ex), .second, s24, s25, .unset] [(.ref b88)]))
        have f99 := own_F.cong F96 (g := fun i => .long ((fun i => if i = 0 then p5 else if i = 1 then (p5 ^^^ (-1)) else (p5 + 7)) i)) (fun i hi => by match i, hi with | 0, _ => rfl | 1, _ => rfl | 2, _ => rfl)
        refine own_go (fun t k => XS.astore X96.here hx rfl (hb hby at_697) rfl rfl (l' := #[.val (.long p1), .second, .val (.int p2), .val (.int p3), .val (.int p4), .val (.long p5), .second, .val (.int kk83), .val (.int sg84), .val (.int ax85), .val (.int un), .val (.long uq86), .second, .val (.long r087), .second, .val (.ref tb), .val (.int fm), .val (.int nv), s18, s19, s20, .val (.int okv), .val (.long ex), .second, .val (.ref b88), .unset, .unset]) (by rcases hs24 with ⟨rfl, rfl⟩ | ⟨z, rfl, rfl⟩ <;> rfl) k) ?_
        show own_End p e below s _ _ _ (T96.setTop (mkF m 699 #[.val (.long p1), .second, .val (.int p2), .val (.int p3), .val (.int p4), .val (.long p5), .second, .val (.int kk83), .val (.int sg84), .val (.int ax85), .val (.int un), .val (.long uq86), .second, .val (.long r087), .second, .val (.ref tb), .val (.int fm), .val (.int nv), s18, s19, s20, .val (.int okv), .val (.long ex), .second, .val (.ref b88), .unset, .unset] []))
        refine own_go (fun t k => XS.iconst X96.here hx rfl (hb hby at_699) k) ?_
        show own_End p e below s _ _ _ (T96.setTop (mkF m 700 #[.val (.long p1), .second, .val (.int p2), .val (.int p3), .val (.int p4), .val (.long p5), .second, .val (.int kk83), .val (.int sg84), .val (.int ax85), .val (.int un), .val (.long uq86), .second, .val (.long r087), .second, .val (.ref tb), .val (.int fm), .val (.int nv), s18, s19, s20, .val (.int okv), .val (.long ex), .second, .val (.ref b88), .unset, .unset] [(.int (3 : Int32))]))
        obtain ⟨T100, h100, k100, X100, e100, E100, A100, st100⟩ := newP X96 hx hZ (hw _ (List.mem_of_getElem? (i := 11) rfl)) e96 (g := (mkF m 700 #[.val (.long p1), .second, .val (.int p2), .val (.int p3), .val (.int p4), .val (.long p5), .second, .val (.int kk83), .val (.int sg84), .val (.int ax85), .val (.int un), .val (.long uq86), .second, .val (.long r087), .second, .val (.ref tb), .val (.int fm), .val (.int nv), s18, s19, s20, .val (.int okv), .val (.long ex), .second, .val (.ref b88), .unset, .unset] [(.int (3 : Int32))])) rfl (hb hby at_700) rfl (by decide) (cap := 3) (by decide) (by decide) (by decide) (by decide)
        obtain ⟨b100, gb100⟩ : ∃ z, z = h96.size := ⟨_, rfl⟩
        rw [← gb100] at A100 st100
        have F100 := own_F.new A100 (n := 3) (by decide) (by decide)
        have nb100 : n0 ≤ b100 := by rw [gb100]; exact Z96
        have Z100 : n0 ≤ h100.size := Nat.le_trans Z96 E100.1
        have lt_tb_b100 : @LT.lt Nat _ tb b100 := Nat.lt_of_lt_of_le f97.lt (Nat.le_of_eq gb100.symm)
        have lt_b88_b100 : @LT.lt Nat _ b88 b100 := Nat.lt_of_lt_of_le f99.lt (Nat.le_of_eq gb100.symm)
        have f101 := f97.ext E100
        have f102 := f99.ext E100
        refine own_go st100 ?_
        show own_End p e below s _ _ _ (T100.setTop (mkF m 702 #[.val (.long p1), .second, .val (.int p2), .val (.int p3), .val (.int p4), .val (.long p5), .second, .val (.int kk83), .val (.int sg84), .val (.int ax85), .val (.int un), .val (.long uq86), .second, .val (.long r087), .second, .val (.ref tb), .val (.int fm), .val (.int nv), s18, s19, s20, .val (.int okv), .val (.long ex), .second, .val (.ref b88), .unset, .unset] [(.ref b100)]))
        refine own_go (fun t k => XS.dup X100.here hx rfl (hb hby at_702) rfl rfl k) ?_
        show own_End p e below s _ _ _ (T100.setTop (mkF m 703 #[.val (.long p1), .second, .val (.int p2), .val (.int p3), .val (.int p4), .val (.long p5), .second, .val (.int kk83), .val (.int sg84), .val (.int ax85), .val (.int un), .val (.long uq86), .second, .val (.long r087), .second, .val (.ref tb), .val (.int fm), .val (.int nv), s18, s19, s20, .val (.int okv), .val (.long ex), .second, .val (.ref b88), .unset, .unset] [(.ref b100), (.ref b100)]))
        refine own_go (fun t k => XS.iconst X100.here hx rfl (hb hby at_703) k) ?_
        show own_End p e below s _ _ _ (T100.setTop (mkF m 704 #[.val (.long p1), .second, .val (.int p2), .val (.int p3), .val (.int p4), .val (.long p5), .second, .val (.int kk83), .val (.int sg84), .val (.int ax85), .val (.int un), .val (.long uq86), .second, .val (.long r087), .second, .val (.ref tb), .val (.int fm), .val (.int nv), s18, s19, s20, .val (.int okv), .val (.long ex), .second, .val (.ref b88), .unset, .unset] [(.int (0 : Int32)), (.ref b100), (.ref b100)]))
        refine own_go (fun t k => XT.lload X100.here hx rfl (hb hby at_704) rfl k) ?_
        show own_End p e below s _ _ _ (T100.setTop (mkF m 706 #[.val (.long p1), .second, .val (.int p2), .val (.int p3), .val (.int p4), .val (.long p5), .second, .val (.int kk83), .val (.int sg84), .val (.int ax85), .val (.int un), .val (.long uq86), .second, .val (.long r087), .second, .val (.ref tb), .val (.int fm), .val (.int nv), s18, s19, s20, .val (.int okv), .val (.long ex), .second, .val (.ref b88), .unset, .unset] [(.long p5), (.int (0 : Int32)), (.ref b100), (.ref b100)]))
        obtain ⟨T103, h103, X103, e103, W103, F103, st103⟩ := own_fstJ X100 hx hZ e100 F100 (j := (0 : Int32)) (y := p5) 0 (by decide) (by decide) (pc := 706) (Ls := #[.val (.long p1), .second, .val (.int p2), .val (.int p3), .val (.int p4), .val (.long p5), .second, .val (.int kk83), .val (.int sg84), .val (.int ax85), .val (.int un), .val (.long uq86), .second, .val (.long r087), .second, .val (.ref tb), .val (.int fm), .val (.int nv), s18, s19, s20, .val (.int okv), .val (.long ex), .second, .val (.ref b88), .unset, .unset]) (rest := [(.ref b100)]) (hb hby at_706)
        have N103 := Fr.snoc X103 N96 nb100
        have Z103 : n0 ≤ h103.size := by rw [W103.size]; exact Z100
        refine own_go st103 ?_
        have f104 := f101.other W103 (Nat.ne_of_lt lt_tb_b100)
        have f105 := f102.other W103 (Nat.ne_of_lt lt_b88_b100)
        show own_End p e below s _ _ _ (T103.setTop (mkF m 707 #[.val (.long p1), .second, .val (.int p2), .val (.int p3), .val (.int p4), .val (.long p5), .second, .val (.int kk83), .val (.int sg84), .val (.int ax85), .val (.int un), .val (.long uq86), .second, .val (.long r087), .second, .val (.ref tb), .val (.int fm), .val (.int nv), s18, s19, s20, .val (.int okv), .val (.long ex), .second, .val (.ref b88), .unset, .unset] [(.ref b100)]))
        refine own_go (fun t k => XS.dup X103.here hx rfl (hb hby at_707) rfl rfl k) ?_
        show own_End p e below s _ _ _ (T103.setTop (mkF m 708 #[.val (.long p1), .second, .val (.int p2), .val (.int p3), .val (.int p4), .val (.long p5), .second, .val (.int kk83), .val (.int sg84), .val (.int ax85), .val (.int un), .val (.long uq86), .second, .val (.long r087), .second, .val (.ref tb), .val (.int fm), .val (.int nv), s18, s19, s20, .val (.int okv), .val (.long ex), .second, .val (.ref b88), .unset, .unset] [(.ref b100), (.ref b100)]))
        refine own_go (fun t k => XS.iconst X103.here hx rfl (hb hby at_708) k) ?_
        show own_End p e below s _ _ _ (T103.setTop (mkF m 709 #[.val (.long p1), .second, .val (.int p2), .val (.int p3), .val (.int p4), .val (.long p5), .second, .val (.int kk83), .val (.int sg84), .val (.int ax85), .val (.int un), .val (.long uq86), .second, .val (.long r087), .second, .val (.ref tb), .val (.int fm), .val (.int nv), s18, s19, s20, .val (.int okv), .val (.long ex), .second, .val (.ref b88), .unset, .unset] [(.int (1 : Int32)), (.ref b100), (.ref b100)]))
        refine own_go (fun t k => XT.lload X103.here hx rfl (hb hby at_709) rfl k) ?_
        show own_End p e below s _ _ _ (T103.setTop (mkF m 711 #[.val (.long p1), .second, .val (.int p2), .val (.int p3), .val (.int p4), .val (.long p5), .second, .val (.int kk83), .val (.int sg84), .val (.int ax85), .val (.int un), .val (.long uq86), .second, .val (.long r087), .second, .val (.ref tb), .val (.int fm), .val (.int nv), s18, s19, s20, .val (.int okv), .val (.long ex), .second, .val (.ref b88), .unset, .unset] [(.long p5), (.int (1 : Int32)), (.ref b100), (.ref b100)]))
        refine own_go (X103.ldc2Long (own := "com/example/ordinate/ordinate/sql/NumbersParseIntegerPinLaw") (index := 68) (v := (-1)) hx hown (mvT hZ (hw _ (List.mem_of_getElem? (i := 30) rfl))) (g := (mkF m 711 #[.val (.long p1), .second, .val (.int p2), .val (.int p3), .val (.int p4), .val (.long p5), .second, .val (.int kk83), .val (.int sg84), .val (.int ax85), .val (.int un), .val (.long uq86), .second, .val (.long r087), .second, .val (.ref tb), .val (.int fm), .val (.int nv), s18, s19, s20, .val (.int okv), .val (.long ex), .second, .val (.ref b88), .unset, .unset] [(.long p5), (.int (1 : Int32)), (.ref b100), (.ref b100)])) rfl (hb hby at_711)) ?_
        show own_End p e below s _ _ _ (T103.setTop (mkF m 714 #[.val (.long p1), .second, .val (.int p2), .val (.int p3), .val (.int p4), .val (.long p5), .second, .val (.int kk83), .val (.int sg84), .val (.int ax85), .val (.int un), .val (.long uq86), .second, .val (.long r087), .second, .val (.ref tb), .val (.int fm), .val (.int nv), s18, s19, s20, .val (.int okv), .val (.long ex), .second, .val (.ref b88), .unset, .unset] [(.long (-1 : Int64)), (.long p5), (.int (1 : Int32)), (.ref b100), (.ref b100)]))
        refine own_go (fun t k => XT.lxor X103.here hx rfl (hb hby at_714) rfl k) ?_
        show own_End p e below s _ _ _ (T103.setTop (mkF m 715 #[.val (.long p1), .second, .val (.int p2), .val (.int p3), .val (.int p4), .val (.long p5), .second, .val (.int kk83), .val (.int sg84), .val (.int ax85), .val (.int un), .val (.long uq86), .second, .val (.long r087), .second, .val (.ref tb), .val (.int fm), .val (.int nv), s18, s19, s20, .val (.int okv), .val (.long ex), .second, .val (.ref b88), .unset, .unset] [(.long (p5 ^^^ (-1 : Int64))), (.int (1 : Int32)), (.ref b100), (.ref b100)]))
        obtain ⟨T107, h107, X107, e107, W107, F107, st107⟩ := own_fstJ X103 hx hZ e103 F103 (j := (1 : Int32)) (y := (p5 ^^^ (-1 : Int64))) 1 (by decide) (by decide) (pc := 715) (Ls := #[.val (.long p1), .second, .val (.int p2), .val (.int p3), .val (.int p4), .val (.long p5), .second, .val (.int kk83), .val (.int sg84), .val (.int ax85), .val (.int un), .val (.long uq86), .second, .val (.long r087), .second, .val (.ref tb), .val (.int fm), .val (.int nv), s18, s19, s20, .val (.int okv), .val (.long ex), .second, .val (.ref b88), .unset, .unset]) (rest := [(.ref b100)]) (hb hby at_715)
        have N107 := Fr.snoc X107 N103 nb100
        have Z107 : n0 ≤ h107.size := by rw [W107.size]; exact Z103
        refine own_go st107 ?_
        have f108 := f104.other W107 (Nat.ne_of_lt lt_tb_b100)
        have f109 := f105.other W107 (Nat.ne_of_lt lt_b88_b100)
        show own_End p e below s _ _ _ (T107.setTop (mkF m 716 #[.val (.long p1), .second, .val (.int p2), .val (.int p3), .val (.int p4), .val (.long p5), .second, .val (.int kk83), .val (.int sg84), .val (.int ax85), .val (.int un), .val (.long uq86), .second, .val (.long r087), .second, .val (.ref tb), .val (.int fm), .val (.int nv), s18, s19, s20, .val (.int okv), .val (.long ex), .second, .val (.ref b88), .unset, .unset] [(.ref b100)]))
        refine own_go (fun t k => XS.dup X107.here hx rfl (hb hby at_716) rfl rfl k) ?_
        show own_End p e below s _ _ _ (T107.setTop (mkF m 717 #[.val (.long p1), .second, .val (.int p2), .val (.int p3), .val (.int p4), .val (.long p5), .second, .val (.int kk83), .val (.int sg84), .val (.int ax85), .val (.int un), .val (.long uq86), .second, .val (.long r087), .second, .val (.ref tb), .val (.int fm), .val (.int nv), s18, s19, s20, .val (.int okv), .val (.long ex), .second, .val (.ref b88), .unset, .unset] [(.ref b100), (.ref b100)]))
        refine own_go (fun t k => XS.iconst X107.here hx rfl (hb hby at_717) k) ?_
        show own_End p e below s _ _ _ (T107.setTop (mkF m 718 #[.val (.long p1), .second, .val (.int p2), .val (.int p3), .val (.int p4), .val (.long p5), .second, .val (.int kk83), .val (.int sg84), .val (.int ax85), .val (.int un), .val (.long uq86), .second, .val (.long r087), .second, .val (.ref tb), .val (.int fm), .val (.int nv), s18, s19, s20, .val (.int okv), .val (.long ex), .second, .val (.ref b88), .unset, .unset] [(.int (2 : Int32)), (.ref b100), (.ref b100)]))
        refine own_go (fun t k => XT.lload X107.here hx rfl (hb hby at_718) rfl k) ?_
        show own_End p e below s _ _ _ (T107.setTop (mkF m 720 #[.val (.long p1), .second, .val (.int p2), .val (.int p3), .val (.int p4), .val (.long p5), .second, .val (.int kk83), .val (.int sg84), .val (.int ax85), .val (.int un), .val (.long uq86), .second, .val (.long r087), .second, .val (.ref tb), .val (.int fm), .val (.int nv), s18, s19, s20, .val (.int okv), .val (.long ex), .second, .val (.ref b88), .unset, .unset] [(.long p5), (.int (2 : Int32)), (.ref b100), (.ref b100)]))
        refine own_go (X107.ldc2Long (own := "com/example/ordinate/ordinate/sql/NumbersParseIntegerPinLaw") (index := 70) (v := 7) hx hown (mvT hZ (hw _ (List.mem_of_getElem? (i := 31) rfl))) (g := (mkF m 720 #[.val (.long p1), .second, .val (.int p2), .val (.int p3), .val (.int p4), .val (.long p5), .second, .val (.int kk83), .val (.int sg84), .val (.int ax85), .val (.int un), .val (.long uq86), .second, .val (.long r087), .second, .val (.ref tb), .val (.int fm), .val (.int nv), s18, s19, s20, .val (.int okv), .val (.long ex), .second, .val (.ref b88), .unset, .unset] [(.long p5), (.int (2 : Int32)), (.ref b100), (.ref b100)])) rfl (hb hby at_720)) ?_
        show own_End p e below s _ _ _ (T107.setTop (mkF m 723 #[.val (.long p1), .second, .val (.int p2), .val (.int p3), .val (.int p4), .val (.long p5), .second, .val (.int kk83), .val (.int sg84), .val (.int ax85), .val (.int un), .val (.long uq86), .second, .val (.long r087), .second, .val (.ref tb), .val (.int fm), .val (.int nv), s18, s19, s20, .val (.int okv), .val (.long ex), .second, .val (.ref b88), .unset, .unset] [(.long (7 : Int64)), (.long p5), (.int (2 : Int32)), (.ref b100), (.ref b100)]))
        refine own_go (fun t k => XT.ladd X107.here hx rfl (hb hby at_723) rfl k) ?_
        show own_End p e below s _ _ _ (T107.setTop (mkF m 724 #[.val (.long p1), .second, .val (.int p2), .val (.int p3), .val (.int p4), .val (.long p5), .second, .val (.int kk83), .val (.int sg84), .val (.int ax85), .val (.int un), .val (.long uq86), .second, .val (.long r087), .second, .val (.ref tb), .val (.int fm), .val (.int nv), s18, s19, s20, .val (.int okv), .val (.long ex), .second, .val (.ref b88), .unset, .unset] [(.long (p5 + (7 : Int64))), (.int (2 : Int32)), (.ref b100), (.ref b100)]))
        obtain ⟨T111, h111, X111, e111, W111, F111, st111⟩ := own_fstJ X107 hx hZ e107 F107 (j := (2 : Int32)) (y := (p5 + (7 : Int64))) 2 (by decide) (by decide) (pc := 724) (Ls := #[.val (.long p1), .second, .val (.int p2), .val (.int p3), .val (.int p4), .val (.long p5), .second, .val (.int kk83), .val (.int sg84), .val (.int ax85), .val (.int un), .val (.long uq86), .second, .val (.long r087), .second, .val (.ref tb), .val (.int fm), .val (.int nv), s18, s19, s20, .val (.int okv), .val (.long ex), .second, .val (.ref b88), .unset, .unset]) (rest := [(.ref b100)]) (hb hby at_724)
        have N111 := Fr.snoc X111 N107 nb100
        have Z111 : n0 ≤ h111.size := by rw [W111.size]; exact Z107
        refine own_go st111 ?_
        have f112 := f108.other W111 (Nat.ne_of_lt lt_tb_b100)
        have f113 := f109.other W111 (Nat.ne_of_lt lt_b88_b100)
        show own_End p e below s _ _ _ (T111.setTop (mkF m 725 #[.val (.long p1), .second, .val (.int p2), .val (.int p3), .val (.int p4), .val (.long p5), .second, .val (.int kk83), .val (.int sg84), .val (.int ax85), .val (.int un), .val (.long uq86), .second, .val (.long r087), .second, .val (.ref tb), .val (.int fm), .val (.int nv), s18, s19, s20, .val (.int okv), .val (.long ex), .second, .val (.ref b88), .unset, .unset] [(.ref b100)]))
        have f115 := own_F.cong F111 (g := fun i => .long ((fun i => if i = 0 then p5 else if i = 1 then (p5 ^^^ (-1)) else (p5 + 7)) i)) (fun i hi => by match i, hi with | 0, _ => rfl | 1, _ => rfl | 2, _ => rfl)
        refine own_go (fun t k => XS.astore X111.here hx rfl (hb hby at_725) rfl rfl (l' := #[.val (.long p1), .second, .val (.int p2), .val (.int p3), .val (.int p4), .val (.long p5), .second, .val (.int kk83), .val (.int sg84), .val (.int ax85), .val (.int un), .val (.long uq86), .second, .val (.long r087), .second, .val (.ref tb), .val (.int fm), .val (.int nv), s18, s19, s20, .val (.int okv), .val (.long ex), .second, .val (.ref b88), .val (.ref b100), .unset]) rfl k) ?_
        show own_End p e below s _ _ _ (T111.setTop (mkF m 727 #[.val (.long p1), .second, .val (.int p2), .val (.int p3), .val (.int p4), .val (.long p5), .second, .val (.int kk83), .val (.int sg84), .val (.int ax85), .val (.int un), .val (.long uq86), .second, .val (.long r087), .second, .val (.ref tb), .val (.int fm), .val (.int nv), s18, s19, s20, .val (.int okv), .val (.long ex), .second, .val (.ref b88), .val (.ref b100), .unset] []))
        refine own_go (fun t k => XS.aload X111.here hx rfl (hb hby at_727) rfl rfl k) ?_
        show own_End p e below s _ _ _ (T111.setTop (mkF m 729 #[.val (.long p1), .second, .val (.int p2), .val (.int p3), .val (.int p4), .val (.long p5), .second, .val (.int kk83), .val (.int sg84), .val (.int ax85), .val (.int un), .val (.long uq86), .second, .val (.long r087), .second, .val (.ref tb), .val (.int fm), .val (.int nv), s18, s19, s20, .val (.int okv), .val (.long ex), .second, .val (.ref b88), .val (.ref b100), .unset] [(.ref tb)]))
        refine own_go (fun t k => XS.iload X111.here hx rfl (hb hby at_729) rfl k) ?_
        show own_End p e below s _ _ _ (T111.setTop (mkF m 731 #[.val (.long p1), .second, .val (.int p2), .val (.int p3), .val (.int p4), .val (.long p5), .second, .val (.int kk83), .val (.int sg84), .val (.int ax85), .val (.int un), .val (.long uq86), .second, .val (.long r087), .second, .val (.ref tb), .val (.int fm), .val (.int nv), s18, s19, s20, .val (.int okv), .val (.long ex), .second, .val (.ref b88), .val (.ref b100), .unset] [(.int fm), (.ref tb)]))
        refine own_go (fun t k => XS.bipush X111.here hx rfl (hb hby at_731) k) ?_
        show own_End p e below s _ _ _ (T111.setTop (mkF m 733 #[.val (.long p1), .second, .val (.int p2), .val (.int p3), .val (.int p4), .val (.long p5), .second, .val (.int kk83), .val (.int sg84), .val (.int ax85), .val (.int un), .val (.long uq86), .second, .val (.long r087), .second, .val (.ref tb), .val (.int fm), .val (.int nv), s18, s19, s20, .val (.int okv), .val (.long ex), .second, .val (.ref b88), .val (.ref b100), .unset] [(.int (22 : Int32)), (.int fm), (.ref tb)]))
        refine own_go (fun t k => XS.aload X111.here hx rfl (hb hby at_733) rfl rfl k) ?_
        show own_End p e below s _ _ _ (T111.setTop (mkF m 735 #[.val (.long p1), .second, .val (.int p2), .val (.int p3), .val (.int p4), .val (.long p5), .second, .val (.int kk83), .val (.int sg84), .val (.int ax85), .val (.int un), .val (.long uq86), .second, .val (.long r087), .second, .val (.ref tb), .val (.int fm), .val (.int nv), s18, s19, s20, .val (.int okv), .val (.long ex), .second, .val (.ref b88), .val (.ref b100), .unset] [(.ref b88), (.int (22 : Int32)), (.int fm), (.ref tb)]))
        refine own_go (fun t k => XS.iload X111.here hx rfl (hb hby at_735) rfl k) ?_
        show own_End p e below s _ _ _ (T111.setTop (mkF m 737 #[.val (.long p1), .second, .val (.int p2), .val (.int p3), .val (.int p4), .val (.long p5), .second, .val (.int kk83), .val (.int sg84), .val (.int ax85), .val (.int un), .val (.long uq86), .second, .val (.long r087), .second, .val (.ref tb), .val (.int fm), .val (.int nv), s18, s19, s20, .val (.int okv), .val (.long ex), .second, .val (.ref b88), .val (.ref b100), .unset] [(.int ax85), (.ref b88), (.int (22 : Int32)), (.int fm), (.ref tb)]))
        obtain ⟨v116, T116, L116, X116, hQ116, st116⟩ := own_callS X111 hx hZ (y := (⟨"com/example/ordinate/ordinate/sql/Numbers", "parseInteger", "([CII[JI)Z"⟩ : MethodName)) 0 hown (hw _ (List.mem_of_getElem? (i := 32) rfl)) (hw _ (List.mem_of_getElem? (i := 33) rfl)) (hw _ (List.mem_of_getElem? (i := 34) rfl)) (hw _ (List.mem_of_getElem? (i := 35) rfl)) (by decide) (rm3_1 l Z a0 hw [] tb fm b88 ax85 h111 n0 Z111 g fr hfm hf22 f112 _ f113 nb88 (Nat.ne_of_lt lt_tb_b88) an hax han) e111 (pc := 737) (Ls := #[.val (.long p1), .second, .val (.int p2), .val (.int p3), .val (.int p4), .val (.long p5), .second, .val (.int kk83), .val (.int sg84), .val (.int ax85), .val (.int un), .val (.long uq86), .second, .val (.long r087), .second, .val (.ref tb), .val (.int fm), .val (.int nv), s18, s19, s20, .val (.int okv), .val (.long ex), .second, .val (.ref b88), .val (.ref b100), .unset]) [(.ref tb), (.int fm), (.int (22 : Int32)), (.ref b88), (.int ax85)] [] (by rw [hml]; rfl) rfl rfl (lenOf pd_aCIIaJI_Z rfl) (Nat.le_of_eq rfl) (hb hby at_737) (by decide) (by decide) (by decide) (by decide)
        obtain ⟨h117, eh117⟩ : ∃ z, T116.heap = z := ⟨_, rfl⟩
        rw [eh117] at hQ116
        obtain ⟨Nc, hans⟩ := hQ116
        have N_c := Fr.app N111 Nc
        rcases hans with ⟨rfl, hno, hsame⟩ | ⟨rfl, hyes, Kc, yv, hyv, Fia⟩
        ·
          have hok0 : okv = 0 := by rcases hok with ⟨-, q, -⟩ | ⟨q, -⟩; exact absurd q hno; exact q
          subst hok0
          rw [hsame] at eh117
          refine own_go st116 ?_
          show own_End p e below s _ _ _ (T116.setTop (mkF m 740 #[.val (.long p1), .second, .val (.int p2), .val (.int p3), .val (.int p4), .val (.long p5), .second, .val (.int kk83), .val (.int sg84), .val (.int ax85), .val (.int un), .val (.long uq86), .second, .val (.long r087), .second, .val (.ref tb), .val (.int fm), .val (.int nv), s18, s19, s20, .val (.int (0 : Int32)), .val (.long ex), .second, .val (.ref b88), .val (.ref b100), .unset] [(.int (0 : Int32))]))
          refine own_go (fun t k => XS.istore X116.here hx rfl (hb hby at_740) rfl (l' := #[.val (.long p1), .second, .val (.int p2), .val (.int p3), .val (.int p4), .val (.long p5), .second, .val (.int kk83), .val (.int sg84), .val (.int ax85), .val (.int un), .val (.long uq86), .second, .val (.long r087), .second, .val (.ref tb), .val (.int fm), .val (.int nv), s18, s19, s20, .val (.int (0 : Int32)), .val (.long ex), .second, .val (.ref b88), .val (.ref b100), .val (.int (0 : Int32))]) rfl k) ?_
          show own_End p e below s _ _ _ (T116.setTop (mkF m 742 #[.val (.long p1), .second, .val (.int p2), .val (.int p3), .val (.int p4), .val (.long p5), .second, .val (.int kk83), .val (.int sg84), .val (.int ax85), .val (.int un), .val (.long uq86), .second, .val (.long r087), .second, .val (.ref tb), .val (.int fm), .val (.int nv), s18, s19, s20, .val (.int (0 : Int32)), .val (.long ex), .second, .val (.ref b88), .val (.ref b100), .val (.int (0 : Int32))] []))
          refine own_go (fun t k => XS.iload X116.here hx rfl (hb hby at_742) rfl k) ?_
          show own_End p e below s _ _ _ (T116.setTop (mkF m 744 #[.val (.long p1), .second, .val (.int p2), .val (.int p3), .val (.int p4), .val (.long p5), .second, .val (.int kk83), .val (.int sg84), .val (.int ax85), .val (.int un), .val (.long uq86), .second, .val (.long r087), .second, .val (.ref tb), .val (.int fm), .val (.int nv), s18, s19, s20, .val (.int (0 : Int32)), .val (.long ex), .second, .val (.ref b88), .val (.ref b100), .val (.int (0 : Int32))] [(.int (0 : Int32))]))
          refine own_go (fun t k => XS.ifYes X116.here hx rfl (pc0 := 744) (pc' := 754) rfl (hb hby at_744) rfl rfl (by decide) (by decide) k) ?_
          show own_End p e below s _ _ _ (T116.setTop (mkF m 754 #[.val (.long p1), .second, .val (.int p2), .val (.int p3), .val (.int p4), .val (.long p5), .second, .val (.int kk83), .val (.int sg84), .val (.int ax85), .val (.int un), .val (.long uq86), .second, .val (.long r087), .second, .val (.ref tb), .val (.int fm), .val (.int nv), s18, s19, s20, .val (.int (0 : Int32)), .val (.long ex), .second, .val (.ref b88), .val (.ref b100), .val (.int (0 : Int32))] []))
          refine own_go (fun t k => XS.iload X116.here hx rfl (hb hby at_754) rfl k) ?_
          show own_End p e below s _ _ _ (T116.setTop (mkF m 756 #[.val (.long p1), .second, .val (.int p2), .val (.int p3), .val (.int p4), .val (.long p5), .second, .val (.int kk83), .val (.int sg84), .val (.int ax85), .val (.int un), .val (.long uq86), .second, .val (.long r087), .second, .val (.ref tb), .val (.int fm), .val (.int nv), s18, s19, s20, .val (.int (0 : Int32)), .val (.long ex), .second, .val (.ref b88), .val (.ref b100), .val (.int (0 : Int32))] [(.int (0 : Int32))]))
          refine own_go (fun t k => XS.iload X116.here hx rfl (hb hby at_756) rfl k) ?_
          show own_End p e below s _ _ _ (T116.setTop (mkF m 758 #[.val (.long p1), .second, .val (.int p2), .val (.int p3), .val (.int p4), .val (.long p5), .second, .val (.int kk83), .val (.int sg84), .val (.int ax85), .val (.int un), .val (.long uq86), .second, .val (.long r087), .second, .val (.ref tb), .val (.int fm), .val (.int nv), s18, s19, s20, .val (.int (0 : Int32)), .val (.long ex), .second, .val (.ref b88), .val (.ref b100), .val (.int (0 : Int32))] [(.int (0 : Int32)), (.int (0 : Int32))]))
          refine own_go (fun t k => XS.icmpNo X116.here hx rfl (hb hby at_758) rfl rfl k) ?_
          show own_End p e below s _ _ _ (T116.setTop (mkF m 761 #[.val (.long p1), .second, .val (.int p2), .val (.int p3), .val (.int p4), .val (.long p5), .second, .val (.int kk83), .val (.int sg84), .val (.int ax85), .val (.int un), .val (.long uq86), .second, .val (.long r087), .second, .val (.ref tb), .val (.int fm), .val (.int nv), s18, s19, s20, .val (.int (0 : Int32)), .val (.long ex), .second, .val (.ref b88), .val (.ref b100), .val (.int (0 : Int32))] []))
          refine own_go (fun t k => XS.aload X116.here hx rfl (hb hby at_761) rfl rfl k) ?_
          show own_End p e below s _ _ _ (T116.setTop (mkF m 763 #[.val (.long p1), .second, .val (.int p2), .val (.int p3), .val (.int p4), .val (.long p5), .second, .val (.int kk83), .val (.int sg84), .val (.int ax85), .val (.int un), .val (.long uq86), .second, .val (.long r087), .second, .val (.ref tb), .val (.int fm), .val (.int nv), s18, s19, s20, .val (.int (0 : Int32)), .val (.long ex), .second, .val (.ref b88), .val (.ref b100), .val (.int (0 : Int32))] [(.ref b88)]))
          refine own_go (fun t k => XS.iconst X116.here hx rfl (hb hby at_763) k) ?_
          show own_End p e below s _ _ _ (T116.setTop (mkF m 764 #[.val (.long p1), .second, .val (.int p2), .val (.int p3), .val (.int p4), .val (.long p5), .second, .val (.int kk83), .val (.int sg84), .val (.int ax85), .val (.int un), .val (.long uq86), .second, .val (.long r087), .second, .val (.ref tb), .val (.int fm), .val (.int nv), s18, s19, s20, .val (.int (0 : Int32)), .val (.long ex), .second, .val (.ref b88), .val (.ref b100), .val (.int (0 : Int32))] [(.int (0 : Int32)), (.ref b88)]))
          refine own_go (own_fldJ X116 hx hZ eh117 f113 (j := (0 : Int32)) (v := (.long ((fun i => if i = 0 then p5 else if i = 1 then (p5 ^^^ (-1)) else (p5 + 7)) 0))) 0 (by decide) (by decide) rfl (pc := 764) (Ls := #[.val (.long p1), .second, .val (.int p2), .val (.int p3), .val (.int p4), .val (.long p5), .second, .val (.int kk83), .val (.int sg84), .val (.int ax85), .val (.int un), .val (.long uq86), .second, .val (.long r087), .second, .val (.ref tb), .val (.int fm), .val (.int nv), s18, s19, s20, .val (.int (0 : Int32)), .val (.long ex), .second, .val (.ref b88), .val (.ref b100), .val (.int (0 : Int32))]) (rest := []) (hb hby at_764)) ?_
          show own_End p e below s _ _ _ (T116.setTop (mkF m 765 #[.val (.long p1), .second, .val (.int p2), .val (.int p3), .val (.int p4), .val (.long p5), .second, .val (.int kk83), .val (.int sg84), .val (.int ax85), .val (.int un), .val (.long uq86), .second, .val (.long r087), .second, .val (.ref tb), .val (.int fm), .val (.int nv), s18, s19, s20, .val (.int (0 : Int32)), .val (.long ex), .second, .val (.ref b88), .val (.ref b100), .val (.int (0 : Int32))] [(.long ((fun i => if i = 0 then p5 else if i = 1 then (p5 ^^^ (-1)) else (p5 + 7)) 0))]))
          refine own_go (fun t k => XS.aload X116.here hx rfl (hb hby at_765) rfl rfl k) ?_
          show own_End p e below s _ _ _ (T116.setTop (mkF m 767 #[.val (.long p1), .second, .val (.int p2), .val (.int p3), .val (.int p4), .val (.long p5), .second, .val (.int kk83), .val (.int sg84), .val (.int ax85), .val (.int un), .val (.long uq86), .second, .val (.long r087), .second, .val (.ref tb), .val (.int fm), .val (.int nv), s18, s19, s20, .val (.int (0 : Int32)), .val (.long ex), .second, .val (.ref b88), .val (.ref b100), .val (.int (0 : Int32))] [(.ref b100), (.long ((fun i => if i = 0 then p5 else if i = 1 then (p5 ^^^ (-1)) else (p5 + 7)) 0))]))
          refine own_go (fun t k => XS.iconst X116.here hx rfl (hb hby at_767) k) ?_
          show own_End p e below s _ _ _ (T116.setTop (mkF m 768 #[.val (.long p1), .second, .val (.int p2), .val (.int p3), .val (.int p4), .val (.long p5), .second, .val (.int kk83), .val (.int sg84), .val (.int ax85), .val (.int un), .val (.long uq86), .second, .val (.long r087), .second, .val (.ref tb), .val (.int fm), .val (.int nv), s18, s19, s20, .val (.int (0 : Int32)), .val (.long ex), .second, .val (.ref b88), .val (.ref b100), .val (.int (0 : Int32))] [(.int (0 : Int32)), (.ref b100), (.long ((fun i => if i = 0 then p5 else if i = 1 then (p5 ^^^ (-1)) else (p5 + 7)) 0))]))
          refine own_go (own_fldJ X116 hx hZ eh117 f115 (j := (0 : Int32)) (v := (.long ((fun i => if i = 0 then p5 else if i = 1 then (p5 ^^^ (-1)) else (p5 + 7)) 0))) 0 (by decide) (by decide) rfl (pc := 768) (Ls := #[.val (.long p1), .second, .val (.int p2), .val (.int p3), .val (.int p4), .val (.long p5), .second, .val (.int kk83), .val (.int sg84), .val (.int ax85), .val (.int un), .val (.long uq86), .second, .val (.long r087), .second, .val (.ref tb), .val (.int fm), .val (.int nv), s18, s19, s20, .val (.int (0 : Int32)), .val (.long ex), .second, .val (.ref b88), .val (.ref b100), .val (.int (0 : Int32))]) (rest := [(.long ((fun i => if i = 0 then p5 else if i = 1 then (p5 ^^^ (-1)) else (p5 + 7)) 0))]) (hb hby at_768)) ?_
          show own_End p e below s _ _ _ (T116.setTop (mkF m 769 #[.val (.long p1), .second, .val (.int p2), .val (.int p3), .val (.int p4), .val (.long p5), .second, .val (.int kk83), .val (.int sg84), .val (.int ax85), .val (.int un), .val (.long uq86), .second, .val (.long r087), .second, .val (.ref tb), .val (.int fm), .val (.int nv), s18, s19, s20, .val (.int (0 : Int32)), .val (.long ex), .second, .val (.ref b88), .val (.ref b100), .val (.int (0 : Int32))] [(.long ((fun i => if i = 0 then p5 else if i = 1 then (p5 ^^^ (-1)) else (p5 + 7)) 0)), (.long ((fun i => if i = 0 then p5 else if i = 1 then (p5 ^^^ (-1)) else (p5 + 7)) 0))]))
          refine own_go (fun t k => XT.lcmp X116.here hx rfl (hb hby at_769) rfl k) ?_
          show own_End p e below s _ _ _ (T116.setTop (mkF m 770 #[.val (.long p1), .second, .val (.int p2), .val (.int p3), .val (.int p4), .val (.long p5), .second, .val (.int kk83), .val (.int sg84), .val (.int ax85), .val (.int un), .val (.long uq86), .second, .val (.long r087), .second, .val (.ref tb), .val (.int fm), .val (.int nv), s18, s19, s20, .val (.int (0 : Int32)), .val (.long ex), .second, .val (.ref b88), .val (.ref b100), .val (.int (0 : Int32))] [(.int (XT.cmpL ((fun i => if i = 0 then p5 else if i = 1 then (p5 ^^^ (-1)) else (p5 + 7)) 0) ((fun i => if i = 0 then p5 else if i = 1 then (p5 ^^^ (-1)) else (p5 + 7)) 0)))]))
          refine own_go (fun t k => XS.ifNo X116.here hx rfl (hb hby at_770) rfl (own_lneN rfl (fun z => z rfl)) k) ?_
          show own_End p e below s _ _ _ (T116.setTop (mkF m 773 #[.val (.long p1), .second, .val (.int p2), .val (.int p3), .val (.int p4), .val (.long p5), .second, .val (.int kk83), .val (.int sg84), .val (.int ax85), .val (.int un), .val (.long uq86), .second, .val (.long r087), .second, .val (.ref tb), .val (.int fm), .val (.int nv), s18, s19, s20, .val (.int (0 : Int32)), .val (.long ex), .second, .val (.ref b88), .val (.ref b100), .val (.int (0 : Int32))] []))
          refine own_go (fun t k => XS.aload X116.here hx rfl (hb hby at_773) rfl rfl k) ?_
          show own_End p e below s _ _ _ (T116.setTop (mkF m 775 #[.val (.long p1), .second, .val (.int p2), .val (.int p3), .val (.int p4), .val (.long p5), .second, .val (.int kk83), .val (.int sg84), .val (.int ax85), .val (.int un), .val (.long uq86), .second, .val (.long r087), .second, .val (.ref tb), .val (.int fm), .val (.int nv), s18, s19, s20, .val (.int (0 : Int32)), .val (.long ex), .second, .val (.ref b88), .val (.ref b100), .val (.int (0 : Int32))] [(.ref b88)]))
          refine own_go (fun t k => XS.iconst X116.here hx rfl (hb hby at_775) k) ?_
          show own_End p e below s _ _ _ (T116.setTop (mkF m 776 #[.val (.long p1), .second, .val (.int p2), .val (.int p3), .val (.int p4), .val (.long p5), .second, .val (.int kk83), .val (.int sg84), .val (.int ax85), .val (.int un), .val (.long uq86), .second, .val (.long r087), .second, .val (.ref tb), .val (.int fm), .val (.int nv), s18, s19, s20, .val (.int (0 : Int32)), .val (.long ex), .second, .val (.ref b88), .val (.ref b100), .val (.int (0 : Int32))] [(.int (1 : Int32)), (.ref b88)]))
          refine own_go (own_fldJ X116 hx hZ eh117 f113 (j := (1 : Int32)) (v := (.long ((fun i => if i = 0 then p5 else if i = 1 then (p5 ^^^ (-1)) else (p5 + 7)) 1))) 1 (by decide) (by decide) rfl (pc := 776) (Ls := #[.val (.long p1), .second, .val (.int p2), .val (.int p3), .val (.int p4), .val (.long p5), .second, .val (.int kk83), .val (.int sg84), .val (.int ax85), .val (.int un), .val (.long uq86), .second, .val (.long r087), .second, .val (.ref tb), .val (.int fm), .val (.int nv), s18, s19, s20, .val (.int (0 : Int32)), .val (.long ex), .second, .val (.ref b88), .val (.ref b100), .val (.int (0 : Int32))]) (rest := []) (hb hby at_776)) ?_
          show own_End p e below s _ _ _ (T116.setTop (mkF m 777 #[.val (.long p1), .second, .val (.int p2), .val (.int p3), .val (.int p4), .val (.long p5), .second, .val (.int kk83), .val (.int sg84), .val (.int ax85), .val (.int un), .val (.long uq86), .second, .val (.long r087), .second, .val (.ref tb), .val (.int fm), .val (.int nv), s18, s19, s20, .val (.int (0 : Int32)), .val (.long ex), .second, .val (.ref b88), .val (.ref b100), .val (.int (0 : Int32))] [(.long ((fun i => if i = 0 then p5 else if i = 1 then (p5 ^^^ (-1)) else (p5 + 7)) 1))]))
          refine own_go (fun t k => XS.aload X116.here hx rfl (hb hby at_777) rfl rfl k) ?_
          show own_End p e below s _ _ _ (T116.setTop (mkF m 779 #[.val (.long p1), .second, .val (.int p2), .val (.int p3), .val (.int p4), .val (.long p5), .second, .val (.int kk83), .val (.int sg84), .val (.int ax85), .val (.int un), .val (.long uq86), .second, .val (.long r087), .second, .val (.ref tb), .val (.int fm), .val (.int nv), s18, s19, s20, .val (.int (0 : Int32)), .val (.long ex), .second, .val (.ref b88), .val (.ref b100), .val (.int (0 : Int32))] [(.ref b100), (.long ((fun i => if i = 0 then p5 else if i = 1 then (p5 ^^^ (-1)) else (p5 + 7)) 1))]))
          refine own_go (fun t k => XS.iconst X116.here hx rfl (hb hby at_779) k) ?_
          show own_End p e below s _ _ _ (T116.setTop (mkF m 780 #[.val (.long p1), .second, .val (.int p2), .val (.int p3), .val (.int p4), .val (.long p5), .second, .val (.int kk83), .val (.int sg84), .val (.int ax85), .val (.int un), .val (.long uq86), .second, .val (.long r087), .second, .val (.ref tb), .val (.int fm), .val (.int nv), s18, s19, s20, .val (.int (0 : Int32)), .val (.long ex), .second, .val (.ref b88), .val (.ref b100), .val (.int (0 : Int32))] [(.int (1 : Int32)), (.ref b100), (.long ((fun i => if i = 0 then p5 else if i = 1 then (p5 ^^^ (-1)) else (p5 + 7)) 1))]))
          refine own_go (own_fldJ X116 hx hZ eh117 f115 (j := (1 : Int32)) (v := (.long ((fun i => if i = 0 then p5 else if i = 1 then (p5 ^^^ (-1)) else (p5 + 7)) 1))) 1 (by decide) (by decide) rfl (pc := 780) (Ls := #[.val (.long p1), .second, .val (.int p2), .val (.int p3), .val (.int p4), .val (.long p5), .second, .val (.int kk83), .val (.int sg84), .val (.int ax85), .val (.int un), .val (.long uq86), .second, .val (.long r087), .second, .val (.ref tb), .val (.int fm), .val (.int nv), s18, s19, s20, .val (.int (0 : Int32)), .val (.long ex), .second, .val (.ref b88), .val (.ref b100), .val (.int (0 : Int32))]) (rest := [(.long ((fun i => if i = 0 then p5 else if i = 1 then (p5 ^^^ (-1)) else (p5 + 7)) 1))]) (hb hby at_780)) ?_
          show own_End p e below s _ _ _ (T116.setTop (mkF m 781 #[.val (.long p1), .second, .val (.int p2), .val (.int p3), .val (.int p4), .val (.long p5), .second, .val (.int kk83), .val (.int sg84), .val (.int ax85), .val (.int un), .val (.long uq86), .second, .val (.long r087), .second, .val (.ref tb), .val (.int fm), .val (.int nv), s18, s19, s20, .val (.int (0 : Int32)), .val (.long ex), .second, .val (.ref b88), .val (.ref b100), .val (.int (0 : Int32))] [(.long ((fun i => if i = 0 then p5 else if i = 1 then (p5 ^^^ (-1)) else (p5 + 7)) 1)), (.long ((fun i => if i = 0 then p5 else if i = 1 then (p5 ^^^ (-1)) else (p5 + 7)) 1))]))
          refine own_go (fun t k => XT.lcmp X116.here hx rfl (hb hby at_781) rfl k) ?_
          show own_End p e below s _ _ _ (T116.setTop (mkF m 782 #[.val (.long p1), .second, .val (.int p2), .val (.int p3), .val (.int p4), .val (.long p5), .second, .val (.int kk83), .val (.int sg84), .val (.int ax85), .val (.int un), .val (.long uq86), .second, .val (.long r087), .second, .val (.ref tb), .val (.int fm), .val (.int nv), s18, s19, s20, .val (.int (0 : Int32)), .val (.long ex), .second, .val (.ref b88), .val (.ref b100), .val (.int (0 : Int32))] [(.int (XT.cmpL ((fun i => if i = 0 then p5 else if i = 1 then (p5 ^^^ (-1)) else (p5 + 7)) 1) ((fun i => if i = 0 then p5 else if i = 1 then (p5 ^^^ (-1)) else (p5 + 7)) 1)))]))
          refine own_go (fun t k => XS.ifNo X116.here hx rfl (hb hby at_782) rfl (own_lneN rfl (fun z => z rfl)) k) ?_
          show own_End p e below s _ _ _ (T116.setTop (mkF m 785 #[.val (.long p1), .second, .val (.int p2), .val (.int p3), .val (.int p4), .val (.long p5), .second, .val (.int kk83), .val (.int sg84), .val (.int ax85), .val (.int un), .val (.long uq86), .second, .val (.long r087), .second, .val (.ref tb), .val (.int fm), .val (.int nv), s18, s19, s20, .val (.int (0 : Int32)), .val (.long ex), .second, .val (.ref b88), .val (.ref b100), .val (.int (0 : Int32))] []))
          refine own_go (fun t k => XS.aload X116.here hx rfl (hb hby at_785) rfl rfl k) ?_
          show own_End p e below s _ _ _ (T116.setTop (mkF m 787 #[.val (.long p1), .second, .val (.int p2), .val (.int p3), .val (.int p4), .val (.long p5), .second, .val (.int kk83), .val (.int sg84), .val (.int ax85), .val (.int un), .val (.long uq86), .second, .val (.long r087), .second, .val (.ref tb), .val (.int fm), .val (.int nv), s18, s19, s20, .val (.int (0 : Int32)), .val (.long ex), .second, .val (.ref b88), .val (.ref b100), .val (.int (0 : Int32))] [(.ref b88)]))
          refine own_go (fun t k => XS.iconst X116.here hx rfl (hb hby at_787) k) ?_
          show own_End p e below s _ _ _ (T116.setTop (mkF m 788 #[.val (.long p1), .second, .val (.int p2), .val (.int p3), .val (.int p4), .val (.long p5), .second, .val (.int kk83), .val (.int sg84), .val (.int ax85), .val (.int un), .val (.long uq86), .second, .val (.long r087), .second, .val (.ref tb), .val (.int fm), .val (.int nv), s18, s19, s20, .val (.int (0 : Int32)), .val (.long ex), .second, .val (.ref b88), .val (.ref b100), .val (.int (0 : Int32))] [(.int (2 : Int32)), (.ref b88)]))
          refine own_go (own_fldJ X116 hx hZ eh117 f113 (j := (2 : Int32)) (v := (.long ((fun i => if i = 0 then p5 else if i = 1 then (p5 ^^^ (-1)) else (p5 + 7)) 2))) 2 (by decide) (by decide) rfl (pc := 788) (Ls := #[.val (.long p1), .second, .val (.int p2), .val (.int p3), .val (.int p4), .val (.long p5), .second, .val (.int kk83), .val (.int sg84), .val (.int ax85), .val (.int un), .val (.long uq86), .second, .val (.long r087), .second, .val (.ref tb), .val (.int fm), .val (.int nv), s18, s19, s20, .val (.int (0 : Int32)), .val (.long ex), .second, .val (.ref b88), .val (.ref b100), .val (.int (0 : Int32))]) (rest := []) (hb hby at_788)) ?_
          show own_End p e below s _ _ _ (T116.setTop (mkF m 789 #[.val (.long p1), .second, .val (.int p2), .val (.int p3), .val (.int p4), .val (.long p5), .second, .val (.int kk83), .val (.int sg84), .val (.int ax85), .val (.int un), .val (.long uq86), .second, .val (.long r087), .second, .val (.ref tb), .val (.int fm), .val (.int nv), s18, s19, s20, .val (.int (0 : Int32)), .val (.long ex), .second, .val (.ref b88), .val (.ref b100), .val (.int (0 : Int32))] [(.long ((fun i => if i = 0 then p5 else if i = 1 then (p5 ^^^ (-1)) else (p5 + 7)) 2))]))
          refine own_go (fun t k => XS.aload X116.here hx rfl (hb hby at_789) rfl rfl k) ?_
          show own_End p e below s _ _ _ (T116.setTop (mkF m 791 #[.val (.long p1), .second, .val (.int p2), .val (.int p3), .val (.int p4), .val (.long p5), .second, .val (.int kk83), .val (.int sg84), .val (.int ax85), .val (.int un), .val (.long uq86), .second, .val (.long r087), .second, .val (.ref tb), .val (.int fm), .val (.int nv), s18, s19, s20, .val (.int (0 : Int32)), .val (.long ex), .second, .val (.ref b88), .val (.ref b100), .val (.int (0 : Int32))] [(.ref b100), (.long ((fun i => if i = 0 then p5 else if i = 1 then (p5 ^^^ (-1)) else (p5 + 7)) 2))]))
          refine own_go (fun t k => XS.iconst X116.here hx rfl (hb hby at_791) k) ?_
          show own_End p e below s _ _ _ (T116.setTop (mkF m 792 #[.val (.long p1), .second, .val (.int p2), .val (.int p3), .val (.int p4), .val (.long p5), .second, .val (.int kk83), .val (.int sg84), .val (.int ax85), .val (.int un), .val (.long uq86), .second, .val (.long r087), .second, .val (.ref tb), .val (.int fm), .val (.int nv), s18, s19, s20, .val (.int (0 : Int32)), .val (.long ex), .second, .val (.ref b88), .val (.ref b100), .val (.int (0 : Int32))] [(.int (2 : Int32)), (.ref b100), (.long ((fun i => if i = 0 then p5 else if i = 1 then (p5 ^^^ (-1)) else (p5 + 7)) 2))]))
          refine own_go (own_fldJ X116 hx hZ eh117 f115 (j := (2 : Int32)) (v := (.long ((fun i => if i = 0 then p5 else if i = 1 then (p5 ^^^ (-1)) else (p5 + 7)) 2))) 2 (by decide) (by decide) rfl (pc := 792) (Ls := #[.val (.long p1), .second, .val (.int p2), .val (.int p3), .val (.int p4), .val (.long p5), .second, .val (.int kk83), .val (.int sg84), .val (.int ax85), .val (.int un), .val (.long uq86), .second, .val (.long r087), .second, .val (.ref tb), .val (.int fm), .val (.int nv), s18, s19, s20, .val (.int (0 : Int32)), .val (.long ex), .second, .val (.ref b88), .val (.ref b100), .val (.int (0 : Int32))]) (rest := [(.long ((fun i => if i = 0 then p5 else if i = 1 then (p5 ^^^ (-1)) else (p5 + 7)) 2))]) (hb hby at_792)) ?_
          show own_End p e below s _ _ _ (T116.setTop (mkF m 793 #[.val (.long p1), .second, .val (.int p2), .val (.int p3), .val (.int p4), .val (.long p5), .second, .val (.int kk83), .val (.int sg84), .val (.int ax85), .val (.int un), .val (.long uq86), .second, .val (.long r087), .second, .val (.ref tb), .val (.int fm), .val (.int nv), s18, s19, s20, .val (.int (0 : Int32)), .val (.long ex), .second, .val (.ref b88), .val (.ref b100), .val (.int (0 : Int32))] [(.long ((fun i => if i = 0 then p5 else if i = 1 then (p5 ^^^ (-1)) else (p5 + 7)) 2)), (.long ((fun i => if i = 0 then p5 else if i = 1 then (p5 ^^^ (-1)) else (p5 + 7)) 2))]))
          refine own_go (fun t k => XT.lcmp X116.here hx rfl (hb hby at_793) rfl k) ?_
          show own_End p e below s _ _ _ (T116.setTop (mkF m 794 #[.val (.long p1), .second, .val (.int p2), .val (.int p3), .val (.int p4), .val (.long p5), .second, .val (.int kk83), .val (.int sg84), .val (.int ax85), .val (.int un), .val (.long uq86), .second, .val (.long r087), .second, .val (.ref tb), .val (.int fm), .val (.int nv), s18, s19, s20, .val (.int (0 : Int32)), .val (.long ex), .second, .val (.ref b88), .val (.ref b100), .val (.int (0 : Int32))] [(.int (XT.cmpL ((fun i => if i = 0 then p5 else if i = 1 then (p5 ^^^ (-1)) else (p5 + 7)) 2) ((fun i => if i = 0 then p5 else if i = 1 then (p5 ^^^ (-1)) else (p5 + 7)) 2)))]))
          refine own_go (fun t k => XS.ifNo X116.here hx rfl (hb hby at_794) rfl (own_lneN rfl (fun z => z rfl)) k) ?_
          show own_End p e below s _ _ _ (T116.setTop (mkF m 797 #[.val (.long p1), .second, .val (.int p2), .val (.int p3), .val (.int p4), .val (.long p5), .second, .val (.int kk83), .val (.int sg84), .val (.int ax85), .val (.int un), .val (.long uq86), .second, .val (.long r087), .second, .val (.ref tb), .val (.int fm), .val (.int nv), s18, s19, s20, .val (.int (0 : Int32)), .val (.long ex), .second, .val (.ref b88), .val (.ref b100), .val (.int (0 : Int32))] []))
          refine own_go (fun t k => XS.iconst X116.here hx rfl (hb hby at_797) k) ?_
          show own_End p e below s _ _ _ (T116.setTop (mkF m 798 #[.val (.long p1), .second, .val (.int p2), .val (.int p3), .val (.int p4), .val (.long p5), .second, .val (.int kk83), .val (.int sg84), .val (.int ax85), .val (.int un), .val (.long uq86), .second, .val (.long r087), .second, .val (.ref tb), .val (.int fm), .val (.int nv), s18, s19, s20, .val (.int (0 : Int32)), .val (.long ex), .second, .val (.ref b88), .val (.ref b100), .val (.int (0 : Int32))] [(.int (1 : Int32))]))
          refine own_go (fun t k => XS.goto X116.here hx rfl (pc0 := 798) (pc' := 802) rfl (hb hby at_798) (by decide) (by decide) k) ?_
          show own_End p e below s _ _ _ (T116.setTop (mkF m 802 #[.val (.long p1), .second, .val (.int p2), .val (.int p3), .val (.int p4), .val (.long p5), .second, .val (.int kk83), .val (.int sg84), .val (.int ax85), .val (.int un), .val (.long uq86), .second, .val (.long r087), .second, .val (.ref tb), .val (.int fm), .val (.int nv), s18, s19, s20, .val (.int (0 : Int32)), .val (.long ex), .second, .val (.ref b88), .val (.ref b100), .val (.int (0 : Int32))] [(.int (1 : Int32))]))
          exact own_retN X116 hx (t := .boolean) hret hlk (by simp) (hb hby at_802) ⟨rfl, N_c⟩ (by decide) (by decide)
        ·
          obtain ⟨hok1, hex⟩ : okv = 1 ∧ ex.toInt = own_res g fr := by rcases hok with ⟨q1, -, q2⟩ | ⟨-, q⟩; exact ⟨q1, q2⟩; exact absurd hyes q
          subst hok1
          have hye : yv = ex := Int64.toInt_inj.mp (by rw [hyv, hex])
          subst hye
          have Z118 : n0 ≤ h117.size := Nat.le_trans Z111 Kc.1
          have f119 := f112.keep Kc (ninS (Nat.ne_of_lt lt_tb_b88) nin0)
          have f120 := f115.keep Kc (ninS (Nat.ne_of_gt lt_b88_b100) nin0)
          refine own_go st116 ?_
          show own_End p e below s _ _ _ (T116.setTop (mkF m 740 #[.val (.long p1), .second, .val (.int p2), .val (.int p3), .val (.int p4), .val (.long p5), .second, .val (.int kk83), .val (.int sg84), .val (.int ax85), .val (.int un), .val (.long uq86), .second, .val (.long r087), .second, .val (.ref tb), .val (.int fm), .val (.int nv), s18, s19, s20, .val (.int (1 : Int32)), .val (.long yv), .second, .val (.ref b88), .val (.ref b100), .unset] [(.int (1 : Int32))]))
          refine own_go (fun t k => XS.istore X116.here hx rfl (hb hby at_740) rfl (l' := #[.val (.long p1), .second, .val (.int p2), .val (.int p3), .val (.int p4), .val (.long p5), .second, .val (.int kk83), .val (.int sg84), .val (.int ax85), .val (.int un), .val (.long uq86), .second, .val (.long r087), .second, .val (.ref tb), .val (.int fm), .val (.int nv), s18, s19, s20, .val (.int (1 : Int32)), .val (.long yv), .second, .val (.ref b88), .val (.ref b100), .val (.int (1 : Int32))]) rfl k) ?_
          show own_End p e below s _ _ _ (T116.setTop (mkF m 742 #[.val (.long p1), .second, .val (.int p2), .val (.int p3), .val (.int p4), .val (.long p5), .second, .val (.int kk83), .val (.int sg84), .val (.int ax85), .val (.int un), .val (.long uq86), .second, .val (.long r087), .second, .val (.ref tb), .val (.int fm), .val (.int nv), s18, s19, s20, .val (.int (1 : Int32)), .val (.long yv), .second, .val (.ref b88), .val (.ref b100), .val (.int (1 : Int32))] []))
          refine own_go (fun t k => XS.iload X116.here hx rfl (hb hby at_742) rfl k) ?_
          show own_End p e below s _ _ _ (T116.setTop (mkF m 744 #[.val (.long p1), .second, .val (.int p2), .val (.int p3), .val (.int p4), .val (.long p5), .second, .val (.int kk83), .val (.int sg84), .val (.int ax85), .val (.int un), .val (.long uq86), .second, .val (.long r087), .second, .val (.ref tb), .val (.int fm), .val (.int nv), s18, s19, s20, .val (.int (1 : Int32)), .val (.long yv), .second, .val (.ref b88), .val (.ref b100), .val (.int (1 : Int32))] [(.int (1 : Int32))]))
          refine own_go (fun t k => XS.ifNo X116.here hx rfl (hb hby at_744) rfl rfl k) ?_
          show own_End p e below s _ _ _ (T116.setTop (mkF m 747 #[.val (.long p1), .second, .val (.int p2), .val (.int p3), .val (.int p4), .val (.long p5), .second, .val (.int kk83), .val (.int sg84), .val (.int ax85), .val (.int un), .val (.long uq86), .second, .val (.long r087), .second, .val (.ref tb), .val (.int fm), .val (.int nv), s18, s19, s20, .val (.int (1 : Int32)), .val (.long yv), .second, .val (.ref b88), .val (.ref b100), .val (.int (1 : Int32))] []))
          refine own_go (fun t k => XS.aload X116.here hx rfl (hb hby at_747) rfl rfl k) ?_
          show own_End p e below s _ _ _ (T116.setTop (mkF m 749 #[.val (.long p1), .second, .val (.int p2), .val (.int p3), .val (.int p4), .val (.long p5), .second, .val (.int kk83), .val (.int sg84), .val (.int ax85), .val (.int un), .val (.long uq86), .second, .val (.long r087), .second, .val (.ref tb), .val (.int fm), .val (.int nv), s18, s19, s20, .val (.int (1 : Int32)), .val (.long yv), .second, .val (.ref b88), .val (.ref b100), .val (.int (1 : Int32))] [(.ref b100)]))
          refine own_go (fun t k => XS.iload X116.here hx rfl (hb hby at_749) rfl k) ?_
          show own_End p e below s _ _ _ (T116.setTop (mkF m 751 #[.val (.long p1), .second, .val (.int p2), .val (.int p3), .val (.int p4), .val (.long p5), .second, .val (.int kk83), .val (.int sg84), .val (.int ax85), .val (.int un), .val (.long uq86), .second, .val (.long r087), .second, .val (.ref tb), .val (.int fm), .val (.int nv), s18, s19, s20, .val (.int (1 : Int32)), .val (.long yv), .second, .val (.ref b88), .val (.ref b100), .val (.int (1 : Int32))] [(.int ax85), (.ref b100)]))
          refine own_go (fun t k => XT.lload X116.here hx rfl (hb hby at_751) rfl k) ?_
          show own_End p e below s _ _ _ (T116.setTop (mkF m 753 #[.val (.long p1), .second, .val (.int p2), .val (.int p3), .val (.int p4), .val (.long p5), .second, .val (.int kk83), .val (.int sg84), .val (.int ax85), .val (.int un), .val (.long uq86), .second, .val (.long r087), .second, .val (.ref tb), .val (.int fm), .val (.int nv), s18, s19, s20, .val (.int (1 : Int32)), .val (.long yv), .second, .val (.ref b88), .val (.ref b100), .val (.int (1 : Int32))] [(.long yv), (.int ax85), (.ref b100)]))
          obtain ⟨T121, h121, X121, e121, W121, F121, st121⟩ := own_fstJ X116 hx hZ eh117 f120 (j := ax85) (y := yv) an hax han (pc := 753) (Ls := #[.val (.long p1), .second, .val (.int p2), .val (.int p3), .val (.int p4), .val (.long p5), .second, .val (.int kk83), .val (.int sg84), .val (.int ax85), .val (.int un), .val (.long uq86), .second, .val (.long r087), .second, .val (.ref tb), .val (.int fm), .val (.int nv), s18, s19, s20, .val (.int (1 : Int32)), .val (.long yv), .second, .val (.ref b88), .val (.ref b100), .val (.int (1 : Int32))]) (rest := []) (hb hby at_753)
          have N121 := Fr.snoc X121 N_c nb100
          have Z121 : n0 ≤ h121.size := by rw [W121.size]; exact Z118
          refine own_go st121 ?_
          have f122 := f119.other W121 (Nat.ne_of_lt lt_tb_b100)
          have f124 := Fia.other W121 (Nat.ne_of_lt lt_b88_b100)
          show own_End p e below s _ _ _ (T121.setTop (mkF m 754 #[.val (.long p1), .second, .val (.int p2), .val (.int p3), .val (.int p4), .val (.long p5), .second, .val (.int kk83), .val (.int sg84), .val (.int ax85), .val (.int un), .val (.long uq86), .second, .val (.long r087), .second, .val (.ref tb), .val (.int fm), .val (.int nv), s18, s19, s20, .val (.int (1 : Int32)), .val (.long yv), .second, .val (.ref b88), .val (.ref b100), .val (.int (1 : Int32))] []))
          have f125 := own_F.cong f124 (g := fun i => .long ((fun i => if i = an then yv else (fun i => if i = 0 then p5 else if i = 1 then (p5 ^^^ (-1)) else (p5 + 7)) i) i)) (fun i hi => own_up_l (f := (fun i => if i = 0 then p5 else if i = 1 then (p5 ^^^ (-1)) else (p5 + 7))))
          have f126 := own_F.cong F121 (g := fun i => .long ((fun i => if i = an then yv else (fun i => if i = 0 then p5 else if i = 1 then (p5 ^^^ (-1)) else (p5 + 7)) i) i)) (fun i hi => own_up_l (f := (fun i => if i = 0 then p5 else if i = 1 then (p5 ^^^ (-1)) else (p5 + 7))))
          refine own_go (fun t k => XS.iload X121.here hx rfl (hb hby at_754) rfl k) ?_
          show own_End p e below s _ _ _ (T121.setTop (mkF m 756 #[.val (.long p1), .second, .val (.int p2), .val (.int p3), .val (.int p4), .val (.long p5), .second, .val (.int kk83), .val (.int sg84), .val (.int ax85), .val (.int un), .val (.long uq86), .second, .val (.long r087), .second, .val (.ref tb), .val (.int fm), .val (.int nv), s18, s19, s20, .val (.int (1 : Int32)), .val (.long yv), .second, .val (.ref b88), .val (.ref b100), .val (.int (1 : Int32))] [(.int (1 : Int32))]))
          refine own_go (fun t k => XS.iload X121.here hx rfl (hb hby at_756) rfl k) ?_
          show own_End p e below s _ _ _ (T121.setTop (mkF m 758 #[.val (.long p1), .second, .val (.int p2), .val (.int p3), .val (.int p4), .val (.long p5), .second, .val (.int kk83), .val (.int sg84), .val (.int ax85), .val (.int un), .val (.long uq86), .second, .val (.long r087), .second, .val (.ref tb), .val (.int fm), .val (.int nv), s18, s19, s20, .val (.int (1 : Int32)), .val (.long yv), .second, .val (.ref b88), .val (.ref b100), .val (.int (1 : Int32))] [(.int (1 : Int32)), (.int (1 : Int32))]))
          refine own_go (fun t k => XS.icmpNo X121.here hx rfl (hb hby at_758) rfl rfl k) ?_
          show own_End p e below s _ _ _ (T121.setTop (mkF m 761 #[.val (.long p1), .second, .val (.int p2), .val (.int p3), .val (.int p4), .val (.long p5), .second, .val (.int kk83), .val (.int sg84), .val (.int ax85), .val (.int un), .val (.long uq86), .second, .val (.long r087), .second, .val (.ref tb), .val (.int fm), .val (.int nv), s18, s19, s20, .val (.int (1 : Int32)), .val (.long yv), .second, .val (.ref b88), .val (.ref b100), .val (.int (1 : Int32))] []))
          refine own_go (fun t k => XS.aload X121.here hx rfl (hb hby at_761) rfl rfl k) ?_
          show own_End p e below s _ _ _ (T121.setTop (mkF m 763 #[.val (.long p1), .second, .val (.int p2), .val (.int p3), .val (.int p4), .val (.long p5), .second, .val (.int kk83), .val (.int sg84), .val (.int ax85), .val (.int un), .val (.long uq86), .second, .val (.long r087), .second, .val (.ref tb), .val (.int fm), .val (.int nv), s18, s19, s20, .val (.int (1 : Int32)), .val (.long yv), .second, .val (.ref b88), .val (.ref b100), .val (.int (1 : Int32))] [(.ref b88)]))
          refine own_go (fun t k => XS.iconst X121.here hx rfl (hb hby at_763) k) ?_
          show own_End p e below s _ _ _ (T121.setTop (mkF m 764 #[.val (.long p1), .second, .val (.int p2), .val (.int p3), .val (.int p4), .val (.long p5), .second, .val (.int kk83), .val (.int sg84), .val (.int ax85), .val (.int un), .val (.long uq86), .second, .val (.long r087), .second, .val (.ref tb), .val (.int fm), .val (.int nv), s18, s19, s20, .val (.int (1 : Int32)), .val (.long yv), .second, .val (.ref b88), .val (.ref b100), .val (.int (1 : Int32))] [(.int (0 : Int32)), (.ref b88)]))
          refine own_go (own_fldJ X121 hx hZ e121 f125 (j := (0 : Int32)) (v := (.long ((fun i => if i = an then yv else (fun i => if i = 0 then p5 else if i = 1 then (p5 ^^^ (-1)) else (p5 + 7)) i) 0))) 0 (by decide) (by decide) rfl (pc := 764) (Ls := #[.val (.long p1), .second, .val (.int p2), .val (.int p3), .val (.int p4), .val (.long p5), .second, .val (.int kk83), .val (.int sg84), .val (.int ax85), .val (.int un), .val (.long uq86), .second, .val (.long r087), .second, .val (.ref tb), .val (.int fm), .val (.int nv), s18, s19, s20, .val (.int (1 : Int32)), .val (.long yv), .second, .val (.ref b88), .val (.ref b100), .val (.int (1 : Int32))]) (rest := []) (hb hby at_764)) ?_
          show own_End p e below s _ _ _ (T121.setTop (mkF m 765 #[.val (.long p1), .second, .val (.int p2), .val (.int p3), .val (.int p4), .val (.long p5), .second, .val (.int kk83), .val (.int sg84), .val (.int ax85), .val (.int un), .val (.long uq86), .second, .val (.long r087), .second, .val (.ref tb), .val (.int fm), .val (.int nv), s18, s19, s20, .val (.int (1 : Int32)), .val (.long yv), .second, .val (.ref b88), .val (.ref b100), .val (.int (1 : Int32))] [(.long ((fun i => if i = an then yv else (fun i => if i = 0 then p5 else if i = 1 then (p5 ^^^ (-1)) else (p5 + 7)) i) 0))]))
          refine own_go (fun t k => XS.aload X121.here hx rfl (hb hby at_765) rfl rfl k) ?_
          show own_End p e below s _ _ _ (T121.setTop (mkF m 767 #[.val (.long p1), .second, .val (.int p2), .val (.int p3), .val (.int p4), .val (.long p5), .second, .val (.int kk83), .val (.int sg84), .val (.int ax85), .val (.int un), .val (.long uq86), .second, .val (.long r087), .second, .val (.ref tb), .val (.int fm), .val (.int nv), s18, s19, s20, .val (.int (1 : Int32)), .val (.long yv), .second, .val (.ref b88), .val (.ref b100), .val (.int (1 : Int32))] [(.ref b100), (.long ((fun i => if i = an then yv else (fun i => if i = 0 then p5 else if i = 1 then (p5 ^^^ (-1)) else (p5 + 7)) i) 0))]))
          refine own_go (fun t k => XS.iconst X121.here hx rfl (hb hby at_767) k) ?_
          show own_End p e below s _ _ _ (T121.setTop (mkF m 768 #[.val (.long p1), .second, .val (.int p2), .val (.int p3), .val (.int p4), .val (.long p5), .second, .val (.int kk83), .val (.int sg84), .val (.int ax85), .val (.int un), .val (.long uq86), .second, .val (.long r087), .second, .val (.ref tb), .val (.int fm), .val (.int nv), s18, s19, s20, .val (.int (1 : Int32)), .val (.long yv), .second, .val (.ref b88), .val (.ref b100), .val (.int (1 : Int32))] [(.int (0 : Int32)), (.ref b100), (.long ((fun i => if i = an then yv else (fun i => if i = 0 then p5 else if i = 1 then (p5 ^^^ (-1)) else (p5 + 7)) i) 0))]))
          refine own_go (own_fldJ X121 hx hZ e121 f126 (j := (0 : Int32)) (v := (.long ((fun i => if i = an then yv else (fun i => if i = 0 then p5 else if i = 1 then (p5 ^^^ (-1)) else (p5 + 7)) i) 0))) 0 (by decide) (by decide) rfl (pc := 768) (Ls := #[.val (.long p1), .second, .val (.int p2), .val (.int p3), .val (.int p4), .val (.long p5), .second, .val (.int kk83), .val (.int sg84), .val (.int ax85), .val (.int un), .val (.long uq86), .second, .val (.long r087), .second, .val (.ref tb), .val (.int fm), .val (.int nv), s18, s19, s20, .val (.int (1 : Int32)), .val (.long yv), .second, .val (.ref b88), .val (.ref b100), .val (.int (1 : Int32))]) (rest := [(.long ((fun i => if i = an then yv else (fun i => if i = 0 then p5 else if i = 1 then (p5 ^^^ (-1)) else (p5 + 7)) i) 0))]) (hb hby at_768)) ?_
          show own_End p e below s _ _ _ (T121.setTop (mkF m 769 #[.val (.long p1), .second, .val (.int p2), .val (.int p3), .val (.int p4), .val (.long p5), .second, .val (.int kk83), .val (.int sg84), .val (.int ax85), .val (.int un), .val (.long uq86), .second, .val (.long r087), .second, .val (.ref tb), .val (.int fm), .val (.int nv), s18, s19, s20, .val (.int (1 : Int32)), .val (.long yv), .second, .val (.ref b88), .val (.ref b100), .val (.int (1 : Int32))] [(.long ((fun i => if i = an then yv else (fun i => if i = 0 then p5 else if i = 1 then (p5 ^^^ (-1)) else (p5 + 7)) i) 0)), (.long ((fun i => if i = an then yv else (fun i => if i = 0 then p5 else if i = 1 then (p5 ^^^ (-1)) else (p5 + 7)) i) 0))]))
          refine own_go (fun t k => XT.lcmp X121.here hx rfl (hb hby at_769) rfl k) ?_
          show own_End p e below s _ _ _ (T121.setTop (mkF m 770 #[.val (.long p1), .second, .val (.int p2), .val (.int p3), .val (.int p4), .val (.long p5), .second, .val (.int kk83), .val (.int sg84), .val (.int ax85), .val (.int un), .val (.long uq86), .second, .val (.long r087), .second, .val (.ref tb), .val (.int fm), .val (.int nv), s18, s19, s20, .val (.int (1 : Int32)), .val (.long yv), .second, .val (.ref b88), .val (.ref b100), .val (.int (1 : Int32))] [(.int (XT.cmpL ((fun i => if i = an then yv else (fun i => if i = 0 then p5 else if i = 1 then (p5 ^^^ (-1)) else (p5 + 7)) i) 0) ((fun i => if i = an then yv else (fun i => if i = 0 then p5 else if i = 1 then (p5 ^^^ (-1)) else (p5 + 7)) i) 0)))]))
          refine own_go (fun t k => XS.ifNo X121.here hx rfl (hb hby at_770) rfl (own_lneN rfl (fun z => z rfl)) k) ?_
          show own_End p e below s _ _ _ (T121.setTop (mkF m 773 #[.val (.long p1), .second, .val (.int p2), .val (.int p3), .val (.int p4), .val (.long p5), .second, .val (.int kk83), .val (.int sg84), .val (.int ax85), .val (.int un), .val (.long uq86), .second, .val (.long r087), .second, .val (.ref tb), .val (.int fm), .val (.int nv), s18, s19, s20, .val (.int (1 : Int32)), .val (.long yv), .second, .val (.ref b88), .val (.ref b100), .val (.int (1 : Int32))] []))
          refine own_go (fun t k => XS.aload X121.here hx rfl (hb hby at_773) rfl rfl k) ?_
          show own_End p e below s _ _ _ (T121.setTop (mkF m 775 #[.val (.long p1), .second, .val (.int p2), .val (.int p3), .val (.int p4), .val (.long p5), .second, .val (.int kk83), .val (.int sg84), .val (.int ax85), .val (.int un), .val (.long uq86), .second, .val (.long r087), .second, .val (.ref tb), .val (.int fm), .val (.int nv), s18, s19, s20, .val (.int (1 : Int32)), .val (.long yv), .second, .val (.ref b88), .val (.ref b100), .val (.int (1 : Int32))] [(.ref b88)]))
          refine own_go (fun t k => XS.iconst X121.here hx rfl (hb hby at_775) k) ?_
          show own_End p e below s _ _ _ (T121.setTop (mkF m 776 #[.val (.long p1), .second, .val (.int p2), .val (.int p3), .val (.int p4), .val (.long p5), .second, .val (.int kk83), .val (.int sg84), .val (.int ax85), .val (.int un), .val (.long uq86), .second, .val (.long r087), .second, .val (.ref tb), .val (.int fm), .val (.int nv), s18, s19, s20, .val (.int (1 : Int32)), .val (.long yv), .second, .val (.ref b88), .val (.ref b100), .val (.int (1 : Int32))] [(.int (1 : Int32)), (.ref b88)]))
          refine own_go (own_fldJ X121 hx hZ e121 f125 (j := (1 : Int32)) (v := (.long ((fun i => if i = an then yv else (fun i => if i = 0 then p5 else if i = 1 then (p5 ^^^ (-1)) else (p5 + 7)) i) 1))) 1 (by decide) (by decide) rfl (pc := 776) (Ls := #[.val (.long p1), .second, .val (.int p2), .val (.int p3), .val (.int p4), .val (.long p5), .second, .val (.int kk83), .val (.int sg84), .val (.int ax85), .val (.int un), .val (.long uq86), .second, .val (.long r087), .second, .val (.ref tb), .val (.int fm), .val (.int nv), s18, s19, s20, .val (.int (1 : Int32)), .val (.long yv), .second, .val (.ref b88), .val (.ref b100), .val (.int (1 : Int32))]) (rest := []) (hb hby at_776)) ?_
          show own_End p e below s _ _ _ (T121.setTop (mkF m 777 #[.val (.long p1), .second, .val (.int p2), .val (.int p3), .val (.int p4), .val (.long p5), .second, .val (.int kk83), .val (.int sg84), .val (.int ax85), .val (.int un), .val (.long uq86), .second, .val (.long r087), .second, .val (.ref tb), .val (.int fm), .val (.int nv), s18, s19, s20, .val (.int (1 : Int32)), .val (.long yv), .second, .val (.ref b88), .val (.ref b100), .val (.int (1 : Int32))] [(.long ((fun i => if i = an then yv else (fun i => if i = 0 then p5 else if i = 1 then (p5 ^^^ (-1)) else (p5 + 7)) i) 1))]))
          refine own_go (fun t k => XS.aload X121.here hx rfl (hb hby at_777) rfl rfl k) ?_
          show own_End p e below s _ _ _ (T121.setTop (mkF m 779 #[.val (.long p1), .second, .val (.int p2), .val (.int p3), .val (.int p4), .val (.long p5), .second, .val (.int kk83), .val (.int sg84), .val (.int ax85), .val (.int un), .val (.long uq86), .second, .val (.long r087), .second, .val (.ref tb), .val (.int fm), .val (.int nv), s18, s19, s20, .val (.int (1 : Int32)), .val (.long yv), .second, .val (.ref b88), .val (.ref b100), .val (.int (1 : Int32))] [(.ref b100), (.long ((fun i => if i = an then yv else (fun i => if i = 0 then p5 else if i = 1 then (p5 ^^^ (-1)) else (p5 + 7)) i) 1))]))
          refine own_go (fun t k => XS.iconst X121.here hx rfl (hb hby at_779) k) ?_
          show own_End p e below s _ _ _ (T121.setTop (mkF m 780 #[.val (.long p1), .second, .val (.int p2), .val (.int p3), .val (.int p4), .val (.long p5), .second, .val (.int kk83), .val (.int sg84), .val (.int ax85), .val (.int un), .val (.long uq86), .second, .val (.long r087), .second, .val (.ref tb), .val (.int fm), .val (.int nv), s18, s19, s20, .val (.int (1 : Int32)), .val (.long yv), .second, .val (.ref b88), .val (.ref b100), .val (.int (1 : Int32))] [(.int (1 : Int32)), (.ref b100), (.long ((fun i => if i = an then yv else (fun i => if i = 0 then p5 else if i = 1 then (p5 ^^^ (-1)) else (p5 + 7)) i) 1))]))
          refine own_go (own_fldJ X121 hx hZ e121 f126 (j := (1 : Int32)) (v := (.long ((fun i => if i = an then yv else (fun i => if i = 0 then p5 else if i = 1 then (p5 ^^^ (-1)) else (p5 + 7)) i) 1))) 1 (by decide) (by decide) rfl (pc := 780) (Ls := #[.val (.long p1), .second, .val (.int p2), .val (.int p3), .val (.int p4), .val (.long p5), .second, .val (.int kk83), .val (.int sg84), .val (.int ax85), .val (.int un), .val (.long uq86), .second, .val (.long r087), .second, .val (.ref tb), .val (.int fm), .val (.int nv), s18, s19, s20, .val (.int (1 : Int32)), .val (.long yv), .second, .val (.ref b88), .val (.ref b100), .val (.int (1 : Int32))]) (rest := [(.long ((fun i => if i = an then yv else (fun i => if i = 0 then p5 else if i = 1 then (p5 ^^^ (-1)) else (p5 + 7)) i) 1))]) (hb hby at_780)) ?_
          show own_End p e below s _ _ _ (T121.setTop (mkF m 781 #[.val (.long p1), .second, .val (.int p2), .val (.int p3), .val (.int p4), .val (.long p5), .second, .val (.int kk83), .val (.int sg84), .val (.int ax85), .val (.int un), .val (.long uq86), .second, .val (.long r087), .second, .val (.ref tb), .val (.int fm), .val (.int nv), s18, s19, s20, .val (.int (1 : Int32)), .val (.long yv), .second, .val (.ref b88), .val (.ref b100), .val (.int (1 : Int32))] [(.long ((fun i => if i = an then yv else (fun i => if i = 0 then p5 else if i = 1 then (p5 ^^^ (-1)) else (p5 + 7)) i) 1)), (.long ((fun i => if i = an then yv else (fun i => if i = 0 then p5 else if i = 1 then (p5 ^^^ (-1)) else (p5 + 7)) i) 1))]))
          refine own_go (fun t k => XT.lcmp X121.here hx rfl (hb hby at_781) rfl k) ?_
          show own_End p e below s _ _ _ (T121.setTop (mkF m 782 #[.val (.long p1), .second, .val (.int p2), .val (.int p3), .val (.int p4), .val (.long p5), .second, .val (.int kk83), .val (.int sg84), .val (.int ax85), .val (.int un), .val (.long uq86), .second, .val (.long r087), .second, .val (.ref tb), .val (.int fm), .val (.int nv), s18, s19, s20, .val (.int (1 : Int32)), .val (.long yv), .second, .val (.ref b88), .val (.ref b100), .val (.int (1 : Int32))] [(.int (XT.cmpL ((fun i => if i = an then yv else (fun i => if i = 0 then p5 else if i = 1 then (p5 ^^^ (-1)) else (p5 + 7)) i) 1) ((fun i => if i = an then yv else (fun i => if i = 0 then p5 else if i = 1 then (p5 ^^^ (-1)) else (p5 + 7)) i) 1)))]))
          refine own_go (fun t k => XS.ifNo X121.here hx rfl (hb hby at_782) rfl (own_lneN rfl (fun z => z rfl)) k) ?_
          show own_End p e below s _ _ _ (T121.setTop (mkF m 785 #[.val (.long p1), .second, .val (.int p2), .val (.int p3), .val (.int p4), .val (.long p5), .second, .val (.int kk83), .val (.int sg84), .val (.int ax85), .val (.int un), .val (.long uq86), .second, .val (.long r087), .second, .val (.ref tb), .val (.int fm), .val (.int nv), s18, s19, s20, .val (.int (1 : Int32)), .val (.long yv), .second, .val (.ref b88), .val (.ref b100), .val (.int (1 : Int32))] []))
          refine own_go (fun t k => XS.aload X121.here hx rfl (hb hby at_785) rfl rfl k) ?_
          show own_End p e below s _ _ _ (T121.setTop (mkF m 787 #[.val (.long p1), .second, .val (.int p2), .val (.int p3), .val (.int p4), .val (.long p5), .second, .val (.int kk83), .val (.int sg84), .val (.int ax85), .val (.int un), .val (.long uq86), .second, .val (.long r087), .second, .val (.ref tb), .val (.int fm), .val (.int nv), s18, s19, s20, .val (.int (1 : Int32)), .val (.long yv), .second, .val (.ref b88), .val (.ref b100), .val (.int (1 : Int32))] [(.ref b88)]))
          refine own_go (fun t k => XS.iconst X121.here hx rfl (hb hby at_787) k) ?_
          show own_End p e below s _ _ _ (T121.setTop (mkF m 788 #[.val (.long p1), .second, .val (.int p2), .val (.int p3), .val (.int p4), .val (.long p5), .second, .val (.int kk83), .val (.int sg84), .val (.int ax85), .val (.int un), .val (.long uq86), .second, .val (.long r087), .second, .val (.ref tb), .val (.int fm), .val (.int nv), s18, s19, s20, .val (.int (1 : Int32)), .val (.long yv), .second, .val (.ref b88), .val (.ref b100), .val (.int (1 : Int32))] [(.int (2 : Int32)), (.ref b88)]))
          refine own_go (own_fldJ X121 hx hZ e121 f125 (j := (2 : Int32)) (v := (.long ((fun i => if i = an then yv else (fun i => if i = 0 then p5 else if i = 1 then (p5 ^^^ (-1)) else (p5 + 7)) i) 2))) 2 (by decide) (by decide) rfl (pc := 788) (Ls := #[.val (.long p1), .second, .val (.int p2), .val (.int p3), .val (.int p4), .val (.long p5), .second, .val (.int kk83), .val (.int sg84), .val (.int ax85), .val (.int un), .val (.long uq86), .second, .val (.long r087), .second, .val (.ref tb), .val (.int fm), .val (.int nv), s18, s19, s20, .val (.int (1 : Int32)), .val (.long yv), .second, .val (.ref b88), .val (.ref b100), .val (.int (1 : Int32))]) (rest := []) (hb hby at_788)) ?_
          show own_End p e below s _ _ _ (T121.setTop (mkF m 789 #[.val (.long p1), .second, .val (.int p2), .val (.int p3), .val (.int p4), .val (.long p5), .second, .val (.int kk83), .val (.int sg84), .val (.int ax85), .val (.int un), .val (.long uq86), .second, .val (.long r087), .second, .val (.ref tb), .val (.int fm), .val (.int nv), s18, s19, s20, .val (.int (1 : Int32)), .val (.long yv), .second, .val (.ref b88), .val (.ref b100), .val (.int (1 : Int32))] [(.long ((fun i => if i = an then yv else (fun i => if i = 0 then p5 else if i = 1 then (p5 ^^^ (-1)) else (p5 + 7)) i) 2))]))
          refine own_go (fun t k => XS.aload X121.here hx rfl (hb hby at_789) rfl rfl k) ?_
          show own_End p e below s _ _ _ (T121.setTop (mkF m 791 #[.val (.long p1), .second, .val (.int p2), .val (.int p3), .val (.int p4), .val (.long p5), .second, .val (.int kk83), .val (.int sg84), .val (.int ax85), .val (.int un), .val (.long uq86), .second, .val (.long r087), .second, .val (.ref tb), .val (.int fm), .val (.int nv), s18, s19, s20, .val (.int (1 : Int32)), .val (.long yv), .second, .val (.ref b88), .val (.ref b100), .val (.int (1 : Int32))] [(.ref b100), (.long ((fun i => if i = an then yv else (fun i => if i = 0 then p5 else if i = 1 then (p5 ^^^ (-1)) else (p5 + 7)) i) 2))]))
          refine own_go (fun t k => XS.iconst X121.here hx rfl (hb hby at_791) k) ?_
          show own_End p e below s _ _ _ (T121.setTop (mkF m 792 #[.val (.long p1), .second, .val (.int p2), .val (.int p3), .val (.int p4), .val (.long p5), .second, .val (.int kk83), .val (.int sg84), .val (.int ax85), .val (.int un), .val (.long uq86), .second, .val (.long r087), .second, .val (.ref tb), .val (.int fm), .val (.int nv), s18, s19, s20, .val (.int (1 : Int32)), .val (.long yv), .second, .val (.ref b88), .val (.ref b100), .val (.int (1 : Int32))] [(.int (2 : Int32)), (.ref b100), (.long ((fun i => if i = an then yv else (fun i => if i = 0 then p5 else if i = 1 then (p5 ^^^ (-1)) else (p5 + 7)) i) 2))]))
          refine own_go (own_fldJ X121 hx hZ e121 f126 (j := (2 : Int32)) (v := (.long ((fun i => if i = an then yv else (fun i => if i = 0 then p5 else if i = 1 then (p5 ^^^ (-1)) else (p5 + 7)) i) 2))) 2 (by decide) (by decide) rfl (pc := 792) (Ls := #[.val (.long p1), .second, .val (.int p2), .val (.int p3), .val (.int p4), .val (.long p5), .second, .val (.int kk83), .val (.int sg84), .val (.int ax85), .val (.int un), .val (.long uq86), .second, .val (.long r087), .second, .val (.ref tb), .val (.int fm), .val (.int nv), s18, s19, s20, .val (.int (1 : Int32)), .val (.long yv), .second, .val (.ref b88), .val (.ref b100), .val (.int (1 : Int32))]) (rest := [(.long ((fun i => if i = an then yv else (fun i => if i = 0 then p5 else if i = 1 then (p5 ^^^ (-1)) else (p5 + 7)) i) 2))]) (hb hby at_792)) ?_
          show own_End p e below s _ _ _ (T121.setTop (mkF m 793 #[.val (.long p1), .second, .val (.int p2), .val (.int p3), .val (.int p4), .val (.long p5), .second, .val (.int kk83), .val (.int sg84), .val (.int ax85), .val (.int un), .val (.long uq86), .second, .val (.long r087), .second, .val (.ref tb), .val (.int fm), .val (.int nv), s18, s19, s20, .val (.int (1 : Int32)), .val (.long yv), .second, .val (.ref b88), .val (.ref b100), .val (.int (1 : Int32))] [(.long ((fun i => if i = an then yv else (fun i => if i = 0 then p5 else if i = 1 then (p5 ^^^ (-1)) else (p5 + 7)) i) 2)), (.long ((fun i => if i = an then yv else (fun i => if i = 0 then p5 else if i = 1 then (p5 ^^^ (-1)) else (p5 + 7)) i) 2))]))
          refine own_go (fun t k => XT.lcmp X121.here hx rfl (hb hby at_793) rfl k) ?_
          show own_End p e below s _ _ _ (T121.setTop (mkF m 794 #[.val (.long p1), .second, .val (.int p2), .val (.int p3), .val (.int p4), .val (.long p5), .second, .val (.int kk83), .val (.int sg84), .val (.int ax85), .val (.int un), .val (.long uq86), .second, .val (.long r087), .second, .val (.ref tb), .val (.int fm), .val (.int nv), s18, s19, s20, .val (.int (1 : Int32)), .val (.long yv), .second, .val (.ref b88), .val (.ref b100), .val (.int (1 : Int32))] [(.int (XT.cmpL ((fun i => if i = an then yv else (fun i => if i = 0 then p5 else if i = 1 then (p5 ^^^ (-1)) else (p5 + 7)) i) 2) ((fun i => if i = an then yv else (fun i => if i = 0 then p5 else if i = 1 then (p5 ^^^ (-1)) else (p5 + 7)) i) 2)))]))
          refine own_go (fun t k => XS.ifNo X121.here hx rfl (hb hby at_794) rfl (own_lneN rfl (fun z => z rfl)) k) ?_
          show own_End p e below s _ _ _ (T121.setTop (mkF m 797 #[.val (.long p1), .second, .val (.int p2), .val (.int p3), .val (.int p4), .val (.long p5), .second, .val (.int kk83), .val (.int sg84), .val (.int ax85), .val (.int un), .val (.long uq86), .second, .val (.long r087), .second, .val (.ref tb), .val (.int fm), .val (.int nv), s18, s19, s20, .val (.int (1 : Int32)), .val (.long yv), .second, .val (.ref b88), .val (.ref b100), .val (.int (1 : Int32))] []))
          refine own_go (fun t k => XS.iconst X121.here hx rfl (hb hby at_797) k) ?_
          show own_End p e below s _ _ _ (T121.setTop (mkF m 798 #[.val (.long p1), .second, .val (.int p2), .val (.int p3), .val (.int p4), .val (.long p5), .second, .val (.int kk83), .val (.int sg84), .val (.int ax85), .val (.int un), .val (.long uq86), .second, .val (.long r087), .second, .val (.ref tb), .val (.int fm), .val (.int nv), s18, s19, s20, .val (.int (1 : Int32)), .val (.long yv), .second, .val (.ref b88), .val (.ref b100), .val (.int (1 : Int32))] [(.int (1 : Int32))]))
          refine own_go (fun t k => XS.goto X121.here hx rfl (pc0 := 798) (pc' := 802) rfl (hb hby at_798) (by decide) (by decide) k) ?_
          show own_End p e below s _ _ _ (T121.setTop (mkF m 802 #[.val (.long p1), .second, .val (.int p2), .val (.int p3), .val (.int p4), .val (.long p5), .second, .val (.int kk83), .val (.int sg84), .val (.int ax85), .val (.int un), .val (.long uq86), .second, .val (.long r087), .second, .val (.ref tb), .val (.int fm), .val (.int nv), s18, s19, s20, .val (.int (1 : Int32)), .val (.long yv), .second, .val (.ref b88), .val (.ref b100), .val (.int (1 : Int32))] [(.int (1 : Int32))]))
          exact own_retN X121 hx (t := .boolean) hret hlk (by simp) (hb hby at_802) ⟨rfl, N121⟩ (by decide) (by decide)
      refine own_go (fun t k => XS.ifNo XJ.here hx rfl (hb hby at_646) rfl (own_0 (own_eqN (k := 0) rfl qz)) k) ?_
      show own_End p e below s _ _ _ (TJ.setTop (mkF m 649 #[.val (.long p1), .second, .val (.int p2), .val (.int p3), .val (.int p4), .val (.long p5), .second, .val (.int kk83), .val (.int sg84), .val (.int ax85), .val (.int un), .val (.long uq86), .second, .val (.long r087), .second, .val (.ref tb), .val (.int fm), .val (.int nv), s18, s19, s20, .val (.int okv), .val (.long ex), .second, s24, s25, .unset] []))
      refine own_go (fun t k => XS.aload XJ.here hx rfl (hb hby at_649) rfl rfl k) ?_
      show own_End p e below s _ _ _ (TJ.setTop (mkF m 651 #[.val (.long p1), .second, .val (.int p2), .val (.int p3), .val (.int p4), .val (.long p5), .second, .val (.int kk83), .val (.int sg84), .val (.int ax85), .val (.int un), .val (.long uq86), .second, .val (.long r087), .second, .val (.ref tb), .val (.int fm), .val (.int nv), s18, s19, s20, .val (.int okv), .val (.long ex), .second, s24, s25, .unset] [(.ref tb)]))
      refine own_go (fun t k => XS.iload XJ.here hx rfl (hb hby at_651) rfl k) ?_
      show own_End p e below s _ _ _ (TJ.setTop (mkF m 653 #[.val (.long p1), .second, .val (.int p2), .val (.int p3), .val (.int p4), .val (.long p5), .second, .val (.int kk83), .val (.int sg84), .val (.int ax85), .val (.int un), .val (.long uq86), .second, .val (.long r087), .second, .val (.ref tb), .val (.int fm), .val (.int nv), s18, s19, s20, .val (.int okv), .val (.long ex), .second, s24, s25, .unset] [(.int fm), (.ref tb)]))
      refine own_go (fun t k => XS.bipush XJ.here hx rfl (hb hby at_653) k) ?_
      show own_End p e below s _ _ _ (TJ.setTop (mkF m 655 #[.val (.long p1), .second, .val (.int p2), .val (.int p3), .val (.int p4), .val (.long p5), .second, .val (.int kk83), .val (.int sg84), .val (.int ax85), .val (.int un), .val (.long uq86), .second, .val (.long r087), .second, .val (.ref tb), .val (.int fm), .val (.int nv), s18, s19, s20, .val (.int okv), .val (.long ex), .second, s24, s25, .unset] [(.int (22 : Int32)), (.int fm), (.ref tb)]))
      refine own_go (fun t k => XS.aconstNull XJ.here hx rfl (hb hby at_655) k) ?_
      show own_End p e below s _ _ _ (TJ.setTop (mkF m 656 #[.val (.long p1), .second, .val (.int p2), .val (.int p3), .val (.int p4), .val (.long p5), .second, .val (.int kk83), .val (.int sg84), .val (.int ax85), .val (.int un), .val (.long uq86), .second, .val (.long r087), .second, .val (.ref tb), .val (.int fm), .val (.int nv), s18, s19, s20, .val (.int okv), .val (.long ex), .second, s24, s25, .unset] [.null, (.int (22 : Int32)), (.int fm), (.ref tb)]))
      refine own_go (fun t k => XS.iconst XJ.here hx rfl (hb hby at_656) k) ?_
      show own_End p e below s _ _ _ (TJ.setTop (mkF m 657 #[.val (.long p1), .second, .val (.int p2), .val (.int p3), .val (.int p4), .val (.long p5), .second, .val (.int kk83), .val (.int sg84), .val (.int ax85), .val (.int un), .val (.long uq86), .second, .val (.long r087), .second, .val (.ref tb), .val (.int fm), .val (.int nv), s18, s19, s20, .val (.int okv), .val (.long ex), .second, s24, s25, .unset] [(.int (0 : Int32)), .null, (.int (22 : Int32)), (.int fm), (.ref tb)]))
      obtain ⟨v127, T127, L127, X127, hQ127, st127⟩ := own_callS XJ hx hZ (y := (⟨"com/example/ordinate/ordinate/sql/Numbers", "parseInteger", "([CII[JI)Z"⟩ : MethodName)) 0 hown (hw _ (List.mem_of_getElem? (i := 32) rfl)) (hw _ (List.mem_of_getElem? (i := 33) rfl)) (hw _ (List.mem_of_getElem? (i := 34) rfl)) (hw _ (List.mem_of_getElem? (i := 35) rfl)) (by decide) (rm3_0 l Z a0 hw [] tb fm hJ n0 ZJ g fr hfm hf22 VJ) eJ (pc := 657) (Ls := #[.val (.long p1), .second, .val (.int p2), .val (.int p3), .val (.int p4), .val (.long p5), .second, .val (.int kk83), .val (.int sg84), .val (.int ax85), .val (.int un), .val (.long uq86), .second, .val (.long r087), .second, .val (.ref tb), .val (.int fm), .val (.int nv), s18, s19, s20, .val (.int okv), .val (.long ex), .second, s24, s25, .unset]) [(.ref tb), (.int fm), (.int (22 : Int32)), .null, (.int (0 : Int32))] [] (by rw [hml]; rfl) rfl rfl (lenOf pd_aCIIaJI_Z rfl) (Nat.le_of_eq rfl) (hb hby at_657) (by decide) (by decide) (by decide) (by decide)
      obtain ⟨Nc, hsame, hans⟩ := hQ127
      have N_c := Fr.app NJ Nc
      rcases hans with ⟨rfl, hno⟩ | ⟨rfl, hyes⟩
      ·
        have hok0 : okv = 0 := by rcases hok with ⟨-, q, -⟩ | ⟨q, -⟩; exact absurd q hno; exact q
        subst hok0
        refine own_go st127 ?_
        show own_End p e below s _ _ _ (T127.setTop (mkF m 660 #[.val (.long p1), .second, .val (.int p2), .val (.int p3), .val (.int p4), .val (.long p5), .second, .val (.int kk83), .val (.int sg84), .val (.int ax85), .val (.int un), .val (.long uq86), .second, .val (.long r087), .second, .val (.ref tb), .val (.int fm), .val (.int nv), s18, s19, s20, .val (.int (0 : Int32)), .val (.long ex), .second, s24, s25, .unset] [(.int (0 : Int32))]))
        refine own_go (fun t k => XS.iload X127.here hx rfl (hb hby at_660) rfl k) ?_
        show own_End p e below s _ _ _ (T127.setTop (mkF m 662 #[.val (.long p1), .second, .val (.int p2), .val (.int p3), .val (.int p4), .val (.long p5), .second, .val (.int kk83), .val (.int sg84), .val (.int ax85), .val (.int un), .val (.long uq86), .second, .val (.long r087), .second, .val (.ref tb), .val (.int fm), .val (.int nv), s18, s19, s20, .val (.int (0 : Int32)), .val (.long ex), .second, s24, s25, .unset] [(.int (0 : Int32)), (.int (0 : Int32))]))
        refine own_go (fun t k => XS.icmpNo X127.here hx rfl (hb hby at_662) rfl rfl k) ?_
        show own_End p e below s _ _ _ (T127.setTop (mkF m 665 #[.val (.long p1), .second, .val (.int p2), .val (.int p3), .val (.int p4), .val (.long p5), .second, .val (.int kk83), .val (.int sg84), .val (.int ax85), .val (.int un), .val (.long uq86), .second, .val (.long r087), .second, .val (.ref tb), .val (.int fm), .val (.int nv), s18, s19, s20, .val (.int (0 : Int32)), .val (.long ex), .second, s24, s25, .unset] []))
        refine own_go (fun t k => XS.iconst X127.here hx rfl (hb hby at_665) k) ?_
        show own_End p e below s _ _ _ (T127.setTop (mkF m 666 #[.val (.long p1), .second, .val (.int p2), .val (.int p3), .val (.int p4), .val (.long p5), .second, .val (.int kk83), .val (.int sg84), .val (.int ax85), .val (.int un), .val (.long uq86), .second, .val (.long r087), .second, .val (.ref tb), .val (.int fm), .val (.int nv), s18, s19, s20, .val (.int (0 : Int32)), .val (.long ex), .second, s24, s25, .unset] [(.int (1 : Int32))]))
        refine own_go (fun t k => XS.goto X127.here hx rfl (pc0 := 666) (pc' := 670) rfl (hb hby at_666) (by decide) (by decide) k) ?_
        show own_End p e below s _ _ _ (T127.setTop (mkF m 670 #[.val (.long p1), .second, .val (.int p2), .val (.int p3), .val (.int p4), .val (.long p5), .second, .val (.int kk83), .val (.int sg84), .val (.int ax85), .val (.int un), .val (.long uq86), .second, .val (.long r087), .second, .val (.ref tb), .val (.int fm), .val (.int nv), s18, s19, s20, .val (.int (0 : Int32)), .val (.long ex), .second, s24, s25, .unset] [(.int (1 : Int32))]))
        exact own_retN X127 hx (t := .boolean) hret hlk (by simp) (hb hby at_670) ⟨rfl, N_c⟩ (by decide) (by decide)
      ·
        have hok1 : okv = 1 := by rcases hok with ⟨q1, -, q2⟩ | ⟨-, q⟩; exact q1; exact absurd hyes q
        subst hok1
        refine own_go st127 ?_
        show own_End p e below s _ _ _ (T127.setTop (mkF m 660 #[.val (.long p1), .second, .val (.int p2), .val (.int p3), .val (.int p4), .val (.long p5), .second, .val (.int kk83), .val (.int sg84), .val (.int ax85), .val (.int un), .val (.long uq86), .second, .val (.long r087), .second, .val (.ref tb), .val (.int fm), .val (.int nv), s18, s19, s20, .val (.int (1 : Int32)), .val (.long ex), .second, s24, s25, .unset] [(.int (1 : Int32))]))
        refine own_go (fun t k => XS.iload X127.here hx rfl (hb hby at_660) rfl k) ?_
        show own_End p e below s _ _ _ (T127.setTop (mkF m 662 #[.val (.long p1), .second, .val (.int p2), .val (.int p3), .val (.int p4), .val (.long p5), .second, .val (.int kk83), .val (.int sg84), .val (.int ax85), .val (.int un), .val (.long uq86), .second, .val (.long r087), .second, .val (.ref tb), .val (.int fm), .val (.int nv), s18, s19, s20, .val (.int (1 : Int32)), .val (.long ex), .second, s24, s25, .unset] [(.int (1 : Int32)), (.int (1 : Int32))]))
        refine own_go (fun t k => XS.icmpNo X127.here hx rfl (hb hby at_662) rfl rfl k) ?_
        show own_End p e below s _ _ _ (T127.setTop (mkF m 665 #[.val (.long p1), .second, .val (.int p2), .val (.int p3), .val (.int p4), .val (.long p5), .second, .val (.int kk83), .val (.int sg84), .val (.int ax85), .val (.int un), .val (.long uq86), .second, .val (.long r087), .second, .val (.ref tb), .val (.int fm), .val (.int nv), s18, s19, s20, .val (.int (1 : Int32)), .val (.long ex), .second, s24, s25, .unset] []))
        refine own_go (fun t k => XS.iconst X127.here hx rfl (hb hby at_665) k) ?_
        show own_End p e below s _ _ _ (T127.setTop (mkF m 666 #[.val (.long p1), .second, .val (.int p2), .val (.int p3), .val (.int p4), .val (.long p5), .second, .val (.int kk83), .val (.int sg84), .val (.int ax85), .val (.int un), .val (.long uq86), .second, .val (.long r087), .second, .val (.ref tb), .val (.int fm), .val (.int nv), s18, s19, s20, .val (.int (1 : Int32)), .val (.long ex), .second, s24, s25, .unset] [(.int (1 : Int32))]))
        refine own_go (fun t k => XS.goto X127.here hx rfl (pc0 := 666) (pc' := 670) rfl (hb hby at_666) (by decide) (by decide) k) ?_
        show own_End p e below s _ _ _ (T127.setTop (mkF m 670 #[.val (.long p1), .second, .val (.int p2), .val (.int p3), .val (.int p4), .val (.long p5), .second, .val (.int kk83), .val (.int sg84), .val (.int ax85), .val (.int un), .val (.long uq86), .second, .val (.long r087), .second, .val (.ref tb), .val (.int fm), .val (.int nv), s18, s19, s20, .val (.int (1 : Int32)), .val (.long ex), .second, s24, s25, .unset] [(.int (1 : Int32))]))
        exact own_retN X127 hx (t := .boolean) hret hlk (by simp) (hb hby at_670) ⟨rfl, N_c⟩ (by decide) (by decide)
    intro J644
    show own_End p e below s _ _ _ (s0.setTop (mkF m 63 #[.val (.long p1), .second, .val (.int p2), .val (.int p3), .val (.int p4), .val (.long p5), .second, .val (.int kk83), .val (.int sg84), .val (.int ax85), .val (.int un), .val (.long uq86), .second, .val (.long r087), .second, .unset, .unset, .unset, .unset, .unset, .unset, .unset, .unset, .unset, .unset, .unset, .unset] []))
    refine own_join (fun G => ∀ (TJ : State) (lJ : List Loc) (hJ : Heap) (tb : Addr) (kt : ClassId) (g : Nat → Int32) (fr : Nat) (fm nv ij : Int32) (s19 s20 s21 s22 s23 : Slot), Stand p l e room_1 s m #[(.long p1), (.int p2), (.int p3), (.int p4), (.long p5)] below meth c TJ lJ 20 384 → TJ.heap = hJ → Fr n0 lJ → n0 ≤ hJ.size → n0 ≤ tb → own_F Z hJ tb kt .char 23 (fun i => .int (g i)) → (fm.toInt = ((fr : Nat) : Int)) → (fr ≤ 22) → (nv = 0 ∨ nv = 1) → (One s19) → (One s20) → (One s21) → (s22 = .unset ∨ ∃ z : Int32, s22 = .val (.int z)) → (s23 = .unset ∨ ∃ z : Int32, s23 = .val (.int z)) → ((ij = 1 ∧ ¬ own_ok g fr) ∨ (ij = 0 ∧ (∀ j, j < K → (g (21 - j)).toInt = 48 + ((Nn / 10 ^ j % 10 : Nat) : Int)) ∧ own_i0 g fr = 22 - K ∧ (1 ≤ K → ((g fr).toInt = 45 ↔ nv = 1)))) → G (TJ.setTop (mkF m 537 #[.val (.long p1), .second, .val (.int p2), .val (.int p3), .val (.int p4), .val (.long p5), .second, .val (.int kk83), .val (.int sg84), .val (.int ax85), .val (.int un), .val (.long uq86), .second, .val (.long r087), .second, .val (.ref tb), .val (.int fm), .val (.int nv), .val (.int ij), s19, s20, s21, s22, s23, .unset, .unset, .unset] []))) ?_ ?_
    ·
      intro TJ lJ hJ tb kt g fr fm nv ij s19 s20 s21 s22 s23 XJ eJ NJ ZJ ntb VJ hfm hf22 hnv o19 o20 o21 o22 o23 hin
      show own_End p e below s _ _ _ (TJ.setTop (mkF m 537 #[.val (.long p1), .second, .val (.int p2), .val (.int p3), .val (.int p4), .val (.long p5), .second, .val (.int kk83), .val (.int sg84), .val (.int ax85), .val (.int un), .val (.long uq86), .second, .val (.long r087), .second, .val (.ref tb), .val (.int fm), .val (.int nv), .val (.int ij), s19, s20, s21, s22, s23, .unset, .unset, .unset] []))
      refine own_go (fun t k => XT.lconst XJ.here hx rfl (hb hby at_537) k) ?_
      show own_End p e below s _ _ _ (TJ.setTop (mkF m 538 #[.val (.long p1), .second, .val (.int p2), .val (.int p3), .val (.int p4), .val (.long p5), .second, .val (.int kk83), .val (.int sg84), .val (.int ax85), .val (.int un), .val (.long uq86), .second, .val (.long r087), .second, .val (.ref tb), .val (.int fm), .val (.int nv), .val (.int ij), s19, s20, s21, s22, s23, .unset, .unset, .unset] [(.long (0 : Int64))]))
      refine own_go (fun t k => XT.lstore XJ.here hx rfl (hb hby at_538) rfl (l' := #[.val (.long p1), .second, .val (.int p2), .val (.int p3), .val (.int p4), .val (.long p5), .second, .val (.int kk83), .val (.int sg84), .val (.int ax85), .val (.int un), .val (.long uq86), .second, .val (.long r087), .second, .val (.ref tb), .val (.int fm), .val (.int nv), .val (.int ij), s19, s20, s21, .val (.long (0 : Int64)), .second, .unset, .unset, .unset]) (by rcases o22 with rfl | ⟨z22, rfl⟩ <;> rcases o23 with rfl | ⟨z23, rfl⟩ <;> rfl) k) ?_
      show own_End p e below s _ _ _ (TJ.setTop (mkF m 540 #[.val (.long p1), .second, .val (.int p2), .val (.int p3), .val (.int p4), .val (.long p5), .second, .val (.int kk83), .val (.int sg84), .val (.int ax85), .val (.int un), .val (.long uq86), .second, .val (.long r087), .second, .val (.ref tb), .val (.int fm), .val (.int nv), .val (.int ij), s19, s20, s21, .val (.long (0 : Int64)), .second, .unset, .unset, .unset] []))
      refine own_go (fun t k => XS.iload XJ.here hx rfl (hb hby at_540) rfl k) ?_
      show own_End p e below s _ _ _ (TJ.setTop (mkF m 542 #[.val (.long p1), .second, .val (.int p2), .val (.int p3), .val (.int p4), .val (.long p5), .second, .val (.int kk83), .val (.int sg84), .val (.int ax85), .val (.int un), .val (.long uq86), .second, .val (.long r087), .second, .val (.ref tb), .val (.int fm), .val (.int nv), .val (.int ij), s19, s20, s21, .val (.long (0 : Int64)), .second, .unset, .unset, .unset] [(.int kk83)]))
      by_cases qk : kk83.toInt = 0
      ·
        refine own_go (fun t k => XS.ifYes XJ.here hx rfl (pc0 := 542) (pc' := 550) rfl (hb hby at_542) rfl (own_0 (own_eqY (k := 0) rfl qk)) (by decide) (by decide) k) ?_
        show own_End p e below s _ _ _ (TJ.setTop (mkF m 550 #[.val (.long p1), .second, .val (.int p2), .val (.int p3), .val (.int p4), .val (.long p5), .second, .val (.int kk83), .val (.int sg84), .val (.int ax85), .val (.int un), .val (.long uq86), .second, .val (.long r087), .second, .val (.ref tb), .val (.int fm), .val (.int nv), .val (.int ij), s19, s20, s21, .val (.long (0 : Int64)), .second, .unset, .unset, .unset] []))
        refine own_go (fun t k => XS.iconst XJ.here hx rfl (hb hby at_550) k) ?_
        show own_End p e below s _ _ _ (TJ.setTop (mkF m 551 #[.val (.long p1), .second, .val (.int p2), .val (.int p3), .val (.int p4), .val (.long p5), .second, .val (.int kk83), .val (.int sg84), .val (.int ax85), .val (.int un), .val (.long uq86), .second, .val (.long r087), .second, .val (.ref tb), .val (.int fm), .val (.int nv), .val (.int ij), s19, s20, s21, .val (.long (0 : Int64)), .second, .unset, .unset, .unset] [(.int (0 : Int32))]))
        refine own_go (fun t k => XS.istore XJ.here hx rfl (hb hby at_551) rfl (l' := #[.val (.long p1), .second, .val (.int p2), .val (.int p3), .val (.int p4), .val (.long p5), .second, .val (.int kk83), .val (.int sg84), .val (.int ax85), .val (.int un), .val (.long uq86), .second, .val (.long r087), .second, .val (.ref tb), .val (.int fm), .val (.int nv), .val (.int ij), s19, s20, .val (.int (0 : Int32)), .val (.long (0 : Int64)), .second, .unset, .unset, .unset]) (XS.store1 rfl o21 rfl) k) ?_
        show own_End p e below s _ _ _ (TJ.setTop (mkF m 553 #[.val (.long p1), .second, .val (.int p2), .val (.int p3), .val (.int p4), .val (.long p5), .second, .val (.int kk83), .val (.int sg84), .val (.int ax85), .val (.int un), .val (.long uq86), .second, .val (.long r087), .second, .val (.ref tb), .val (.int fm), .val (.int nv), .val (.int ij), s19, s20, .val (.int (0 : Int32)), .val (.long (0 : Int64)), .second, .unset, .unset, .unset] []))
        refine own_go (fun t k => XS.goto XJ.here hx rfl (pc0 := 553) (pc' := 644) rfl (hb hby at_553) (by decide) (by decide) k) ?_
        show own_End p e below s _ _ _ (TJ.setTop (mkF m 644 #[.val (.long p1), .second, .val (.int p2), .val (.int p3), .val (.int p4), .val (.long p5), .second, .val (.int kk83), .val (.int sg84), .val (.int ax85), .val (.int un), .val (.long uq86), .second, .val (.long r087), .second, .val (.ref tb), .val (.int fm), .val (.int nv), .val (.int ij), s19, s20, .val (.int (0 : Int32)), .val (.long (0 : Int64)), .second, .unset, .unset, .unset] []))
        exact J644 TJ _ hJ tb kt g fr fm nv 0 0 (.val (.int ij)) s19 s20 (.unset) (.unset) (XJ.more (by decide) (by decide)) eJ NJ ZJ ntb VJ hfm hf22 (Or.inl ⟨rfl, rfl⟩) (Or.inr ⟨rfl, by rcases hin with ⟨-, q⟩ | ⟨-, -, q, -⟩; exact q; exact own_no0 (by omega)⟩)
      refine own_go (fun t k => XS.ifNo XJ.here hx rfl (hb hby at_542) rfl (own_0 (own_eqN (k := 0) rfl qk)) k) ?_
      show own_End p e below s _ _ _ (TJ.setTop (mkF m 545 #[.val (.long p1), .second, .val (.int p2), .val (.int p3), .val (.int p4), .val (.long p5), .second, .val (.int kk83), .val (.int sg84), .val (.int ax85), .val (.int un), .val (.long uq86), .second, .val (.long r087), .second, .val (.ref tb), .val (.int fm), .val (.int nv), .val (.int ij), s19, s20, s21, .val (.long (0 : Int64)), .second, .unset, .unset, .unset] []))
      refine own_go (fun t k => XS.iload XJ.here hx rfl (hb hby at_545) rfl k) ?_
      show own_End p e below s _ _ _ (TJ.setTop (mkF m 547 #[.val (.long p1), .second, .val (.int p2), .val (.int p3), .val (.int p4), .val (.long p5), .second, .val (.int kk83), .val (.int sg84), .val (.int ax85), .val (.int un), .val (.long uq86), .second, .val (.long r087), .second, .val (.ref tb), .val (.int fm), .val (.int nv), .val (.int ij), s19, s20, s21, .val (.long (0 : Int64)), .second, .unset, .unset, .unset] [(.int ij)]))
      by_cases qi : ij.toInt = 0
      ·
        refine own_go (fun t k => XS.ifYes XJ.here hx rfl (pc0 := 547) (pc' := 556) rfl (hb hby at_547) rfl (own_0 (own_eqY (k := 0) rfl qi)) (by decide) (by decide) k) ?_
        show own_End p e below s _ _ _ (TJ.setTop (mkF m 556 #[.val (.long p1), .second, .val (.int p2), .val (.int p3), .val (.int p4), .val (.long p5), .second, .val (.int kk83), .val (.int sg84), .val (.int ax85), .val (.int un), .val (.long uq86), .second, .val (.long r087), .second, .val (.ref tb), .val (.int fm), .val (.int nv), .val (.int ij), s19, s20, s21, .val (.long (0 : Int64)), .second, .unset, .unset, .unset] []))
        obtain ⟨hdg, hi0, hsn⟩ : (∀ j, j < K → (g (21 - j)).toInt = 48 + ((Nn / 10 ^ j % 10 : Nat) : Int)) ∧ own_i0 g fr = 22 - K ∧ (1 ≤ K → ((g fr).toInt = 45 ↔ nv = 1)) := by rcases hin with ⟨q, -⟩ | ⟨-, q⟩; rw [q] at qi; exact absurd qi (by decide); exact q
        have hK1 : 1 ≤ K := by omega
        obtain ⟨hok, hres⟩ := own_cleanok hK20 hK1 hdg hi0 (hsn hK1)
        have hW1 : Nn < 18446744073709551616 := by omega
        have hWm : Nn % 10 ^ K < 18446744073709551616 := Nat.lt_of_le_of_lt (Nat.mod_le _ _) hW1
        obtain ⟨Wn, hWn⟩ : ∃ z : Nat, z = Nn % 10 ^ K := ⟨_, rfl⟩
        rw [← hWn] at hok hres hWm
        refine own_join (fun G => ∀ (TW : State) (lW : List Loc) (hW : Heap) (wv : Int64), Stand p l e room_1 s m #[(.long p1), (.int p2), (.int p3), (.int p4), (.long p5)] below meth c TW lW 21 403 → TW.heap = hW → Fr n0 lW → n0 ≤ hW.size → own_F Z hW tb kt .char 23 (fun i => .int (g i)) → (wv.toInt - (Wn : Int)) % 18446744073709551616 = 0 → G (TW.setTop (mkF m 584 #[.val (.long p1), .second, .val (.int p2), .val (.int p3), .val (.int p4), .val (.long p5), .second, .val (.int kk83), .val (.int sg84), .val (.int ax85), .val (.int un), .val (.long uq86), .second, .val (.long r087), .second, .val (.ref tb), .val (.int fm), .val (.int nv), .val (.int ij), s19, s20, s21, .val (.long (0 : Int64)), .second, .unset, .unset, .unset] [(.long wv)]))) ?_ ?_
        ·
          intro TW lW hW wv XW eW NW ZW VW hwv
          show own_End p e below s _ _ _ (TW.setTop (mkF m 584 #[.val (.long p1), .second, .val (.int p2), .val (.int p3), .val (.int p4), .val (.long p5), .second, .val (.int kk83), .val (.int sg84), .val (.int ax85), .val (.int un), .val (.long uq86), .second, .val (.long r087), .second, .val (.ref tb), .val (.int fm), .val (.int nv), .val (.int ij), s19, s20, s21, .val (.long (0 : Int64)), .second, .unset, .unset, .unset] [(.long wv)]))
          have rwv := rng64 wv
          have e0 : (0 : Int64).toInt = 0 := by decide
          have em : (-9223372036854775808 : Int64).toInt = -9223372036854775808 := by decide
          refine own_go (fun t k => XT.lstore XW.here hx rfl (hb hby at_584) rfl (l' := #[.val (.long p1), .second, .val (.int p2), .val (.int p3), .val (.int p4), .val (.long p5), .second, .val (.int kk83), .val (.int sg84), .val (.int ax85), .val (.int un), .val (.long uq86), .second, .val (.long r087), .second, .val (.ref tb), .val (.int fm), .val (.int nv), .val (.int ij), s19, s20, s21, .val (.long (0 : Int64)), .second, .val (.long wv), .second, .unset]) rfl k) ?_
          show own_End p e below s _ _ _ (TW.setTop (mkF m 586 #[.val (.long p1), .second, .val (.int p2), .val (.int p3), .val (.int p4), .val (.long p5), .second, .val (.int kk83), .val (.int sg84), .val (.int ax85), .val (.int un), .val (.long uq86), .second, .val (.long r087), .second, .val (.ref tb), .val (.int fm), .val (.int nv), .val (.int ij), s19, s20, s21, .val (.long (0 : Int64)), .second, .val (.long wv), .second, .unset] []))
          refine own_go (fun t k => XS.iload XW.here hx rfl (hb hby at_586) rfl k) ?_
          show own_End p e below s _ _ _ (TW.setTop (mkF m 588 #[.val (.long p1), .second, .val (.int p2), .val (.int p3), .val (.int p4), .val (.long p5), .second, .val (.int kk83), .val (.int sg84), .val (.int ax85), .val (.int un), .val (.long uq86), .second, .val (.long r087), .second, .val (.ref tb), .val (.int fm), .val (.int nv), .val (.int ij), s19, s20, s21, .val (.long (0 : Int64)), .second, .val (.long wv), .second, .unset] [(.int nv)]))
          by_cases qg : nv.toInt = 0
          ·
            refine own_go (fun t k => XS.ifYes XW.here hx rfl (pc0 := 588) (pc' := 615) rfl (hb hby at_588) rfl (own_0 (own_eqY (k := 0) rfl qg)) (by decide) (by decide) k) ?_
            show own_End p e below s _ _ _ (TW.setTop (mkF m 615 #[.val (.long p1), .second, .val (.int p2), .val (.int p3), .val (.int p4), .val (.long p5), .second, .val (.int kk83), .val (.int sg84), .val (.int ax85), .val (.int un), .val (.long uq86), .second, .val (.long r087), .second, .val (.ref tb), .val (.int fm), .val (.int nv), .val (.int ij), s19, s20, s21, .val (.long (0 : Int64)), .second, .val (.long wv), .second, .unset] []))
            have hnv0 : nv = 0 := by rcases hnv with q | q; exact q; rw [q] at qg; exact absurd qg (by decide)
            subst hnv0
            rw [if_neg (by decide)] at hok hres
            refine own_go (fun t k => XT.lload XW.here hx rfl (hb hby at_615) rfl k) ?_
            show own_End p e below s _ _ _ (TW.setTop (mkF m 617 #[.val (.long p1), .second, .val (.int p2), .val (.int p3), .val (.int p4), .val (.long p5), .second, .val (.int kk83), .val (.int sg84), .val (.int ax85), .val (.int un), .val (.long uq86), .second, .val (.long r087), .second, .val (.ref tb), .val (.int fm), .val (.int (0 : Int32)), .val (.int ij), s19, s20, s21, .val (.long (0 : Int64)), .second, .val (.long wv), .second, .unset] [(.long wv)]))
            refine own_go (fun t k => XT.lconst XW.here hx rfl (hb hby at_617) k) ?_
            show own_End p e below s _ _ _ (TW.setTop (mkF m 618 #[.val (.long p1), .second, .val (.int p2), .val (.int p3), .val (.int p4), .val (.long p5), .second, .val (.int kk83), .val (.int sg84), .val (.int ax85), .val (.int un), .val (.long uq86), .second, .val (.long r087), .second, .val (.ref tb), .val (.int fm), .val (.int (0 : Int32)), .val (.int ij), s19, s20, s21, .val (.long (0 : Int64)), .second, .val (.long wv), .second, .unset] [(.long (0 : Int64)), (.long wv)]))
            refine own_go (fun t k => XT.lcmp XW.here hx rfl (hb hby at_618) rfl k) ?_
            show own_End p e below s _ _ _ (TW.setTop (mkF m 619 #[.val (.long p1), .second, .val (.int p2), .val (.int p3), .val (.int p4), .val (.long p5), .second, .val (.int kk83), .val (.int sg84), .val (.int ax85), .val (.int un), .val (.long uq86), .second, .val (.long r087), .second, .val (.ref tb), .val (.int fm), .val (.int (0 : Int32)), .val (.int ij), s19, s20, s21, .val (.long (0 : Int64)), .second, .val (.long wv), .second, .unset] [(.int (XT.cmpL wv (0 : Int64)))]))
            by_cases qh : wv.toInt < 0
            ·
              refine own_go (fun t k => XS.ifYes XW.here hx rfl (pc0 := 619) (pc' := 626) rfl (hb hby at_619) rfl (own_lltY (k := 0) (by decide) qh) (by decide) (by decide) k) ?_
              show own_End p e below s _ _ _ (TW.setTop (mkF m 626 #[.val (.long p1), .second, .val (.int p2), .val (.int p3), .val (.int p4), .val (.long p5), .second, .val (.int kk83), .val (.int sg84), .val (.int ax85), .val (.int un), .val (.long uq86), .second, .val (.long r087), .second, .val (.ref tb), .val (.int fm), .val (.int (0 : Int32)), .val (.int ij), s19, s20, s21, .val (.long (0 : Int64)), .second, .val (.long wv), .second, .unset] []))
              refine own_go (fun t k => XS.iconst XW.here hx rfl (hb hby at_626) k) ?_
              show own_End p e below s _ _ _ (TW.setTop (mkF m 627 #[.val (.long p1), .second, .val (.int p2), .val (.int p3), .val (.int p4), .val (.long p5), .second, .val (.int kk83), .val (.int sg84), .val (.int ax85), .val (.int un), .val (.long uq86), .second, .val (.long r087), .second, .val (.ref tb), .val (.int fm), .val (.int (0 : Int32)), .val (.int ij), s19, s20, s21, .val (.long (0 : Int64)), .second, .val (.long wv), .second, .unset] [(.int (0 : Int32))]))
              refine own_go (fun t k => XS.istore XW.here hx rfl (hb hby at_627) rfl (l' := #[.val (.long p1), .second, .val (.int p2), .val (.int p3), .val (.int p4), .val (.long p5), .second, .val (.int kk83), .val (.int sg84), .val (.int ax85), .val (.int un), .val (.long uq86), .second, .val (.long r087), .second, .val (.ref tb), .val (.int fm), .val (.int (0 : Int32)), .val (.int ij), s19, s20, .val (.int (0 : Int32)), .val (.long (0 : Int64)), .second, .val (.long wv), .second, .unset]) (XS.store1 rfl o21 rfl) k) ?_
              show own_End p e below s _ _ _ (TW.setTop (mkF m 629 #[.val (.long p1), .second, .val (.int p2), .val (.int p3), .val (.int p4), .val (.long p5), .second, .val (.int kk83), .val (.int sg84), .val (.int ax85), .val (.int un), .val (.long uq86), .second, .val (.long r087), .second, .val (.ref tb), .val (.int fm), .val (.int (0 : Int32)), .val (.int ij), s19, s20, .val (.int (0 : Int32)), .val (.long (0 : Int64)), .second, .val (.long wv), .second, .unset] []))
              refine own_go (fun t k => XS.iload XW.here hx rfl (hb hby at_629) rfl k) ?_
              show own_End p e below s _ _ _ (TW.setTop (mkF m 631 #[.val (.long p1), .second, .val (.int p2), .val (.int p3), .val (.int p4), .val (.long p5), .second, .val (.int kk83), .val (.int sg84), .val (.int ax85), .val (.int un), .val (.long uq86), .second, .val (.long r087), .second, .val (.ref tb), .val (.int fm), .val (.int (0 : Int32)), .val (.int ij), s19, s20, .val (.int (0 : Int32)), .val (.long (0 : Int64)), .second, .val (.long wv), .second, .unset] [(.int (0 : Int32))]))
              refine own_go (fun t k => XS.ifYes XW.here hx rfl (pc0 := 631) (pc' := 640) rfl (hb hby at_631) rfl rfl (by decide) (by decide) k) ?_
              show own_End p e below s _ _ _ (TW.setTop (mkF m 640 #[.val (.long p1), .second, .val (.int p2), .val (.int p3), .val (.int p4), .val (.long p5), .second, .val (.int kk83), .val (.int sg84), .val (.int ax85), .val (.int un), .val (.long uq86), .second, .val (.long r087), .second, .val (.ref tb), .val (.int fm), .val (.int (0 : Int32)), .val (.int ij), s19, s20, .val (.int (0 : Int32)), .val (.long (0 : Int64)), .second, .val (.long wv), .second, .unset] []))
              refine own_go (fun t k => XT.lload XW.here hx rfl (hb hby at_640) rfl k) ?_
              show own_End p e below s _ _ _ (TW.setTop (mkF m 642 #[.val (.long p1), .second, .val (.int p2), .val (.int p3), .val (.int p4), .val (.long p5), .second, .val (.int kk83), .val (.int sg84), .val (.int ax85), .val (.int un), .val (.long uq86), .second, .val (.long r087), .second, .val (.ref tb), .val (.int fm), .val (.int (0 : Int32)), .val (.int ij), s19, s20, .val (.int (0 : Int32)), .val (.long (0 : Int64)), .second, .val (.long wv), .second, .unset] [(.long wv)]))
              refine own_go (fun t k => XT.lstore XW.here hx rfl (hb hby at_642) rfl (l' := #[.val (.long p1), .second, .val (.int p2), .val (.int p3), .val (.int p4), .val (.long p5), .second, .val (.int kk83), .val (.int sg84), .val (.int ax85), .val (.int un), .val (.long uq86), .second, .val (.long r087), .second, .val (.ref tb), .val (.int fm), .val (.int (0 : Int32)), .val (.int ij), s19, s20, .val (.int (0 : Int32)), .val (.long wv), .second, .val (.long wv), .second, .unset]) rfl k) ?_
              show own_End p e below s _ _ _ (TW.setTop (mkF m 644 #[.val (.long p1), .second, .val (.int p2), .val (.int p3), .val (.int p4), .val (.long p5), .second, .val (.int kk83), .val (.int sg84), .val (.int ax85), .val (.int un), .val (.long uq86), .second, .val (.long r087), .second, .val (.ref tb), .val (.int fm), .val (.int (0 : Int32)), .val (.int ij), s19, s20, .val (.int (0 : Int32)), .val (.long wv), .second, .val (.long wv), .second, .unset] []))
              exact J644 TW _ hW tb kt g fr fm (0 : Int32) 0 wv (.val (.int ij)) s19 s20 (.val (.long wv)) (.second) (XW.more (by decide) (by decide)) eW NW ZW ntb VW hfm hf22 (Or.inr ⟨_, rfl, rfl⟩) (Or.inr ⟨rfl, fun z => by have := hok.mp z; omega⟩)
            refine own_go (fun t k => XS.ifNo XW.here hx rfl (hb hby at_619) rfl (own_lltN (k := 0) (by decide) qh) k) ?_
            show own_End p e below s _ _ _ (TW.setTop (mkF m 622 #[.val (.long p1), .second, .val (.int p2), .val (.int p3), .val (.int p4), .val (.long p5), .second, .val (.int kk83), .val (.int sg84), .val (.int ax85), .val (.int un), .val (.long uq86), .second, .val (.long r087), .second, .val (.ref tb), .val (.int fm), .val (.int (0 : Int32)), .val (.int ij), s19, s20, s21, .val (.long (0 : Int64)), .second, .val (.long wv), .second, .unset] []))
            refine own_go (fun t k => XS.iconst XW.here hx rfl (hb hby at_622) k) ?_
            show own_End p e below s _ _ _ (TW.setTop (mkF m 623 #[.val (.long p1), .second, .val (.int p2), .val (.int p3), .val (.int p4), .val (.long p5), .second, .val (.int kk83), .val (.int sg84), .val (.int ax85), .val (.int un), .val (.long uq86), .second, .val (.long r087), .second, .val (.ref tb), .val (.int fm), .val (.int (0 : Int32)), .val (.int ij), s19, s20, s21, .val (.long (0 : Int64)), .second, .val (.long wv), .second, .unset] [(.int (1 : Int32))]))
            refine own_go (fun t k => XS.goto XW.here hx rfl (pc0 := 623) (pc' := 627) rfl (hb hby at_623) (by decide) (by decide) k) ?_
            show own_End p e below s _ _ _ (TW.setTop (mkF m 627 #[.val (.long p1), .second, .val (.int p2), .val (.int p3), .val (.int p4), .val (.long p5), .second, .val (.int kk83), .val (.int sg84), .val (.int ax85), .val (.int un), .val (.long uq86), .second, .val (.long r087), .second, .val (.ref tb), .val (.int fm), .val (.int (0 : Int32)), .val (.int ij), s19, s20, s21, .val (.long (0 : Int64)), .second, .val (.long wv), .second, .unset] [(.int (1 : Int32))]))
            refine own_go (fun t k => XS.istore XW.here hx rfl (hb hby at_627) rfl (l' := #[.val (.long p1), .second, .val (.int p2), .val (.int p3), .val (.int p4), .val (.long p5), .second, .val (.int kk83), .val (.int sg84), .val (.int ax85), .val (.int un), .val (.long uq86), .second, .val (.long r087), .second, .val (.ref tb), .val (.int fm), .val (.int (0 : Int32)), .val (.int ij), s19, s20, .val (.int (1 : Int32)), .val (.long (0 : Int64)), .second, .val (.long wv), .second, .unset]) (XS.store1 rfl o21 rfl) k) ?_
            show own_End p e below s _ _ _ (TW.setTop (mkF m 629 #[.val (.long p1), .second, .val (.int p2), .val (.int p3), .val (.int p4), .val (.long p5), .second, .val (.int kk83), .val (.int sg84), .val (.int ax85), .val (.int un), .val (.long uq86), .second, .val (.long r087), .second, .val (.ref tb), .val (.int fm), .val (.int (0 : Int32)), .val (.int ij), s19, s20, .val (.int (1 : Int32)), .val (.long (0 : Int64)), .second, .val (.long wv), .second, .unset] []))
            refine own_go (fun t k => XS.iload XW.here hx rfl (hb hby at_629) rfl k) ?_
            show own_End p e below s _ _ _ (TW.setTop (mkF m 631 #[.val (.long p1), .second, .val (.int p2), .val (.int p3), .val (.int p4), .val (.long p5), .second, .val (.int kk83), .val (.int sg84), .val (.int ax85), .val (.int un), .val (.long uq86), .second, .val (.long r087), .second, .val (.ref tb), .val (.int fm), .val (.int (0 : Int32)), .val (.int ij), s19, s20, .val (.int (1 : Int32)), .val (.long (0 : Int64)), .second, .val (.long wv), .second, .unset] [(.int (0 : Int32))]))
            refine own_go (fun t k => XS.ifYes XW.here hx rfl (pc0 := 631) (pc' := 640) rfl (hb hby at_631) rfl rfl (by decide) (by decide) k) ?_
            show own_End p e below s _ _ _ (TW.setTop (mkF m 640 #[.val (.long p1), .second, .val (.int p2), .val (.int p3), .val (.int p4), .val (.long p5), .second, .val (.int kk83), .val (.int sg84), .val (.int ax85), .val (.int un), .val (.long uq86), .second, .val (.long r087), .second, .val (.ref tb), .val (.int fm), .val (.int (0 : Int32)), .val (.int ij), s19, s20, .val (.int (1 : Int32)), .val (.long (0 : Int64)), .second, .val (.long wv), .second, .unset] []))
            refine own_go (fun t k => XT.lload XW.here hx rfl (hb hby at_640) rfl k) ?_
            show own_End p e below s _ _ _ (TW.setTop (mkF m 642 #[.val (.long p1), .second, .val (.int p2), .val (.int p3), .val (.int p4), .val (.long p5), .second, .val (.int kk83), .val (.int sg84), .val (.int ax85), .val (.int un), .val (.long uq86), .second, .val (.long r087), .second, .val (.ref tb), .val (.int fm), .val (.int (0 : Int32)), .val (.int ij), s19, s20, .val (.int (1 : Int32)), .val (.long (0 : Int64)), .second, .val (.long wv), .second, .unset] [(.long wv)]))
            refine own_go (fun t k => XT.lstore XW.here hx rfl (hb hby at_642) rfl (l' := #[.val (.long p1), .second, .val (.int p2), .val (.int p3), .val (.int p4), .val (.long p5), .second, .val (.int kk83), .val (.int sg84), .val (.int ax85), .val (.int un), .val (.long uq86), .second, .val (.long r087), .second, .val (.ref tb), .val (.int fm), .val (.int (0 : Int32)), .val (.int ij), s19, s20, .val (.int (1 : Int32)), .val (.long wv), .second, .val (.long wv), .second, .unset]) rfl k) ?_
            show own_End p e below s _ _ _ (TW.setTop (mkF m 644 #[.val (.long p1), .second, .val (.int p2), .val (.int p3), .val (.int p4), .val (.long p5), .second, .val (.int kk83), .val (.int sg84), .val (.int ax85), .val (.int un), .val (.long uq86), .second, .val (.long r087), .second, .val (.ref tb), .val (.int fm), .val (.int (0 : Int32)), .val (.int ij), s19, s20, .val (.int (1 : Int32)), .val (.long wv), .second, .val (.long wv), .second, .unset] []))
            exact J644 TW _ hW tb kt g fr fm (0 : Int32) 1 wv (.val (.int ij)) s19 s20 (.val (.long wv)) (.second) (XW.more (by decide) (by decide)) eW NW ZW ntb VW hfm hf22 (Or.inr ⟨_, rfl, rfl⟩) (Or.inl ⟨rfl, hok.mpr (by omega), by rw [hres]; omega⟩)
          refine own_go (fun t k => XS.ifNo XW.here hx rfl (hb hby at_588) rfl (own_0 (own_eqN (k := 0) rfl qg)) k) ?_
          show own_End p e below s _ _ _ (TW.setTop (mkF m 591 #[.val (.long p1), .second, .val (.int p2), .val (.int p3), .val (.int p4), .val (.long p5), .second, .val (.int kk83), .val (.int sg84), .val (.int ax85), .val (.int un), .val (.long uq86), .second, .val (.long r087), .second, .val (.ref tb), .val (.int fm), .val (.int nv), .val (.int ij), s19, s20, s21, .val (.long (0 : Int64)), .second, .val (.long wv), .second, .unset] []))
          have hnv1 : nv = 1 := by rcases hnv with q | q; exact absurd (by rw [q]; rfl) qg; exact q
          subst hnv1
          rw [if_pos rfl] at hok hres
          have hng := c_lneg wv
          have rng := rng64 (-wv)
          refine own_go (fun t k => XT.lload XW.here hx rfl (hb hby at_591) rfl k) ?_
          show own_End p e below s _ _ _ (TW.setTop (mkF m 593 #[.val (.long p1), .second, .val (.int p2), .val (.int p3), .val (.int p4), .val (.long p5), .second, .val (.int kk83), .val (.int sg84), .val (.int ax85), .val (.int un), .val (.long uq86), .second, .val (.long r087), .second, .val (.ref tb), .val (.int fm), .val (.int (1 : Int32)), .val (.int ij), s19, s20, s21, .val (.long (0 : Int64)), .second, .val (.long wv), .second, .unset] [(.long wv)]))
          refine own_go (fun t k => XT.lconst XW.here hx rfl (hb hby at_593) k) ?_
          show own_End p e below s _ _ _ (TW.setTop (mkF m 594 #[.val (.long p1), .second, .val (.int p2), .val (.int p3), .val (.int p4), .val (.long p5), .second, .val (.int kk83), .val (.int sg84), .val (.int ax85), .val (.int un), .val (.long uq86), .second, .val (.long r087), .second, .val (.ref tb), .val (.int fm), .val (.int (1 : Int32)), .val (.int ij), s19, s20, s21, .val (.long (0 : Int64)), .second, .val (.long wv), .second, .unset] [(.long (0 : Int64)), (.long wv)]))
          refine own_go (fun t k => XT.lcmp XW.here hx rfl (hb hby at_594) rfl k) ?_
          show own_End p e below s _ _ _ (TW.setTop (mkF m 595 #[.val (.long p1), .second, .val (.int p2), .val (.int p3), .val (.int p4), .val (.long p5), .second, .val (.int kk83), .val (.int sg84), .val (.int ax85), .val (.int un), .val (.long uq86), .second, .val (.long r087), .second, .val (.ref tb), .val (.int fm), .val (.int (1 : Int32)), .val (.int ij), s19, s20, s21, .val (.long (0 : Int64)), .second, .val (.long wv), .second, .unset] [(.int (XT.cmpL wv (0 : Int64)))]))
          by_cases qh : 0 ≤ wv.toInt
          ·
            refine own_go (fun t k => XS.ifYes XW.here hx rfl (pc0 := 595) (pc' := 607) rfl (hb hby at_595) rfl (own_lgeY (k := 0) (by decide) qh) (by decide) (by decide) k) ?_
            show own_End p e below s _ _ _ (TW.setTop (mkF m 607 #[.val (.long p1), .second, .val (.int p2), .val (.int p3), .val (.int p4), .val (.long p5), .second, .val (.int kk83), .val (.int sg84), .val (.int ax85), .val (.int un), .val (.long uq86), .second, .val (.long r087), .second, .val (.ref tb), .val (.int fm), .val (.int (1 : Int32)), .val (.int ij), s19, s20, s21, .val (.long (0 : Int64)), .second, .val (.long wv), .second, .unset] []))
            refine own_go (fun t k => XS.iconst XW.here hx rfl (hb hby at_607) k) ?_
            show own_End p e below s _ _ _ (TW.setTop (mkF m 608 #[.val (.long p1), .second, .val (.int p2), .val (.int p3), .val (.int p4), .val (.long p5), .second, .val (.int kk83), .val (.int sg84), .val (.int ax85), .val (.int un), .val (.long uq86), .second, .val (.long r087), .second, .val (.ref tb), .val (.int fm), .val (.int (1 : Int32)), .val (.int ij), s19, s20, s21, .val (.long (0 : Int64)), .second, .val (.long wv), .second, .unset] [(.int (1 : Int32))]))
            refine own_go (fun t k => XS.goto XW.here hx rfl (pc0 := 608) (pc' := 627) rfl (hb hby at_608) (by decide) (by decide) k) ?_
            show own_End p e below s _ _ _ (TW.setTop (mkF m 627 #[.val (.long p1), .second, .val (.int p2), .val (.int p3), .val (.int p4), .val (.long p5), .second, .val (.int kk83), .val (.int sg84), .val (.int ax85), .val (.int un), .val (.long uq86), .second, .val (.long r087), .second, .val (.ref tb), .val (.int fm), .val (.int (1 : Int32)), .val (.int ij), s19, s20, s21, .val (.long (0 : Int64)), .second, .val (.long wv), .second, .unset] [(.int (1 : Int32))]))
            refine own_go (fun t k => XS.istore XW.here hx rfl (hb hby at_627) rfl (l' := #[.val (.long p1), .second, .val (.int p2), .val (.int p3), .val (.int p4), .val (.long p5), .second, .val (.int kk83), .val (.int sg84), .val (.int ax85), .val (.int un), .val (.long uq86), .second, .val (.long r087), .second, .val (.ref tb), .val (.int fm), .val (.int (1 : Int32)), .val (.int ij), s19, s20, .val (.int (1 : Int32)), .val (.long (0 : Int64)), .second, .val (.long wv), .second, .unset]) (XS.store1 rfl o21 rfl) k) ?_
            show own_End p e below s _ _ _ (TW.setTop (mkF m 629 #[.val (.long p1), .second, .val (.int p2), .val (.int p3), .val (.int p4), .val (.long p5), .second, .val (.int kk83), .val (.int sg84), .val (.int ax85), .val (.int un), .val (.long uq86), .second, .val (.long r087), .second, .val (.ref tb), .val (.int fm), .val (.int (1 : Int32)), .val (.int ij), s19, s20, .val (.int (1 : Int32)), .val (.long (0 : Int64)), .second, .val (.long wv), .second, .unset] []))
            refine own_go (fun t k => XS.iload XW.here hx rfl (hb hby at_629) rfl k) ?_
            show own_End p e below s _ _ _ (TW.setTop (mkF m 631 #[.val (.long p1), .second, .val (.int p2), .val (.int p3), .val (.int p4), .val (.long p5), .second, .val (.int kk83), .val (.int sg84), .val (.int ax85), .val (.int un), .val (.long uq86), .second, .val (.long r087), .second, .val (.ref tb), .val (.int fm), .val (.int (1 : Int32)), .val (.int ij), s19, s20, .val (.int (1 : Int32)), .val (.long (0 : Int64)), .second, .val (.long wv), .second, .unset] [(.int (1 : Int32))]))
            refine own_go (fun t k => XS.ifNo XW.here hx rfl (hb hby at_631) rfl rfl k) ?_
            show own_End p e below s _ _ _ (TW.setTop (mkF m 634 #[.val (.long p1), .second, .val (.int p2), .val (.int p3), .val (.int p4), .val (.long p5), .second, .val (.int kk83), .val (.int sg84), .val (.int ax85), .val (.int un), .val (.long uq86), .second, .val (.long r087), .second, .val (.ref tb), .val (.int fm), .val (.int (1 : Int32)), .val (.int ij), s19, s20, .val (.int (1 : Int32)), .val (.long (0 : Int64)), .second, .val (.long wv), .second, .unset] []))
            refine own_go (fun t k => XT.lload XW.here hx rfl (hb hby at_634) rfl k) ?_
            show own_End p e below s _ _ _ (TW.setTop (mkF m 636 #[.val (.long p1), .second, .val (.int p2), .val (.int p3), .val (.int p4), .val (.long p5), .second, .val (.int kk83), .val (.int sg84), .val (.int ax85), .val (.int un), .val (.long uq86), .second, .val (.long r087), .second, .val (.ref tb), .val (.int fm), .val (.int (1 : Int32)), .val (.int ij), s19, s20, .val (.int (1 : Int32)), .val (.long (0 : Int64)), .second, .val (.long wv), .second, .unset] [(.long wv)]))
            refine own_go (fun t k => XT.lneg XW.here hx rfl (hb hby at_636) rfl k) ?_
            show own_End p e below s _ _ _ (TW.setTop (mkF m 637 #[.val (.long p1), .second, .val (.int p2), .val (.int p3), .val (.int p4), .val (.long p5), .second, .val (.int kk83), .val (.int sg84), .val (.int ax85), .val (.int un), .val (.long uq86), .second, .val (.long r087), .second, .val (.ref tb), .val (.int fm), .val (.int (1 : Int32)), .val (.int ij), s19, s20, .val (.int (1 : Int32)), .val (.long (0 : Int64)), .second, .val (.long wv), .second, .unset] [(.long (-wv))]))
            refine own_go (fun t k => XS.goto XW.here hx rfl (pc0 := 637) (pc' := 642) rfl (hb hby at_637) (by decide) (by decide) k) ?_
            show own_End p e below s _ _ _ (TW.setTop (mkF m 642 #[.val (.long p1), .second, .val (.int p2), .val (.int p3), .val (.int p4), .val (.long p5), .second, .val (.int kk83), .val (.int sg84), .val (.int ax85), .val (.int un), .val (.long uq86), .second, .val (.long r087), .second, .val (.ref tb), .val (.int fm), .val (.int (1 : Int32)), .val (.int ij), s19, s20, .val (.int (1 : Int32)), .val (.long (0 : Int64)), .second, .val (.long wv), .second, .unset] [(.long (-wv))]))
            refine own_go (fun t k => XT.lstore XW.here hx rfl (hb hby at_642) rfl (l' := #[.val (.long p1), .second, .val (.int p2), .val (.int p3), .val (.int p4), .val (.long p5), .second, .val (.int kk83), .val (.int sg84), .val (.int ax85), .val (.int un), .val (.long uq86), .second, .val (.long r087), .second, .val (.ref tb), .val (.int fm), .val (.int (1 : Int32)), .val (.int ij), s19, s20, .val (.int (1 : Int32)), .val (.long (-wv)), .second, .val (.long wv), .second, .unset]) rfl k) ?_
            show own_End p e below s _ _ _ (TW.setTop (mkF m 644 #[.val (.long p1), .second, .val (.int p2), .val (.int p3), .val (.int p4), .val (.long p5), .second, .val (.int kk83), .val (.int sg84), .val (.int ax85), .val (.int un), .val (.long uq86), .second, .val (.long r087), .second, .val (.ref tb), .val (.int fm), .val (.int (1 : Int32)), .val (.int ij), s19, s20, .val (.int (1 : Int32)), .val (.long (-wv)), .second, .val (.long wv), .second, .unset] []))
            exact J644 TW _ hW tb kt g fr fm (1 : Int32) 1 (-wv) (.val (.int ij)) s19 s20 (.val (.long wv)) (.second) (XW.more (by decide) (by decide)) eW NW ZW ntb VW hfm hf22 (Or.inr ⟨_, rfl, rfl⟩) (Or.inl ⟨rfl, hok.mpr (by omega), by rw [hres]; omega⟩)
          refine own_go (fun t k => XS.ifNo XW.here hx rfl (hb hby at_595) rfl (own_lgeN (k := 0) (by decide) qh) k) ?_
          show own_End p e below s _ _ _ (TW.setTop (mkF m 598 #[.val (.long p1), .second, .val (.int p2), .val (.int p3), .val (.int p4), .val (.long p5), .second, .val (.int kk83), .val (.int sg84), .val (.int ax85), .val (.int un), .val (.long uq86), .second, .val (.long r087), .second, .val (.ref tb), .val (.int fm), .val (.int (1 : Int32)), .val (.int ij), s19, s20, s21, .val (.long (0 : Int64)), .second, .val (.long wv), .second, .unset] []))
          refine own_go (fun t k => XT.lload XW.here hx rfl (hb hby at_598) rfl k) ?_
          show own_End p e below s _ _ _ (TW.setTop (mkF m 600 #[.val (.long p1), .second, .val (.int p2), .val (.int p3), .val (.int p4), .val (.long p5), .second, .val (.int kk83), .val (.int sg84), .val (.int ax85), .val (.int un), .val (.long uq86), .second, .val (.long r087), .second, .val (.ref tb), .val (.int fm), .val (.int (1 : Int32)), .val (.int ij), s19, s20, s21, .val (.long (0 : Int64)), .second, .val (.long wv), .second, .unset] [(.long wv)]))
          refine own_go (XW.ldc2Long (own := "com/example/ordinate/ordinate/sql/NumbersParseIntegerPinLaw") (index := 60) (v := (-9223372036854775808)) hx hown (mvT hZ (hw _ (List.mem_of_getElem? (i := 38) rfl))) (g := (mkF m 600 #[.val (.long p1), .second, .val (.int p2), .val (.int p3), .val (.int p4), .val (.long p5), .second, .val (.int kk83), .val (.int sg84), .val (.int ax85), .val (.int un), .val (.long uq86), .second, .val (.long r087), .second, .val (.ref tb), .val (.int fm), .val (.int (1 : Int32)), .val (.int ij), s19, s20, s21, .val (.long (0 : Int64)), .second, .val (.long wv), .second, .unset] [(.long wv)])) rfl (hb hby at_600)) ?_
          show own_End p e below s _ _ _ (TW.setTop (mkF m 603 #[.val (.long p1), .second, .val (.int p2), .val (.int p3), .val (.int p4), .val (.long p5), .second, .val (.int kk83), .val (.int sg84), .val (.int ax85), .val (.int un), .val (.long uq86), .second, .val (.long r087), .second, .val (.ref tb), .val (.int fm), .val (.int (1 : Int32)), .val (.int ij), s19, s20, s21, .val (.long (0 : Int64)), .second, .val (.long wv), .second, .unset] [(.long (-9223372036854775808 : Int64)), (.long wv)]))
          refine own_go (fun t k => XT.lcmp XW.here hx rfl (hb hby at_603) rfl k) ?_
          show own_End p e below s _ _ _ (TW.setTop (mkF m 604 #[.val (.long p1), .second, .val (.int p2), .val (.int p3), .val (.int p4), .val (.long p5), .second, .val (.int kk83), .val (.int sg84), .val (.int ax85), .val (.int un), .val (.long uq86), .second, .val (.long r087), .second, .val (.ref tb), .val (.int fm), .val (.int (1 : Int32)), .val (.int ij), s19, s20, s21, .val (.long (0 : Int64)), .second, .val (.long wv), .second, .unset] [(.int (XT.cmpL wv (-9223372036854775808 : Int64)))]))
          by_cases qj : ¬ wv.toInt = (-9223372036854775808)
          ·
            refine own_go (fun t k => XS.ifYes XW.here hx rfl (pc0 := 604) (pc' := 611) rfl (hb hby at_604) rfl (own_lneY (k := (-9223372036854775808)) (by decide) qj) (by decide) (by decide) k) ?_
            show own_End p e below s _ _ _ (TW.setTop (mkF m 611 #[.val (.long p1), .second, .val (.int p2), .val (.int p3), .val (.int p4), .val (.long p5), .second, .val (.int kk83), .val (.int sg84), .val (.int ax85), .val (.int un), .val (.long uq86), .second, .val (.long r087), .second, .val (.ref tb), .val (.int fm), .val (.int (1 : Int32)), .val (.int ij), s19, s20, s21, .val (.long (0 : Int64)), .second, .val (.long wv), .second, .unset] []))
            refine own_go (fun t k => XS.iconst XW.here hx rfl (hb hby at_611) k) ?_
            show own_End p e below s _ _ _ (TW.setTop (mkF m 612 #[.val (.long p1), .second, .val (.int p2), .val (.int p3), .val (.int p4), .val (.long p5), .second, .val (.int kk83), .val (.int sg84), .val (.int ax85), .val (.int un), .val (.long uq86), .second, .val (.long r087), .second, .val (.ref tb), .val (.int fm), .val (.int (1 : Int32)), .val (.int ij), s19, s20, s21, .val (.long (0 : Int64)), .second, .val (.long wv), .second, .unset] [(.int (0 : Int32))]))
            refine own_go (fun t k => XS.goto XW.here hx rfl (pc0 := 612) (pc' := 627) rfl (hb hby at_612) (by decide) (by decide) k) ?_
            show own_End p e below s _ _ _ (TW.setTop (mkF m 627 #[.val (.long p1), .second, .val (.int p2), .val (.int p3), .val (.int p4), .val (.long p5), .second, .val (.int kk83), .val (.int sg84), .val (.int ax85), .val (.int un), .val (.long uq86), .second, .val (.long r087), .second, .val (.ref tb), .val (.int fm), .val (.int (1 : Int32)), .val (.int ij), s19, s20, s21, .val (.long (0 : Int64)), .second, .val (.long wv), .second, .unset] [(.int (0 : Int32))]))
            refine own_go (fun t k => XS.istore XW.here hx rfl (hb hby at_627) rfl (l' := #[.val (.long p1), .second, .val (.int p2), .val (.int p3), .val (.int p4), .val (.long p5), .second, .val (.int kk83), .val (.int sg84), .val (.int ax85), .val (.int un), .val (.long uq86), .second, .val (.long r087), .second, .val (.ref tb), .val (.int fm), .val (.int (1 : Int32)), .val (.int ij), s19, s20, .val (.int (0 : Int32)), .val (.long (0 : Int64)), .second, .val (.long wv), .second, .unset]) (XS.store1 rfl o21 rfl) k) ?_
            show own_End p e below s _ _ _ (TW.setTop (mkF m 629 #[.val (.long p1), .second, .val (.int p2), .val (.int p3), .val (.int p4), .val (.long p5), .second, .val (.int kk83), .val (.int sg84), .val (.int ax85), .val (.int un), .val (.long uq86), .second, .val (.long r087), .second, .val (.ref tb), .val (.int fm), .val (.int (1 : Int32)), .val (.int ij), s19, s20, .val (.int (0 : Int32)), .val (.long (0 : Int64)), .second, .val (.long wv), .second, .unset] []))
            refine own_go (fun t k => XS.iload XW.here hx rfl (hb hby at_629) rfl k) ?_
            show own_End p e below s _ _ _ (TW.setTop (mkF m 631 #[.val (.long p1), .second, .val (.int p2), .val (.int p3), .val (.int p4), .val (.long p5), .second, .val (.int kk83), .val (.int sg84), .val (.int ax85), .val (.int un), .val (.long uq86), .second, .val (.long r087), .second, .val (.ref tb), .val (.int fm), .val (.int (1 : Int32)), .val (.int ij), s19, s20, .val (.int (0 : Int32)), .val (.long (0 : Int64)), .second, .val (.long wv), .second, .unset] [(.int (1 : Int32))]))
            refine own_go (fun t k => XS.ifNo XW.here hx rfl (hb hby at_631) rfl rfl k) ?_
            show own_End p e below s _ _ _ (TW.setTop (mkF m 634 #[.val (.long p1), .second, .val (.int p2), .val (.int p3), .val (.int p4), .val (.long p5), .second, .val (.int kk83), .val (.int sg84), .val (.int ax85), .val (.int un), .val (.long uq86), .second, .val (.long r087), .second, .val (.ref tb), .val (.int fm), .val (.int (1 : Int32)), .val (.int ij), s19, s20, .val (.int (0 : Int32)), .val (.long (0 : Int64)), .second, .val (.long wv), .second, .unset] []))
            refine own_go (fun t k => XT.lload XW.here hx rfl (hb hby at_634) rfl k) ?_
            show own_End p e below s _ _ _ (TW.setTop (mkF m 636 #[.val (.long p1), .second, .val (.int p2), .val (.int p3), .val (.int p4), .val (.long p5), .second, .val (.int kk83), .val (.int sg84), .val (.int ax85), .val (.int un), .val (.long uq86), .second, .val (.long r087), .second, .val (.ref tb), .val (.int fm), .val (.int (1 : Int32)), .val (.int ij), s19, s20, .val (.int (0 : Int32)), .val (.long (0 : Int64)), .second, .val (.long wv), .second, .unset] [(.long wv)]))
            refine own_go (fun t k => XT.lneg XW.here hx rfl (hb hby at_636) rfl k) ?_
            show own_End p e below s _ _ _ (TW.setTop (mkF m 637 #[.val (.long p1), .second, .val (.int p2), .val (.int p3), .val (.int p4), .val (.long p5), .second, .val (.int kk83), .val (.int sg84), .val (.int ax85), .val (.int un), .val (.long uq86), .second, .val (.long r087), .second, .val (.ref tb), .val (.int fm), .val (.int (1 : Int32)), .val (.int ij), s19, s20, .val (.int (0 : Int32)), .val (.long (0 : Int64)), .second, .val (.long wv), .second, .unset] [(.long (-wv))]))
            refine own_go (fun t k => XS.goto XW.here hx rfl (pc0 := 637) (pc' := 642) rfl (hb hby at_637) (by decide) (by decide) k) ?_
            show own_End p e below s _ _ _ (TW.setTop (mkF m 642 #[.val (.long p1), .second, .val (.int p2), .val (.int p3), .val (.int p4), .val (.long p5), .second, .val (.int kk83), .val (.int sg84), .val (.int ax85), .val (.int un), .val (.long uq86), .second, .val (.long r087), .second, .val (.ref tb), .val (.int fm), .val (.int (1 : Int32)), .val (.int ij), s19, s20, .val (.int (0 : Int32)), .val (.long (0 : Int64)), .second, .val (.long wv), .second, .unset] [(.long (-wv))]))
            refine own_go (fun t k => XT.lstore XW.here hx rfl (hb hby at_642) rfl (l' := #[.val (.long p1), .second, .val (.int p2), .val (.int p3), .val (.int p4), .val (.long p5), .second, .val (.int kk83), .val (.int sg84), .val (.int ax85), .val (.int un), .val (.long uq86), .second, .val (.long r087), .second, .val (.ref tb), .val (.int fm), .val (.int (1 : Int32)), .val (.int ij), s19, s20, .val (.int (0 : Int32)), .val (.long (-wv)), .second, .val (.long wv), .second, .unset]) rfl k) ?_
            show own_End p e below s _ _ _ (TW.setTop (mkF m 644 #[.val (.long p1), .second, .val (.int p2), .val (.int p3), .val (.int p4), .val (.long p5), .second, .val (.int kk83), .val (.int sg84), .val (.int ax85), .val (.int un), .val (.long uq86), .second, .val (.long r087), .second, .val (.ref tb), .val (.int fm), .val (.int (1 : Int32)), .val (.int ij), s19, s20, .val (.int (0 : Int32)), .val (.long (-wv)), .second, .val (.long wv), .second, .unset] []))
            exact J644 TW _ hW tb kt g fr fm (1 : Int32) 0 (-wv) (.val (.int ij)) s19 s20 (.val (.long wv)) (.second) (XW.more (by decide) (by decide)) eW NW ZW ntb VW hfm hf22 (Or.inr ⟨_, rfl, rfl⟩) (Or.inr ⟨rfl, fun z => by have := hok.mp z; omega⟩)
          refine own_go (fun t k => XS.ifNo XW.here hx rfl (hb hby at_604) rfl (own_lneN (k := (-9223372036854775808)) (by decide) qj) k) ?_
          show own_End p e below s _ _ _ (TW.setTop (mkF m 607 #[.val (.long p1), .second, .val (.int p2), .val (.int p3), .val (.int p4), .val (.long p5), .second, .val (.int kk83), .val (.int sg84), .val (.int ax85), .val (.int un), .val (.long uq86), .second, .val (.long r087), .second, .val (.ref tb), .val (.int fm), .val (.int (1 : Int32)), .val (.int ij), s19, s20, s21, .val (.long (0 : Int64)), .second, .val (.long wv), .second, .unset] []))
          refine own_go (fun t k => XS.iconst XW.here hx rfl (hb hby at_607) k) ?_
          show own_End p e below s _ _ _ (TW.setTop (mkF m 608 #[.val (.long p1), .second, .val (.int p2), .val (.int p3), .val (.int p4), .val (.long p5), .second, .val (.int kk83), .val (.int sg84), .val (.int ax85), .val (.int un), .val (.long uq86), .second, .val (.long r087), .second, .val (.ref tb), .val (.int fm), .val (.int (1 : Int32)), .val (.int ij), s19, s20, s21, .val (.long (0 : Int64)), .second, .val (.long wv), .second, .unset] [(.int (1 : Int32))]))
          refine own_go (fun t k => XS.goto XW.here hx rfl (pc0 := 608) (pc' := 627) rfl (hb hby at_608) (by decide) (by decide) k) ?_
          show own_End p e below s _ _ _ (TW.setTop (mkF m 627 #[.val (.long p1), .second, .val (.int p2), .val (.int p3), .val (.int p4), .val (.long p5), .second, .val (.int kk83), .val (.int sg84), .val (.int ax85), .val (.int un), .val (.long uq86), .second, .val (.long r087), .second, .val (.ref tb), .val (.int fm), .val (.int (1 : Int32)), .val (.int ij), s19, s20, s21, .val (.long (0 : Int64)), .second, .val (.long wv), .second, .unset] [(.int (1 : Int32))]))
          refine own_go (fun t k => XS.istore XW.here hx rfl (hb hby at_627) rfl (l' := #[.val (.long p1), .second, .val (.int p2), .val (.int p3), .val (.int p4), .val (.long p5), .second, .val (.int kk83), .val (.int sg84), .val (.int ax85), .val (.int un), .val (.long uq86), .second, .val (.long r087), .second, .val (.ref tb), .val (.int fm), .val (.int (1 : Int32)), .val (.int ij), s19, s20, .val (.int (1 : Int32)), .val (.long (0 : Int64)), .second, .val (.long wv), .second, .unset]) (XS.store1 rfl o21 rfl) k) ?_
          show own_End p e below s _ _ _ (TW.setTop (mkF m 629 #[.val (.long p1), .second, .val (.int p2), .val (.int p3), .val (.int p4), .val (.long p5), .second, .val (.int kk83), .val (.int sg84), .val (.int ax85), .val (.int un), .val (.long uq86), .second, .val (.long r087), .second, .val (.ref tb), .val (.int fm), .val (.int (1 : Int32)), .val (.int ij), s19, s20, .val (.int (1 : Int32)), .val (.long (0 : Int64)), .second, .val (.long wv), .second, .unset] []))
          refine own_go (fun t k => XS.iload XW.here hx rfl (hb hby at_629) rfl k) ?_
          show own_End p e below s _ _ _ (TW.setTop (mkF m 631 #[.val (.long p1), .second, .val (.int p2), .val (.int p3), .val (.int p4), .val (.long p5), .second, .val (.int kk83), .val (.int sg84), .val (.int ax85), .val (.int un), .val (.long uq86), .second, .val (.long r087), .second, .val (.ref tb), .val (.int fm), .val (.int (1 : Int32)), .val (.int ij), s19, s20, .val (.int (1 : Int32)), .val (.long (0 : Int64)), .second, .val (.long wv), .second, .unset] [(.int (1 : Int32))]))
          refine own_go (fun t k => XS.ifNo XW.here hx rfl (hb hby at_631) rfl rfl k) ?_
          show own_End p e below s _ _ _ (TW.setTop (mkF m 634 #[.val (.long p1), .second, .val (.int p2), .val (.int p3), .val (.int p4), .val (.long p5), .second, .val (.int kk83), .val (.int sg84), .val (.int ax85), .val (.int un), .val (.long uq86), .second, .val (.long r087), .second, .val (.ref tb), .val (.int fm), .val (.int (1 : Int32)), .val (.int ij), s19, s20, .val (.int (1 : Int32)), .val (.long (0 : Int64)), .second, .val (.long wv), .second, .unset] []))
          refine own_go (fun t k => XT.lload XW.here hx rfl (hb hby at_634) rfl k) ?_
          show own_End p e below s _ _ _ (TW.setTop (mkF m 636 #[.val (.long p1), .second, .val (.int p2), .val (.int p3), .val (.int p4), .val (.long p5), .second, .val (.int kk83), .val (.int sg84), .val (.int ax85), .val (.int un), .val (.long uq86), .second, .val (.long r087), .second, .val (.ref tb), .val (.int fm), .val (.int (1 : Int32)), .val (.int ij), s19, s20, .val (.int (1 : Int32)), .val (.long (0 : Int64)), .second, .val (.long wv), .second, .unset] [(.long wv)]))
          refine own_go (fun t k => XT.lneg XW.here hx rfl (hb hby at_636) rfl k) ?_
          show own_End p e below s _ _ _ (TW.setTop (mkF m 637 #[.val (.long p1), .second, .val (.int p2), .val (.int p3), .val (.int p4), .val (.long p5), .second, .val (.int kk83), .val (.int sg84), .val (.int ax85), .val (.int un), .val (.long uq86), .second, .val (.long r087), .second, .val (.ref tb), .val (.int fm), .val (.int (1 : Int32)), .val (.int ij), s19, s20, .val (.int (1 : Int32)), .val (.long (0 : Int64)), .second, .val (.long wv), .second, .unset] [(.long (-wv))]))
          refine own_go (fun t k => XS.goto XW.here hx rfl (pc0 := 637) (pc' := 642) rfl (hb hby at_637) (by decide) (by decide) k) ?_
          show own_End p e below s _ _ _ (TW.setTop (mkF m 642 #[.val (.long p1), .second, .val (.int p2), .val (.int p3), .val (.int p4), .val (.long p5), .second, .val (.int kk83), .val (.int sg84), .val (.int ax85), .val (.int un), .val (.long uq86), .second, .val (.long r087), .second, .val (.ref tb), .val (.int fm), .val (.int (1 : Int32)), .val (.int ij), s19, s20, .val (.int (1 : Int32)), .val (.long (0 : Int64)), .second, .val (.long wv), .second, .unset] [(.long (-wv))]))
          refine own_go (fun t k => XT.lstore XW.here hx rfl (hb hby at_642) rfl (l' := #[.val (.long p1), .second, .val (.int p2), .val (.int p3), .val (.int p4), .val (.long p5), .second, .val (.int kk83), .val (.int sg84), .val (.int ax85), .val (.int un), .val (.long uq86), .second, .val (.long r087), .second, .val (.ref tb), .val (.int fm), .val (.int (1 : Int32)), .val (.int ij), s19, s20, .val (.int (1 : Int32)), .val (.long (-wv)), .second, .val (.long wv), .second, .unset]) rfl k) ?_
          show own_End p e below s _ _ _ (TW.setTop (mkF m 644 #[.val (.long p1), .second, .val (.int p2), .val (.int p3), .val (.int p4), .val (.long p5), .second, .val (.int kk83), .val (.int sg84), .val (.int ax85), .val (.int un), .val (.long uq86), .second, .val (.long r087), .second, .val (.ref tb), .val (.int fm), .val (.int (1 : Int32)), .val (.int ij), s19, s20, .val (.int (1 : Int32)), .val (.long (-wv)), .second, .val (.long wv), .second, .unset] []))
          exact J644 TW _ hW tb kt g fr fm (1 : Int32) 1 (-wv) (.val (.int ij)) s19 s20 (.val (.long wv)) (.second) (XW.more (by decide) (by decide)) eW NW ZW ntb VW hfm hf22 (Or.inr ⟨_, rfl, rfl⟩) (Or.inl ⟨rfl, hok.mpr (by omega), by rw [hres]; omega⟩)
        intro J584
        show own_End p e below s _ _ _ (TJ.setTop (mkF m 556 #[.val (.long p1), .second, .val (.int p2), .val (.int p3), .val (.int p4), .val (.long p5), .second, .val (.int kk83), .val (.int sg84), .val (.int ax85), .val (.int un), .val (.long uq86), .second, .val (.long r087), .second, .val (.ref tb), .val (.int fm), .val (.int nv), .val (.int ij), s19, s20, s21, .val (.long (0 : Int64)), .second, .unset, .unset, .unset] []))
        refine own_go (fun t k => XS.iload XJ.here hx rfl (hb hby at_556) rfl k) ?_
        show own_End p e below s _ _ _ (TJ.setTop (mkF m 558 #[.val (.long p1), .second, .val (.int p2), .val (.int p3), .val (.int p4), .val (.long p5), .second, .val (.int kk83), .val (.int sg84), .val (.int ax85), .val (.int un), .val (.long uq86), .second, .val (.long r087), .second, .val (.ref tb), .val (.int fm), .val (.int nv), .val (.int ij), s19, s20, s21, .val (.long (0 : Int64)), .second, .unset, .unset, .unset] [(.int kk83)]))
        refine own_go (fun t k => XS.bipush XJ.here hx rfl (hb hby at_558) k) ?_
        show own_End p e below s _ _ _ (TJ.setTop (mkF m 560 #[.val (.long p1), .second, .val (.int p2), .val (.int p3), .val (.int p4), .val (.long p5), .second, .val (.int kk83), .val (.int sg84), .val (.int ax85), .val (.int un), .val (.long uq86), .second, .val (.long r087), .second, .val (.ref tb), .val (.int fm), .val (.int nv), .val (.int ij), s19, s20, s21, .val (.long (0 : Int64)), .second, .unset, .unset, .unset] [(.int (20 : Int32)), (.int kk83)]))
        by_cases ql : ¬ kk83.toInt = 20
        ·
          refine own_go (fun t k => XS.icmpYes XJ.here hx rfl (pc0 := 560) (pc' := 567) rfl (hb hby at_560) rfl (own_neY (k := 20) (by decide) ql) (by decide) (by decide) k) ?_
          show own_End p e below s _ _ _ (TJ.setTop (mkF m 567 #[.val (.long p1), .second, .val (.int p2), .val (.int p3), .val (.int p4), .val (.long p5), .second, .val (.int kk83), .val (.int sg84), .val (.int ax85), .val (.int un), .val (.long uq86), .second, .val (.long r087), .second, .val (.ref tb), .val (.int fm), .val (.int nv), .val (.int ij), s19, s20, s21, .val (.long (0 : Int64)), .second, .unset, .unset, .unset] []))
          refine own_go (fun t k => XT.lload XJ.here hx rfl (hb hby at_567) rfl k) ?_
          show own_End p e below s _ _ _ (TJ.setTop (mkF m 569 #[.val (.long p1), .second, .val (.int p2), .val (.int p3), .val (.int p4), .val (.long p5), .second, .val (.int kk83), .val (.int sg84), .val (.int ax85), .val (.int un), .val (.long uq86), .second, .val (.long r087), .second, .val (.ref tb), .val (.int fm), .val (.int nv), .val (.int ij), s19, s20, s21, .val (.long (0 : Int64)), .second, .unset, .unset, .unset] [(.long uq86)]))
          refine own_go (fun t k => XS.iload XJ.here hx rfl (hb hby at_569) rfl k) ?_
          show own_End p e below s _ _ _ (TJ.setTop (mkF m 571 #[.val (.long p1), .second, .val (.int p2), .val (.int p3), .val (.int p4), .val (.long p5), .second, .val (.int kk83), .val (.int sg84), .val (.int ax85), .val (.int un), .val (.long uq86), .second, .val (.long r087), .second, .val (.ref tb), .val (.int fm), .val (.int nv), .val (.int ij), s19, s20, s21, .val (.long (0 : Int64)), .second, .unset, .unset, .unset] [(.int kk83), (.long uq86)]))
          refine own_go (fun t k => XS.iconst XJ.here hx rfl (hb hby at_571) k) ?_
          show own_End p e below s _ _ _ (TJ.setTop (mkF m 572 #[.val (.long p1), .second, .val (.int p2), .val (.int p3), .val (.int p4), .val (.long p5), .second, .val (.int kk83), .val (.int sg84), .val (.int ax85), .val (.int un), .val (.long uq86), .second, .val (.long r087), .second, .val (.ref tb), .val (.int fm), .val (.int nv), .val (.int ij), s19, s20, s21, .val (.long (0 : Int64)), .second, .unset, .unset, .unset] [(.int (1 : Int32)), (.int kk83), (.long uq86)]))
          refine own_go (fun t k => XS.isub XJ.here hx rfl (hb hby at_572) rfl k) ?_
          show own_End p e below s _ _ _ (TJ.setTop (mkF m 573 #[.val (.long p1), .second, .val (.int p2), .val (.int p3), .val (.int p4), .val (.long p5), .second, .val (.int kk83), .val (.int sg84), .val (.int ax85), .val (.int un), .val (.long uq86), .second, .val (.long r087), .second, .val (.ref tb), .val (.int fm), .val (.int nv), .val (.int ij), s19, s20, s21, .val (.long (0 : Int64)), .second, .unset, .unset, .unset] [(.int (kk83 - (1 : Int32))), (.long uq86)]))
          obtain ⟨i, hi⟩ : ∃ z : Nat, K = z + 1 := ⟨K - 1, by omega⟩
          have e1 : (1 : Int32).toInt = 1 := by decide
          have hki : (kk83 - (1 : Int32)).toInt = i := by have := c_isub kk83 1; have := rng32 (kk83 - 1); omega
          obtain ⟨v128, T128, L128, X128, hQ128, st128⟩ := own_callS XJ hx hZ (y := (⟨"com/example/ordinate/ordinate/sql/NumbersParseIntegerPinLaw", "pow10", "(I)J"⟩ : MethodName)) 2 hown (hw _ (List.mem_of_getElem? (i := 8) rfl)) (hw _ (List.mem_of_getElem? (i := 9) rfl)) (hw _ (List.mem_of_getElem? (i := 5) rfl)) (hw _ (List.mem_of_getElem? (i := 10) rfl)) (by decide) (rm2 l Z a0 hw [] (kk83 - (1 : Int32)) hJ n0 ZJ i hki (by omega)) eJ (pc := 573) (Ls := #[.val (.long p1), .second, .val (.int p2), .val (.int p3), .val (.int p4), .val (.long p5), .second, .val (.int kk83), .val (.int sg84), .val (.int ax85), .val (.int un), .val (.long uq86), .second, .val (.long r087), .second, .val (.ref tb), .val (.int fm), .val (.int nv), .val (.int ij), s19, s20, s21, .val (.long (0 : Int64)), .second, .unset, .unset, .unset]) [(.int (kk83 - (1 : Int32)))] [(.long uq86)] (by rw [hml]; rfl) rfl rfl (lenOf pd_I_J rfl) (Nat.le_of_eq rfl) (hb hby at_573) (by decide) (by decide) (by decide) (by decide)
          obtain ⟨h129, e129⟩ : ∃ z, T128.heap = z := ⟨_, rfl⟩
          rw [e129] at hQ128
          obtain ⟨rfl, Nc, Kc⟩ := hQ128
          have N_c := Fr.app NJ Nc
          have Z129 : n0 ≤ h129.size := Nat.le_trans ZJ Kc.1
          have f130 := VJ.keep Kc nin0
          refine own_go st128 ?_
          show own_End p e below s _ _ _ (T128.setTop (mkF m 576 #[.val (.long p1), .second, .val (.int p2), .val (.int p3), .val (.int p4), .val (.long p5), .second, .val (.int kk83), .val (.int sg84), .val (.int ax85), .val (.int un), .val (.long uq86), .second, .val (.long r087), .second, .val (.ref tb), .val (.int fm), .val (.int nv), .val (.int ij), s19, s20, s21, .val (.long (0 : Int64)), .second, .unset, .unset, .unset] [(.long (own_p i)), (.long uq86)]))
          have hp := own_pv i (by omega)
          have hp0 : 0 < ((10 ^ i : Nat) : Int) := Int.natCast_pos.mpr (Nat.pow_pos (by omega))
          refine own_go (fun t k => XT.lrem X128.here hx rfl (hb hby at_576) rfl (fun z => by have := congrArg Int64.toInt z; have e0 : (0 : Int64).toInt = 0 := (by decide); omega) k) ?_
          show own_End p e below s _ _ _ (T128.setTop (mkF m 577 #[.val (.long p1), .second, .val (.int p2), .val (.int p3), .val (.int p4), .val (.long p5), .second, .val (.int kk83), .val (.int sg84), .val (.int ax85), .val (.int un), .val (.long uq86), .second, .val (.long r087), .second, .val (.ref tb), .val (.int fm), .val (.int nv), .val (.int ij), s19, s20, s21, .val (.long (0 : Int64)), .second, .unset, .unset, .unset] [(.long (uq86 - (uq86 / (own_p i)) * (own_p i)))]))
          have hm : (uq86 - (uq86 / (own_p i)) * (own_p i)).toInt = ((Nn / 10 % 10 ^ i : Nat) : Int) := by
            rw [(c_lrem uq86 (own_p i) _ hp).1 (by omega), hu]; rfl
          obtain ⟨z131, qz131⟩ : ∃ z : Int64, z = (uq86 - (uq86 / (own_p i)) * (own_p i)) := ⟨_, rfl⟩
          rw [← qz131]
          show own_End p e below s _ _ _ (T128.setTop (mkF m 577 #[.val (.long p1), .second, .val (.int p2), .val (.int p3), .val (.int p4), .val (.long p5), .second, .val (.int kk83), .val (.int sg84), .val (.int ax85), .val (.int un), .val (.long uq86), .second, .val (.long r087), .second, .val (.ref tb), .val (.int fm), .val (.int nv), .val (.int ij), s19, s20, s21, .val (.long (0 : Int64)), .second, .unset, .unset, .unset] [(.long z131)]))
          rw [← qz131] at hm
          refine own_go (X128.ldc2Long (own := "com/example/ordinate/ordinate/sql/NumbersParseIntegerPinLaw") (index := 7) (v := 10) hx hown (mvT hZ (hw _ (List.mem_of_getElem? (i := 1) rfl))) (g := (mkF m 577 #[.val (.long p1), .second, .val (.int p2), .val (.int p3), .val (.int p4), .val (.long p5), .second, .val (.int kk83), .val (.int sg84), .val (.int ax85), .val (.int un), .val (.long uq86), .second, .val (.long r087), .second, .val (.ref tb), .val (.int fm), .val (.int nv), .val (.int ij), s19, s20, s21, .val (.long (0 : Int64)), .second, .unset, .unset, .unset] [(.long z131)])) rfl (hb hby at_577)) ?_
          show own_End p e below s _ _ _ (T128.setTop (mkF m 580 #[.val (.long p1), .second, .val (.int p2), .val (.int p3), .val (.int p4), .val (.long p5), .second, .val (.int kk83), .val (.int sg84), .val (.int ax85), .val (.int un), .val (.long uq86), .second, .val (.long r087), .second, .val (.ref tb), .val (.int fm), .val (.int nv), .val (.int ij), s19, s20, s21, .val (.long (0 : Int64)), .second, .unset, .unset, .unset] [(.long (10 : Int64)), (.long z131)]))
          refine own_go (fun t k => XT.lmul X128.here hx rfl (hb hby at_580) rfl k) ?_
          show own_End p e below s _ _ _ (T128.setTop (mkF m 581 #[.val (.long p1), .second, .val (.int p2), .val (.int p3), .val (.int p4), .val (.long p5), .second, .val (.int kk83), .val (.int sg84), .val (.int ax85), .val (.int un), .val (.long uq86), .second, .val (.long r087), .second, .val (.ref tb), .val (.int fm), .val (.int nv), .val (.int ij), s19, s20, s21, .val (.long (0 : Int64)), .second, .unset, .unset, .unset] [(.long (z131 * (10 : Int64)))]))
          refine own_go (fun t k => XT.lload X128.here hx rfl (hb hby at_581) rfl k) ?_
          show own_End p e below s _ _ _ (T128.setTop (mkF m 583 #[.val (.long p1), .second, .val (.int p2), .val (.int p3), .val (.int p4), .val (.long p5), .second, .val (.int kk83), .val (.int sg84), .val (.int ax85), .val (.int un), .val (.long uq86), .second, .val (.long r087), .second, .val (.ref tb), .val (.int fm), .val (.int nv), .val (.int ij), s19, s20, s21, .val (.long (0 : Int64)), .second, .unset, .unset, .unset] [(.long r087), (.long (z131 * (10 : Int64)))]))
          refine own_go (fun t k => XT.ladd X128.here hx rfl (hb hby at_583) rfl k) ?_
          show own_End p e below s _ _ _ (T128.setTop (mkF m 584 #[.val (.long p1), .second, .val (.int p2), .val (.int p3), .val (.int p4), .val (.long p5), .second, .val (.int kk83), .val (.int sg84), .val (.int ax85), .val (.int un), .val (.long uq86), .second, .val (.long r087), .second, .val (.ref tb), .val (.int fm), .val (.int nv), .val (.int ij), s19, s20, s21, .val (.long (0 : Int64)), .second, .unset, .unset, .unset] [(.long ((z131 * (10 : Int64)) + r087))]))
          have hW : (Wn : Int) = ((Nn / 10 % 10 ^ i : Nat) : Int) * 10 + ((Nn % 10 : Nat) : Int) := by
            have h1 : Nn % 10 ^ K = Nn % 10 + 10 * (Nn / 10 % 10 ^ i) := by rw [hi, Nat.pow_succ, Nat.mul_comm, Nat.mod_mul]
            rw [hWn, h1]; omega
          exact J584 T128 _ h129 _ (X128.more (by decide) (by decide)) e129 N_c Z129 f130 (by have h1 := c_lmul z131 10; have h2 := c_ladd (z131 * 10) r087; have e0 : (10 : Int64).toInt = 10 := (by decide); rw [e0] at h1; omega)
        refine own_go (fun t k => XS.icmpNo XJ.here hx rfl (hb hby at_560) rfl (own_neN (k := 20) (by decide) ql) k) ?_
        show own_End p e below s _ _ _ (TJ.setTop (mkF m 563 #[.val (.long p1), .second, .val (.int p2), .val (.int p3), .val (.int p4), .val (.long p5), .second, .val (.int kk83), .val (.int sg84), .val (.int ax85), .val (.int un), .val (.long uq86), .second, .val (.long r087), .second, .val (.ref tb), .val (.int fm), .val (.int nv), .val (.int ij), s19, s20, s21, .val (.long (0 : Int64)), .second, .unset, .unset, .unset] []))
        refine own_go (fun t k => XT.lloadN XJ.here hx rfl (hb hby at_563) rfl k) ?_
        show own_End p e below s _ _ _ (TJ.setTop (mkF m 564 #[.val (.long p1), .second, .val (.int p2), .val (.int p3), .val (.int p4), .val (.long p5), .second, .val (.int kk83), .val (.int sg84), .val (.int ax85), .val (.int un), .val (.long uq86), .second, .val (.long r087), .second, .val (.ref tb), .val (.int fm), .val (.int nv), .val (.int ij), s19, s20, s21, .val (.long (0 : Int64)), .second, .unset, .unset, .unset] [(.long p1)]))
        refine own_go (fun t k => XS.goto XJ.here hx rfl (pc0 := 564) (pc' := 584) rfl (hb hby at_564) (by decide) (by decide) k) ?_
        show own_End p e below s _ _ _ (TJ.setTop (mkF m 584 #[.val (.long p1), .second, .val (.int p2), .val (.int p3), .val (.int p4), .val (.long p5), .second, .val (.int kk83), .val (.int sg84), .val (.int ax85), .val (.int un), .val (.long uq86), .second, .val (.long r087), .second, .val (.ref tb), .val (.int fm), .val (.int nv), .val (.int ij), s19, s20, s21, .val (.long (0 : Int64)), .second, .unset, .unset, .unset] [(.long p1)]))
        have hW20 : Wn = Nn := by rw [hWn, show K = 20 by omega]; exact Nat.mod_eq_of_lt (by omega)
        exact J584 TJ _ hJ _ (XJ.more (by decide) (by decide)) eJ NJ ZJ VJ (by omega)
      refine own_go (fun t k => XS.ifNo XJ.here hx rfl (hb hby at_547) rfl (own_0 (own_eqN (k := 0) rfl qi)) k) ?_
      show own_End p e below s _ _ _ (TJ.setTop (mkF m 550 #[.val (.long p1), .second, .val (.int p2), .val (.int p3), .val (.int p4), .val (.long p5), .second, .val (.int kk83), .val (.int sg84), .val (.int ax85), .val (.int un), .val (.long uq86), .second, .val (.long r087), .second, .val (.ref tb), .val (.int fm), .val (.int nv), .val (.int ij), s19, s20, s21, .val (.long (0 : Int64)), .second, .unset, .unset, .unset] []))
      refine own_go (fun t k => XS.iconst XJ.here hx rfl (hb hby at_550) k) ?_
      show own_End p e below s _ _ _ (TJ.setTop (mkF m 551 #[.val (.long p1), .second, .val (.int p2), .val (.int p3), .val (.int p4), .val (.long p5), .second, .val (.int kk83), .val (.int sg84), .val (.int ax85), .val (.int un), .val (.long uq86), .second, .val (.long r087), .second, .val (.ref tb), .val (.int fm), .val (.int nv), .val (.int ij), s19, s20, s21, .val (.long (0 : Int64)), .second, .unset, .unset, .unset] [(.int (0 : Int32))]))
      refine own_go (fun t k => XS.istore XJ.here hx rfl (hb hby at_551) rfl (l' := #[.val (.long p1), .second, .val (.int p2), .val (.int p3), .val (.int p4), .val (.long p5), .second, .val (.int kk83), .val (.int sg84), .val (.int ax85), .val (.int un), .val (.long uq86), .second, .val (.long r087), .second, .val (.ref tb), .val (.int fm), .val (.int nv), .val (.int ij), s19, s20, .val (.int (0 : Int32)), .val (.long (0 : Int64)), .second, .unset, .unset, .unset]) (XS.store1 rfl o21 rfl) k) ?_
      show own_End p e below s _ _ _ (TJ.setTop (mkF m 553 #[.val (.long p1), .second, .val (.int p2), .val (.int p3), .val (.int p4), .val (.long p5), .second, .val (.int kk83), .val (.int sg84), .val (.int ax85), .val (.int un), .val (.long uq86), .second, .val (.long r087), .second, .val (.ref tb), .val (.int fm), .val (.int nv), .val (.int ij), s19, s20, .val (.int (0 : Int32)), .val (.long (0 : Int64)), .second, .unset, .unset, .unset] []))
      refine own_go (fun t k => XS.goto XJ.here hx rfl (pc0 := 553) (pc' := 644) rfl (hb hby at_553) (by decide) (by decide) k) ?_
      show own_End p e below s _ _ _ (TJ.setTop (mkF m 644 #[.val (.long p1), .second, .val (.int p2), .val (.int p3), .val (.int p4), .val (.long p5), .second, .val (.int kk83), .val (.int sg84), .val (.int ax85), .val (.int un), .val (.long uq86), .second, .val (.long r087), .second, .val (.ref tb), .val (.int fm), .val (.int nv), .val (.int ij), s19, s20, .val (.int (0 : Int32)), .val (.long (0 : Int64)), .second, .unset, .unset, .unset] []))
      exact J644 TJ _ hJ tb kt g fr fm nv 0 0 (.val (.int ij)) s19 s20 (.unset) (.unset) (XJ.more (by decide) (by decide)) eJ NJ ZJ ntb VJ hfm hf22 (Or.inl ⟨rfl, rfl⟩) (Or.inr ⟨rfl, by rcases hin with ⟨-, q⟩ | ⟨q, -⟩; exact q; rw [q] at qi; exact absurd rfl qi⟩)
    intro J537
    show own_End p e below s _ _ _ (s0.setTop (mkF m 63 #[.val (.long p1), .second, .val (.int p2), .val (.int p3), .val (.int p4), .val (.long p5), .second, .val (.int kk83), .val (.int sg84), .val (.int ax85), .val (.int un), .val (.long uq86), .second, .val (.long r087), .second, .unset, .unset, .unset, .unset, .unset, .unset, .unset, .unset, .unset, .unset, .unset, .unset] []))
    refine own_join (fun G => ∀ (TJ : State) (lJ : List Loc) (hJ : Heap) (tb : Addr) (kt : ClassId) (g : Nat → Int32) (fr : Nat) (fm nv : Int32), Stand p l e room_1 s m #[(.long p1), (.int p2), (.int p3), (.int p4), (.long p5)] below meth c TJ lJ 20 384 → TJ.heap = hJ → Fr n0 lJ → n0 ≤ hJ.size → n0 ≤ tb → own_F Z hJ tb kt .char 23 (fun i => .int (g i)) → (fm.toInt = ((fr : Nat) : Int)) → (fr ≤ 22) → (nv = 0 ∨ nv = 1) → (∀ j, j < K → (g (21 - j)).toInt = 48 + ((Nn / 10 ^ j % 10 : Nat) : Int)) → ((fr + K = 22 ∧ nv = 0) ∨ (fr + K = 21 ∧ ((nv = 1 ∧ (g fr).toInt = 45) ∨ (nv = 0 ∧ (g fr).toInt = 43)))) → G (TJ.setTop (mkF m 412 #[.val (.long p1), .second, .val (.int p2), .val (.int p3), .val (.int p4), .val (.long p5), .second, .val (.int kk83), .val (.int sg84), .val (.int ax85), .val (.int un), .val (.long uq86), .second, .val (.long r087), .second, .val (.ref tb), .val (.int fm), .val (.int nv), .unset, .unset, .unset, .unset, .unset, .unset, .unset, .unset, .unset] []))) ?_ ?_
    ·
      intro TJ lJ hJ tb kt g fr fm nv XJ eJ NJ ZJ ntb VJ hfm hf22 hnv hdg hsg
      show own_End p e below s _ _ _ (TJ.setTop (mkF m 412 #[.val (.long p1), .second, .val (.int p2), .val (.int p3), .val (.int p4), .val (.long p5), .second, .val (.int kk83), .val (.int sg84), .val (.int ax85), .val (.int un), .val (.long uq86), .second, .val (.long r087), .second, .val (.ref tb), .val (.int fm), .val (.int nv), .unset, .unset, .unset, .unset, .unset, .unset, .unset, .unset, .unset] []))
      obtain ⟨hi0, hsn⟩ := own_clean hK20 hdg hsg
      refine own_go (fun t k => XS.iconst XJ.here hx rfl (hb hby at_412) k) ?_
      show own_End p e below s _ _ _ (TJ.setTop (mkF m 413 #[.val (.long p1), .second, .val (.int p2), .val (.int p3), .val (.int p4), .val (.long p5), .second, .val (.int kk83), .val (.int sg84), .val (.int ax85), .val (.int un), .val (.long uq86), .second, .val (.long r087), .second, .val (.ref tb), .val (.int fm), .val (.int nv), .unset, .unset, .unset, .unset, .unset, .unset, .unset, .unset, .unset] [(.int (0 : Int32))]))
      refine own_go (fun t k => XS.istore XJ.here hx rfl (hb hby at_413) rfl (l' := #[.val (.long p1), .second, .val (.int p2), .val (.int p3), .val (.int p4), .val (.long p5), .second, .val (.int kk83), .val (.int sg84), .val (.int ax85), .val (.int un), .val (.long uq86), .second, .val (.long r087), .second, .val (.ref tb), .val (.int fm), .val (.int nv), .val (.int (0 : Int32)), .unset, .unset, .unset, .unset, .unset, .unset, .unset, .unset]) rfl k) ?_
      show own_End p e below s _ _ _ (TJ.setTop (mkF m 415 #[.val (.long p1), .second, .val (.int p2), .val (.int p3), .val (.int p4), .val (.long p5), .second, .val (.int kk83), .val (.int sg84), .val (.int ax85), .val (.int un), .val (.long uq86), .second, .val (.long r087), .second, .val (.ref tb), .val (.int fm), .val (.int nv), .val (.int (0 : Int32)), .unset, .unset, .unset, .unset, .unset, .unset, .unset, .unset] []))
      refine own_go (fun t k => XS.iload XJ.here hx rfl (hb hby at_415) rfl k) ?_
      show own_End p e below s _ _ _ (TJ.setTop (mkF m 417 #[.val (.long p1), .second, .val (.int p2), .val (.int p3), .val (.int p4), .val (.long p5), .second, .val (.int kk83), .val (.int sg84), .val (.int ax85), .val (.int un), .val (.long uq86), .second, .val (.long r087), .second, .val (.ref tb), .val (.int fm), .val (.int nv), .val (.int (0 : Int32)), .unset, .unset, .unset, .unset, .unset, .unset, .unset, .unset] [(.int p4)]))
      refine own_go (fun t k => XS.iconst XJ.here hx rfl (hb hby at_417) k) ?_
      show own_End p e below s _ _ _ (TJ.setTop (mkF m 418 #[.val (.long p1), .second, .val (.int p2), .val (.int p3), .val (.int p4), .val (.long p5), .second, .val (.int kk83), .val (.int sg84), .val (.int ax85), .val (.int un), .val (.long uq86), .second, .val (.long r087), .second, .val (.ref tb), .val (.int fm), .val (.int nv), .val (.int (0 : Int32)), .unset, .unset, .unset, .unset, .unset, .unset, .unset, .unset] [(.int (1 : Int32)), (.int p4)]))
      refine own_go (fun t k => XS.iand XJ.here hx rfl (hb hby at_418) rfl k) ?_
      show own_End p e below s _ _ _ (TJ.setTop (mkF m 419 #[.val (.long p1), .second, .val (.int p2), .val (.int p3), .val (.int p4), .val (.long p5), .second, .val (.int kk83), .val (.int sg84), .val (.int ax85), .val (.int un), .val (.long uq86), .second, .val (.long r087), .second, .val (.ref tb), .val (.int fm), .val (.int nv), .val (.int (0 : Int32)), .unset, .unset, .unset, .unset, .unset, .unset, .unset, .unset] [(.int (p4 &&& (1 : Int32)))]))
      by_cases qd : (p4 &&& (1 : Int32)).toInt = 0
      ·
        refine own_go (fun t k => XS.ifYes XJ.here hx rfl (pc0 := 419) (pc' := 426) rfl (hb hby at_419) rfl (own_0 (own_eqY (k := 0) rfl qd)) (by decide) (by decide) k) ?_
        show own_End p e below s _ _ _ (TJ.setTop (mkF m 426 #[.val (.long p1), .second, .val (.int p2), .val (.int p3), .val (.int p4), .val (.long p5), .second, .val (.int kk83), .val (.int sg84), .val (.int ax85), .val (.int un), .val (.long uq86), .second, .val (.long r087), .second, .val (.ref tb), .val (.int fm), .val (.int nv), .val (.int (0 : Int32)), .unset, .unset, .unset, .unset, .unset, .unset, .unset, .unset] []))
        refine own_go (fun t k => XS.iconst XJ.here hx rfl (hb hby at_426) k) ?_
        show own_End p e below s _ _ _ (TJ.setTop (mkF m 427 #[.val (.long p1), .second, .val (.int p2), .val (.int p3), .val (.int p4), .val (.long p5), .second, .val (.int kk83), .val (.int sg84), .val (.int ax85), .val (.int un), .val (.long uq86), .second, .val (.long r087), .second, .val (.ref tb), .val (.int fm), .val (.int nv), .val (.int (0 : Int32)), .unset, .unset, .unset, .unset, .unset, .unset, .unset, .unset] [(.int (0 : Int32))]))
        refine own_go (fun t k => XS.istore XJ.here hx rfl (hb hby at_427) rfl (l' := #[.val (.long p1), .second, .val (.int p2), .val (.int p3), .val (.int p4), .val (.long p5), .second, .val (.int kk83), .val (.int sg84), .val (.int ax85), .val (.int un), .val (.long uq86), .second, .val (.long r087), .second, .val (.ref tb), .val (.int fm), .val (.int nv), .val (.int (0 : Int32)), .val (.int (0 : Int32)), .unset, .unset, .unset, .unset, .unset, .unset, .unset]) rfl k) ?_
        show own_End p e below s _ _ _ (TJ.setTop (mkF m 429 #[.val (.long p1), .second, .val (.int p2), .val (.int p3), .val (.int p4), .val (.long p5), .second, .val (.int kk83), .val (.int sg84), .val (.int ax85), .val (.int un), .val (.long uq86), .second, .val (.long r087), .second, .val (.ref tb), .val (.int fm), .val (.int nv), .val (.int (0 : Int32)), .val (.int (0 : Int32)), .unset, .unset, .unset, .unset, .unset, .unset, .unset] []))
        refine own_go (fun t k => XS.iload XJ.here hx rfl (hb hby at_429) rfl k) ?_
        show own_End p e below s _ _ _ (TJ.setTop (mkF m 431 #[.val (.long p1), .second, .val (.int p2), .val (.int p3), .val (.int p4), .val (.long p5), .second, .val (.int kk83), .val (.int sg84), .val (.int ax85), .val (.int un), .val (.long uq86), .second, .val (.long r087), .second, .val (.ref tb), .val (.int fm), .val (.int nv), .val (.int (0 : Int32)), .val (.int (0 : Int32)), .unset, .unset, .unset, .unset, .unset, .unset, .unset] [(.int p4)]))
        refine own_go (fun t k => XS.iconst XJ.here hx rfl (hb hby at_431) k) ?_
        show own_End p e below s _ _ _ (TJ.setTop (mkF m 432 #[.val (.long p1), .second, .val (.int p2), .val (.int p3), .val (.int p4), .val (.long p5), .second, .val (.int kk83), .val (.int sg84), .val (.int ax85), .val (.int un), .val (.long uq86), .second, .val (.long r087), .second, .val (.ref tb), .val (.int fm), .val (.int nv), .val (.int (0 : Int32)), .val (.int (0 : Int32)), .unset, .unset, .unset, .unset, .unset, .unset, .unset] [(.int (1 : Int32)), (.int p4)]))
        refine own_go (fun t k => XT.iushr XJ.here hx rfl (hb hby at_432) rfl k) ?_
        show own_End p e below s _ _ _ (TJ.setTop (mkF m 433 #[.val (.long p1), .second, .val (.int p2), .val (.int p3), .val (.int p4), .val (.long p5), .second, .val (.int kk83), .val (.int sg84), .val (.int ax85), .val (.int un), .val (.long uq86), .second, .val (.long r087), .second, .val (.ref tb), .val (.int fm), .val (.int nv), .val (.int (0 : Int32)), .val (.int (0 : Int32)), .unset, .unset, .unset, .unset, .unset, .unset, .unset] [(.int (XT.ushr p4 (1 : Int32)))]))
        refine own_go (XJ.ldcInt (own := "com/example/ordinate/ordinate/sql/NumbersParseIntegerPinLaw") (index := 57) (v := 65535) hx hown (mvT hZ (hw _ (List.mem_of_getElem? (i := 29) rfl))) (g := (mkF m 433 #[.val (.long p1), .second, .val (.int p2), .val (.int p3), .val (.int p4), .val (.long p5), .second, .val (.int kk83), .val (.int sg84), .val (.int ax85), .val (.int un), .val (.long uq86), .second, .val (.long r087), .second, .val (.ref tb), .val (.int fm), .val (.int nv), .val (.int (0 : Int32)), .val (.int (0 : Int32)), .unset, .unset, .unset, .unset, .unset, .unset, .unset] [(.int (XT.ushr p4 (1 : Int32)))])) rfl (hb hby at_433)) ?_
        show own_End p e below s _ _ _ (TJ.setTop (mkF m 435 #[.val (.long p1), .second, .val (.int p2), .val (.int p3), .val (.int p4), .val (.long p5), .second, .val (.int kk83), .val (.int sg84), .val (.int ax85), .val (.int un), .val (.long uq86), .second, .val (.long r087), .second, .val (.ref tb), .val (.int fm), .val (.int nv), .val (.int (0 : Int32)), .val (.int (0 : Int32)), .unset, .unset, .unset, .unset, .unset, .unset, .unset] [(.int (65535 : Int32)), (.int (XT.ushr p4 (1 : Int32)))]))
        refine own_go (fun t k => XS.iand XJ.here hx rfl (hb hby at_435) rfl k) ?_
        show own_End p e below s _ _ _ (TJ.setTop (mkF m 436 #[.val (.long p1), .second, .val (.int p2), .val (.int p3), .val (.int p4), .val (.long p5), .second, .val (.int kk83), .val (.int sg84), .val (.int ax85), .val (.int un), .val (.long uq86), .second, .val (.long r087), .second, .val (.ref tb), .val (.int fm), .val (.int nv), .val (.int (0 : Int32)), .val (.int (0 : Int32)), .unset, .unset, .unset, .unset, .unset, .unset, .unset] [(.int ((XT.ushr p4 (1 : Int32)) &&& (65535 : Int32)))]))
        refine own_go (fun t k => XT.i2c XJ.here hx rfl (hb hby at_436) rfl k) ?_
        show own_End p e below s _ _ _ (TJ.setTop (mkF m 437 #[.val (.long p1), .second, .val (.int p2), .val (.int p3), .val (.int p4), .val (.long p5), .second, .val (.int kk83), .val (.int sg84), .val (.int ax85), .val (.int un), .val (.long uq86), .second, .val (.long r087), .second, .val (.ref tb), .val (.int fm), .val (.int nv), .val (.int (0 : Int32)), .val (.int (0 : Int32)), .unset, .unset, .unset, .unset, .unset, .unset, .unset] [(.int (((XT.ushr p4 (1 : Int32)) &&& (65535 : Int32)).toUInt32.toUInt16.toUInt32.toInt32))]))
        refine own_go (fun t k => XS.istore XJ.here hx rfl (hb hby at_437) rfl (l' := #[.val (.long p1), .second, .val (.int p2), .val (.int p3), .val (.int p4), .val (.long p5), .second, .val (.int kk83), .val (.int sg84), .val (.int ax85), .val (.int un), .val (.long uq86), .second, .val (.long r087), .second, .val (.ref tb), .val (.int fm), .val (.int nv), .val (.int (0 : Int32)), .val (.int (0 : Int32)), .val (.int (((XT.ushr p4 (1 : Int32)) &&& (65535 : Int32)).toUInt32.toUInt16.toUInt32.toInt32)), .unset, .unset, .unset, .unset, .unset, .unset]) rfl k) ?_
        show own_End p e below s _ _ _ (TJ.setTop (mkF m 439 #[.val (.long p1), .second, .val (.int p2), .val (.int p3), .val (.int p4), .val (.long p5), .second, .val (.int kk83), .val (.int sg84), .val (.int ax85), .val (.int un), .val (.long uq86), .second, .val (.long r087), .second, .val (.ref tb), .val (.int fm), .val (.int nv), .val (.int (0 : Int32)), .val (.int (0 : Int32)), .val (.int (((XT.ushr p4 (1 : Int32)) &&& (65535 : Int32)).toUInt32.toUInt16.toUInt32.toInt32)), .unset, .unset, .unset, .unset, .unset, .unset] []))
        refine own_go (fun t k => XS.iload XJ.here hx rfl (hb hby at_439) rfl k) ?_
        show own_End p e below s _ _ _ (TJ.setTop (mkF m 441 #[.val (.long p1), .second, .val (.int p2), .val (.int p3), .val (.int p4), .val (.long p5), .second, .val (.int kk83), .val (.int sg84), .val (.int ax85), .val (.int un), .val (.long uq86), .second, .val (.long r087), .second, .val (.ref tb), .val (.int fm), .val (.int nv), .val (.int (0 : Int32)), .val (.int (0 : Int32)), .val (.int (((XT.ushr p4 (1 : Int32)) &&& (65535 : Int32)).toUInt32.toUInt16.toUInt32.toInt32)), .unset, .unset, .unset, .unset, .unset, .unset] [(.int (0 : Int32))]))
        refine own_go (fun t k => XS.ifYes XJ.here hx rfl (pc0 := 441) (pc' := 537) rfl (hb hby at_441) rfl rfl (by decide) (by decide) k) ?_
        show own_End p e below s _ _ _ (TJ.setTop (mkF m 537 #[.val (.long p1), .second, .val (.int p2), .val (.int p3), .val (.int p4), .val (.long p5), .second, .val (.int kk83), .val (.int sg84), .val (.int ax85), .val (.int un), .val (.long uq86), .second, .val (.long r087), .second, .val (.ref tb), .val (.int fm), .val (.int nv), .val (.int (0 : Int32)), .val (.int (0 : Int32)), .val (.int (((XT.ushr p4 (1 : Int32)) &&& (65535 : Int32)).toUInt32.toUInt16.toUInt32.toInt32)), .unset, .unset, .unset, .unset, .unset, .unset] []))
        exact J537 TJ _ hJ tb kt g fr fm nv 0 (.val (.int (0 : Int32))) (.val (.int (((XT.ushr p4 (1 : Int32)) &&& (65535 : Int32)).toUInt32.toUInt16.toUInt32.toInt32))) (.unset) (.unset) (.unset) (XJ.more (by decide) (by decide)) eJ NJ ZJ ntb VJ hfm hf22 hnv (One.val rfl) (One.val rfl) One.u (Or.inl rfl) (Or.inl rfl) (Or.inr ⟨rfl, hdg, hi0, hsn⟩)
      refine own_go (fun t k => XS.ifNo XJ.here hx rfl (hb hby at_419) rfl (own_0 (own_eqN (k := 0) rfl qd)) k) ?_
      show own_End p e below s _ _ _ (TJ.setTop (mkF m 422 #[.val (.long p1), .second, .val (.int p2), .val (.int p3), .val (.int p4), .val (.long p5), .second, .val (.int kk83), .val (.int sg84), .val (.int ax85), .val (.int un), .val (.long uq86), .second, .val (.long r087), .second, .val (.ref tb), .val (.int fm), .val (.int nv), .val (.int (0 : Int32)), .unset, .unset, .unset, .unset, .unset, .unset, .unset, .unset] []))
      refine own_go (fun t k => XS.iconst XJ.here hx rfl (hb hby at_422) k) ?_
      show own_End p e below s _ _ _ (TJ.setTop (mkF m 423 #[.val (.long p1), .second, .val (.int p2), .val (.int p3), .val (.int p4), .val (.long p5), .second, .val (.int kk83), .val (.int sg84), .val (.int ax85), .val (.int un), .val (.long uq86), .second, .val (.long r087), .second, .val (.ref tb), .val (.int fm), .val (.int nv), .val (.int (0 : Int32)), .unset, .unset, .unset, .unset, .unset, .unset, .unset, .unset] [(.int (1 : Int32))]))
      refine own_go (fun t k => XS.goto XJ.here hx rfl (pc0 := 423) (pc' := 427) rfl (hb hby at_423) (by decide) (by decide) k) ?_
      show own_End p e below s _ _ _ (TJ.setTop (mkF m 427 #[.val (.long p1), .second, .val (.int p2), .val (.int p3), .val (.int p4), .val (.long p5), .second, .val (.int kk83), .val (.int sg84), .val (.int ax85), .val (.int un), .val (.long uq86), .second, .val (.long r087), .second, .val (.ref tb), .val (.int fm), .val (.int nv), .val (.int (0 : Int32)), .unset, .unset, .unset, .unset, .unset, .unset, .unset, .unset] [(.int (1 : Int32))]))
      refine own_go (fun t k => XS.istore XJ.here hx rfl (hb hby at_427) rfl (l' := #[.val (.long p1), .second, .val (.int p2), .val (.int p3), .val (.int p4), .val (.long p5), .second, .val (.int kk83), .val (.int sg84), .val (.int ax85), .val (.int un), .val (.long uq86), .second, .val (.long r087), .second, .val (.ref tb), .val (.int fm), .val (.int nv), .val (.int (0 : Int32)), .val (.int (1 : Int32)), .unset, .unset, .unset, .unset, .unset, .unset, .unset]) rfl k) ?_
      show own_End p e below s _ _ _ (TJ.setTop (mkF m 429 #[.val (.long p1), .second, .val (.int p2), .val (.int p3), .val (.int p4), .val (.long p5), .second, .val (.int kk83), .val (.int sg84), .val (.int ax85), .val (.int un), .val (.long uq86), .second, .val (.long r087), .second, .val (.ref tb), .val (.int fm), .val (.int nv), .val (.int (0 : Int32)), .val (.int (1 : Int32)), .unset, .unset, .unset, .unset, .unset, .unset, .unset] []))
      refine own_go (fun t k => XS.iload XJ.here hx rfl (hb hby at_429) rfl k) ?_
      show own_End p e below s _ _ _ (TJ.setTop (mkF m 431 #[.val (.long p1), .second, .val (.int p2), .val (.int p3), .val (.int p4), .val (.long p5), .second, .val (.int kk83), .val (.int sg84), .val (.int ax85), .val (.int un), .val (.long uq86), .second, .val (.long r087), .second, .val (.ref tb), .val (.int fm), .val (.int nv), .val (.int (0 : Int32)), .val (.int (1 : Int32)), .unset, .unset, .unset, .unset, .unset, .unset, .unset] [(.int p4)]))
      refine own_go (fun t k => XS.iconst XJ.here hx rfl (hb hby at_431) k) ?_
      show own_End p e below s _ _ _ (TJ.setTop (mkF m 432 #[.val (.long p1), .second, .val (.int p2), .val (.int p3), .val (.int p4), .val (.long p5), .second, .val (.int kk83), .val (.int sg84), .val (.int ax85), .val (.int un), .val (.long uq86), .second, .val (.long r087), .second, .val (.ref tb), .val (.int fm), .val (.int nv), .val (.int (0 : Int32)), .val (.int (1 : Int32)), .unset, .unset, .unset, .unset, .unset, .unset, .unset] [(.int (1 : Int32)), (.int p4)]))
      refine own_go (fun t k => XT.iushr XJ.here hx rfl (hb hby at_432) rfl k) ?_
      show own_End p e below s _ _ _ (TJ.setTop (mkF m 433 #[.val (.long p1), .second, .val (.int p2), .val (.int p3), .val (.int p4), .val (.long p5), .second, .val (.int kk83), .val (.int sg84), .val (.int ax85), .val (.int un), .val (.long uq86), .second, .val (.long r087), .second, .val (.ref tb), .val (.int fm), .val (.int nv), .val (.int (0 : Int32)), .val (.int (1 : Int32)), .unset, .unset, .unset, .unset, .unset, .unset, .unset] [(.int (XT.ushr p4 (1 : Int32)))]))
      refine own_go (XJ.ldcInt (own := "com/example/ordinate/ordinate/sql/NumbersParseIntegerPinLaw") (index := 57) (v := 65535) hx hown (mvT hZ (hw _ (List.mem_of_getElem? (i := 29) rfl))) (g := (mkF m 433 #[.val (.long p1), .second, .val (.int p2), .val (.int p3), .val (.int p4), .val (.long p5), .second, .val (.int kk83), .val (.int sg84), .val (.int ax85), .val (.int un), .val (.long uq86), .second, .val (.long r087), .second, .val (.ref tb), .val (.int fm), .val (.int nv), .val (.int (0 : Int32)), .val (.int (1 : Int32)), .unset, .unset, .unset, .unset, .unset, .unset, .unset] [(.int (XT.ushr p4 (1 : Int32)))])) rfl (hb hby at_433)) ?_
      show own_End p e below s _ _ _ (TJ.setTop (mkF m 435 #[.val (.long p1), .second, .val (.int p2), .val (.int p3), .val (.int p4), .val (.long p5), .second, .val (.int kk83), .val (.int sg84), .val (.int ax85), .val (.int un), .val (.long uq86), .second, .val (.long r087), .second, .val (.ref tb), .val (.int fm), .val (.int nv), .val (.int (0 : Int32)), .val (.int (1 : Int32)), .unset, .unset, .unset, .unset, .unset, .unset, .unset] [(.int (65535 : Int32)), (.int (XT.ushr p4 (1 : Int32)))]))
      refine own_go (fun t k => XS.iand XJ.here hx rfl (hb hby at_435) rfl k) ?_
      show own_End p e below s _ _ _ (TJ.setTop (mkF m 436 #[.val (.long p1), .second, .val (.int p2), .val (.int p3), .val (.int p4), .val (.long p5), .second, .val (.int kk83), .val (.int sg84), .val (.int ax85), .val (.int un), .val (.long uq86), .second, .val (.long r087), .second, .val (.ref tb), .val (.int fm), .val (.int nv), .val (.int (0 : Int32)), .val (.int (1 : Int32)), .unset, .unset, .unset, .unset, .unset, .unset, .unset] [(.int ((XT.ushr p4 (1 : Int32)) &&& (65535 : Int32)))]))
      refine own_go (fun t k => XT.i2c XJ.here hx rfl (hb hby at_436) rfl k) ?_
      show own_End p e below s _ _ _ (TJ.setTop (mkF m 437 #[.val (.long p1), .second, .val (.int p2), .val (.int p3), .val (.int p4), .val (.long p5), .second, .val (.int kk83), .val (.int sg84), .val (.int ax85), .val (.int un), .val (.long uq86), .second, .val (.long r087), .second, .val (.ref tb), .val (.int fm), .val (.int nv), .val (.int (0 : Int32)), .val (.int (1 : Int32)), .unset, .unset, .unset, .unset, .unset, .unset, .unset] [(.int (((XT.ushr p4 (1 : Int32)) &&& (65535 : Int32)).toUInt32.toUInt16.toUInt32.toInt32))]))
      obtain ⟨cc132, qcc132⟩ : ∃ z : Int32, z = (((XT.ushr p4 (1 : Int32)) &&& (65535 : Int32)).toUInt32.toUInt16.toUInt32.toInt32) := ⟨_, rfl⟩
      rw [← qcc132]
      show own_End p e below s _ _ _ (TJ.setTop (mkF m 437 #[.val (.long p1), .second, .val (.int p2), .val (.int p3), .val (.int p4), .val (.long p5), .second, .val (.int kk83), .val (.int sg84), .val (.int ax85), .val (.int un), .val (.long uq86), .second, .val (.long r087), .second, .val (.ref tb), .val (.int fm), .val (.int nv), .val (.int (0 : Int32)), .val (.int (1 : Int32)), .unset, .unset, .unset, .unset, .unset, .unset, .unset] [(.int cc132)]))
      have rcc : 0 ≤ cc132.toInt ∧ cc132.toInt < 65536 := by rw [qcc132]; exact (c_i2c _).2
      refine own_go (fun t k => XS.istore XJ.here hx rfl (hb hby at_437) rfl (l' := #[.val (.long p1), .second, .val (.int p2), .val (.int p3), .val (.int p4), .val (.long p5), .second, .val (.int kk83), .val (.int sg84), .val (.int ax85), .val (.int un), .val (.long uq86), .second, .val (.long r087), .second, .val (.ref tb), .val (.int fm), .val (.int nv), .val (.int (0 : Int32)), .val (.int (1 : Int32)), .val (.int cc132), .unset, .unset, .unset, .unset, .unset, .unset]) rfl k) ?_
      show own_End p e below s _ _ _ (TJ.setTop (mkF m 439 #[.val (.long p1), .second, .val (.int p2), .val (.int p3), .val (.int p4), .val (.long p5), .second, .val (.int kk83), .val (.int sg84), .val (.int ax85), .val (.int un), .val (.long uq86), .second, .val (.long r087), .second, .val (.ref tb), .val (.int fm), .val (.int nv), .val (.int (0 : Int32)), .val (.int (1 : Int32)), .val (.int cc132), .unset, .unset, .unset, .unset, .unset, .unset] []))
      refine own_go (fun t k => XS.iload XJ.here hx rfl (hb hby at_439) rfl k) ?_
      show own_End p e below s _ _ _ (TJ.setTop (mkF m 441 #[.val (.long p1), .second, .val (.int p2), .val (.int p3), .val (.int p4), .val (.long p5), .second, .val (.int kk83), .val (.int sg84), .val (.int ax85), .val (.int un), .val (.long uq86), .second, .val (.long r087), .second, .val (.ref tb), .val (.int fm), .val (.int nv), .val (.int (0 : Int32)), .val (.int (1 : Int32)), .val (.int cc132), .unset, .unset, .unset, .unset, .unset, .unset] [(.int (1 : Int32))]))
      refine own_go (fun t k => XS.ifNo XJ.here hx rfl (hb hby at_441) rfl rfl k) ?_
      show own_End p e below s _ _ _ (TJ.setTop (mkF m 444 #[.val (.long p1), .second, .val (.int p2), .val (.int p3), .val (.int p4), .val (.long p5), .second, .val (.int kk83), .val (.int sg84), .val (.int ax85), .val (.int un), .val (.long uq86), .second, .val (.long r087), .second, .val (.ref tb), .val (.int fm), .val (.int nv), .val (.int (0 : Int32)), .val (.int (1 : Int32)), .val (.int cc132), .unset, .unset, .unset, .unset, .unset, .unset] []))
      refine own_go (fun t k => XS.iload XJ.here hx rfl (hb hby at_444) rfl k) ?_
      show own_End p e below s _ _ _ (TJ.setTop (mkF m 446 #[.val (.long p1), .second, .val (.int p2), .val (.int p3), .val (.int p4), .val (.long p5), .second, .val (.int kk83), .val (.int sg84), .val (.int ax85), .val (.int un), .val (.long uq86), .second, .val (.long r087), .second, .val (.ref tb), .val (.int fm), .val (.int nv), .val (.int (0 : Int32)), .val (.int (1 : Int32)), .val (.int cc132), .unset, .unset, .unset, .unset, .unset, .unset] [(.int kk83)]))
      by_cases qk : kk83.toInt ≤ 0
      ·
        refine own_go (fun t k => XS.ifYes XJ.here hx rfl (pc0 := 446) (pc' := 537) rfl (hb hby at_446) rfl (own_0 (own_leY (k := 0) rfl qk)) (by decide) (by decide) k) ?_
        show own_End p e below s _ _ _ (TJ.setTop (mkF m 537 #[.val (.long p1), .second, .val (.int p2), .val (.int p3), .val (.int p4), .val (.long p5), .second, .val (.int kk83), .val (.int sg84), .val (.int ax85), .val (.int un), .val (.long uq86), .second, .val (.long r087), .second, .val (.ref tb), .val (.int fm), .val (.int nv), .val (.int (0 : Int32)), .val (.int (1 : Int32)), .val (.int cc132), .unset, .unset, .unset, .unset, .unset, .unset] []))
        exact J537 TJ _ hJ tb kt g fr fm nv 0 (.val (.int (1 : Int32))) (.val (.int cc132)) (.unset) (.unset) (.unset) (XJ.more (by decide) (by decide)) eJ NJ ZJ ntb VJ hfm hf22 hnv (One.val rfl) (One.val rfl) One.u (Or.inl rfl) (Or.inl rfl) (Or.inr ⟨rfl, hdg, hi0, hsn⟩)
      refine own_go (fun t k => XS.ifNo XJ.here hx rfl (hb hby at_446) rfl (own_0 (own_leN (k := 0) rfl qk)) k) ?_
      show own_End p e below s _ _ _ (TJ.setTop (mkF m 449 #[.val (.long p1), .second, .val (.int p2), .val (.int p3), .val (.int p4), .val (.long p5), .second, .val (.int kk83), .val (.int sg84), .val (.int ax85), .val (.int un), .val (.long uq86), .second, .val (.long r087), .second, .val (.ref tb), .val (.int fm), .val (.int nv), .val (.int (0 : Int32)), .val (.int (1 : Int32)), .val (.int cc132), .unset, .unset, .unset, .unset, .unset, .unset] []))
      refine own_go (fun t k => XS.bipush XJ.here hx rfl (hb hby at_449) k) ?_
      show own_End p e below s _ _ _ (TJ.setTop (mkF m 451 #[.val (.long p1), .second, .val (.int p2), .val (.int p3), .val (.int p4), .val (.long p5), .second, .val (.int kk83), .val (.int sg84), .val (.int ax85), .val (.int un), .val (.long uq86), .second, .val (.long r087), .second, .val (.ref tb), .val (.int fm), .val (.int nv), .val (.int (0 : Int32)), .val (.int (1 : Int32)), .val (.int cc132), .unset, .unset, .unset, .unset, .unset, .unset] [(.int (22 : Int32))]))
      refine own_go (fun t k => XS.iload XJ.here hx rfl (hb hby at_451) rfl k) ?_
      show own_End p e below s _ _ _ (TJ.setTop (mkF m 453 #[.val (.long p1), .second, .val (.int p2), .val (.int p3), .val (.int p4), .val (.long p5), .second, .val (.int kk83), .val (.int sg84), .val (.int ax85), .val (.int un), .val (.long uq86), .second, .val (.long r087), .second, .val (.ref tb), .val (.int fm), .val (.int nv), .val (.int (0 : Int32)), .val (.int (1 : Int32)), .val (.int cc132), .unset, .unset, .unset, .unset, .unset, .unset] [(.int kk83), (.int (22 : Int32))]))
      refine own_go (fun t k => XS.isub XJ.here hx rfl (hb hby at_453) rfl k) ?_
      show own_End p e below s _ _ _ (TJ.setTop (mkF m 454 #[.val (.long p1), .second, .val (.int p2), .val (.int p3), .val (.int p4), .val (.long p5), .second, .val (.int kk83), .val (.int sg84), .val (.int ax85), .val (.int un), .val (.long uq86), .second, .val (.long r087), .second, .val (.ref tb), .val (.int fm), .val (.int nv), .val (.int (0 : Int32)), .val (.int (1 : Int32)), .val (.int cc132), .unset, .unset, .unset, .unset, .unset, .unset] [(.int ((22 : Int32) - kk83))]))
      refine own_go (fun t k => XS.iload XJ.here hx rfl (hb hby at_454) rfl k) ?_
      show own_End p e below s _ _ _ (TJ.setTop (mkF m 456 #[.val (.long p1), .second, .val (.int p2), .val (.int p3), .val (.int p4), .val (.long p5), .second, .val (.int kk83), .val (.int sg84), .val (.int ax85), .val (.int un), .val (.long uq86), .second, .val (.long r087), .second, .val (.ref tb), .val (.int fm), .val (.int nv), .val (.int (0 : Int32)), .val (.int (1 : Int32)), .val (.int cc132), .unset, .unset, .unset, .unset, .unset, .unset] [(.int p4), (.int ((22 : Int32) - kk83))]))
      refine own_go (fun t k => XS.bipush XJ.here hx rfl (hb hby at_456) k) ?_
      show own_End p e below s _ _ _ (TJ.setTop (mkF m 458 #[.val (.long p1), .second, .val (.int p2), .val (.int p3), .val (.int p4), .val (.long p5), .second, .val (.int kk83), .val (.int sg84), .val (.int ax85), .val (.int un), .val (.long uq86), .second, .val (.long r087), .second, .val (.ref tb), .val (.int fm), .val (.int nv), .val (.int (0 : Int32)), .val (.int (1 : Int32)), .val (.int cc132), .unset, .unset, .unset, .unset, .unset, .unset] [(.int (17 : Int32)), (.int p4), (.int ((22 : Int32) - kk83))]))
      refine own_go (fun t k => XT.iushr XJ.here hx rfl (hb hby at_458) rfl k) ?_
      show own_End p e below s _ _ _ (TJ.setTop (mkF m 459 #[.val (.long p1), .second, .val (.int p2), .val (.int p3), .val (.int p4), .val (.long p5), .second, .val (.int kk83), .val (.int sg84), .val (.int ax85), .val (.int un), .val (.long uq86), .second, .val (.long r087), .second, .val (.ref tb), .val (.int fm), .val (.int nv), .val (.int (0 : Int32)), .val (.int (1 : Int32)), .val (.int cc132), .unset, .unset, .unset, .unset, .unset, .unset] [(.int (XT.ushr p4 (17 : Int32))), (.int ((22 : Int32) - kk83))]))
      refine own_go (fun t k => XS.bipush XJ.here hx rfl (hb hby at_459) k) ?_
      show own_End p e below s _ _ _ (TJ.setTop (mkF m 461 #[.val (.long p1), .second, .val (.int p2), .val (.int p3), .val (.int p4), .val (.long p5), .second, .val (.int kk83), .val (.int sg84), .val (.int ax85), .val (.int un), .val (.long uq86), .second, .val (.long r087), .second, .val (.ref tb), .val (.int fm), .val (.int nv), .val (.int (0 : Int32)), .val (.int (1 : Int32)), .val (.int cc132), .unset, .unset, .unset, .unset, .unset, .unset] [(.int (31 : Int32)), (.int (XT.ushr p4 (17 : Int32))), (.int ((22 : Int32) - kk83))]))
      refine own_go (fun t k => XS.iand XJ.here hx rfl (hb hby at_461) rfl k) ?_
      show own_End p e below s _ _ _ (TJ.setTop (mkF m 462 #[.val (.long p1), .second, .val (.int p2), .val (.int p3), .val (.int p4), .val (.long p5), .second, .val (.int kk83), .val (.int sg84), .val (.int ax85), .val (.int un), .val (.long uq86), .second, .val (.long r087), .second, .val (.ref tb), .val (.int fm), .val (.int nv), .val (.int (0 : Int32)), .val (.int (1 : Int32)), .val (.int cc132), .unset, .unset, .unset, .unset, .unset, .unset] [(.int ((XT.ushr p4 (17 : Int32)) &&& (31 : Int32))), (.int ((22 : Int32) - kk83))]))
      refine own_go (fun t k => XS.iload XJ.here hx rfl (hb hby at_462) rfl k) ?_
      show own_End p e below s _ _ _ (TJ.setTop (mkF m 464 #[.val (.long p1), .second, .val (.int p2), .val (.int p3), .val (.int p4), .val (.long p5), .second, .val (.int kk83), .val (.int sg84), .val (.int ax85), .val (.int un), .val (.long uq86), .second, .val (.long r087), .second, .val (.ref tb), .val (.int fm), .val (.int nv), .val (.int (0 : Int32)), .val (.int (1 : Int32)), .val (.int cc132), .unset, .unset, .unset, .unset, .unset, .unset] [(.int kk83), (.int ((XT.ushr p4 (17 : Int32)) &&& (31 : Int32))), (.int ((22 : Int32) - kk83))]))
      have e0 : (0 : Int32).toInt = 0 := by decide
      have e22 : (22 : Int32).toInt = 22 := by decide
      have hrm := (c_iremV (XT.ushr p4 17 &&& (31 : Int32)) kk83).1 (c_and _ 31 (by decide)).1 (by omega)
      refine own_go (fun t k => XS.irem XJ.here hx rfl (hb hby at_464) rfl (fun z => by have := congrArg Int32.toInt z; omega) k) ?_
      show own_End p e below s _ _ _ (TJ.setTop (mkF m 465 #[.val (.long p1), .second, .val (.int p2), .val (.int p3), .val (.int p4), .val (.long p5), .second, .val (.int kk83), .val (.int sg84), .val (.int ax85), .val (.int un), .val (.long uq86), .second, .val (.long r087), .second, .val (.ref tb), .val (.int fm), .val (.int nv), .val (.int (0 : Int32)), .val (.int (1 : Int32)), .val (.int cc132), .unset, .unset, .unset, .unset, .unset, .unset] [(.int (((XT.ushr p4 (17 : Int32)) &&& (31 : Int32)) - (((XT.ushr p4 (17 : Int32)) &&& (31 : Int32)) / kk83) * kk83)), (.int ((22 : Int32) - kk83))]))
      rw [irem_eq_mod ((XT.ushr p4 (17 : Int32)) &&& (31 : Int32)) kk83]
      show own_End p e below s _ _ _ (TJ.setTop (mkF m 465 #[.val (.long p1), .second, .val (.int p2), .val (.int p3), .val (.int p4), .val (.long p5), .second, .val (.int kk83), .val (.int sg84), .val (.int ax85), .val (.int un), .val (.long uq86), .second, .val (.long r087), .second, .val (.ref tb), .val (.int fm), .val (.int nv), .val (.int (0 : Int32)), .val (.int (1 : Int32)), .val (.int cc132), .unset, .unset, .unset, .unset, .unset, .unset] [(.int (((XT.ushr p4 (17 : Int32)) &&& (31 : Int32)) % kk83)), (.int ((22 : Int32) - kk83))]))
      refine own_go (fun t k => XS.iadd XJ.here hx rfl (hb hby at_465) rfl k) ?_
      show own_End p e below s _ _ _ (TJ.setTop (mkF m 466 #[.val (.long p1), .second, .val (.int p2), .val (.int p3), .val (.int p4), .val (.long p5), .second, .val (.int kk83), .val (.int sg84), .val (.int ax85), .val (.int un), .val (.long uq86), .second, .val (.long r087), .second, .val (.ref tb), .val (.int fm), .val (.int nv), .val (.int (0 : Int32)), .val (.int (1 : Int32)), .val (.int cc132), .unset, .unset, .unset, .unset, .unset, .unset] [(.int (((22 : Int32) - kk83) + (((XT.ushr p4 (17 : Int32)) &&& (31 : Int32)) % kk83)))]))
      obtain ⟨po133, qpo133⟩ : ∃ z : Int32, z = (((22 : Int32) - kk83) + (((XT.ushr p4 (17 : Int32)) &&& (31 : Int32)) % kk83)) := ⟨_, rfl⟩
      rw [← qpo133]
      show own_End p e below s _ _ _ (TJ.setTop (mkF m 466 #[.val (.long p1), .second, .val (.int p2), .val (.int p3), .val (.int p4), .val (.long p5), .second, .val (.int kk83), .val (.int sg84), .val (.int ax85), .val (.int un), .val (.long uq86), .second, .val (.long r087), .second, .val (.ref tb), .val (.int fm), .val (.int nv), .val (.int (0 : Int32)), .val (.int (1 : Int32)), .val (.int cc132), .unset, .unset, .unset, .unset, .unset, .unset] [(.int po133)]))
      obtain ⟨pn, hpn, hp1, hp2⟩ : ∃ z : Nat, po133.toInt = z ∧ 22 - K ≤ z ∧ z < 22 := by
        have h1 := c_isub 22 kk83; have h2 := rng32 (22 - kk83); have h3 := c_iadd (22 - kk83) ((XT.ushr p4 17 &&& (31 : Int32)) % kk83); have h4 := rng32 ((22 - kk83) + ((XT.ushr p4 17 &&& (31 : Int32)) % kk83))
        rw [qpo133]; exact ⟨((22 - kk83) + ((XT.ushr p4 17 &&& (31 : Int32)) % kk83)).toInt.toNat, by omega, by omega, by omega⟩
      refine own_go (fun t k => XS.istore XJ.here hx rfl (hb hby at_466) rfl (l' := #[.val (.long p1), .second, .val (.int p2), .val (.int p3), .val (.int p4), .val (.long p5), .second, .val (.int kk83), .val (.int sg84), .val (.int ax85), .val (.int un), .val (.long uq86), .second, .val (.long r087), .second, .val (.ref tb), .val (.int fm), .val (.int nv), .val (.int (0 : Int32)), .val (.int (1 : Int32)), .val (.int cc132), .val (.int po133), .unset, .unset, .unset, .unset, .unset]) rfl k) ?_
      show own_End p e below s _ _ _ (TJ.setTop (mkF m 468 #[.val (.long p1), .second, .val (.int p2), .val (.int p3), .val (.int p4), .val (.long p5), .second, .val (.int kk83), .val (.int sg84), .val (.int ax85), .val (.int un), .val (.long uq86), .second, .val (.long r087), .second, .val (.ref tb), .val (.int fm), .val (.int nv), .val (.int (0 : Int32)), .val (.int (1 : Int32)), .val (.int cc132), .val (.int po133), .unset, .unset, .unset, .unset, .unset] []))
      refine own_join (fun G => ∀ zz : Int32, ((zz = 1 ∧ (48 ≤ cc132.toInt ∧ cc132.toInt ≤ 57)) ∨ (zz = 0 ∧ ¬ (48 ≤ cc132.toInt ∧ cc132.toInt ≤ 57))) → G (TJ.setTop (mkF m 487 #[.val (.long p1), .second, .val (.int p2), .val (.int p3), .val (.int p4), .val (.long p5), .second, .val (.int kk83), .val (.int sg84), .val (.int ax85), .val (.int un), .val (.long uq86), .second, .val (.long r087), .second, .val (.ref tb), .val (.int fm), .val (.int nv), .val (.int (0 : Int32)), .val (.int (1 : Int32)), .val (.int cc132), .val (.int po133), .unset, .unset, .unset, .unset, .unset] [(.int zz)]))) ?_ ?_
      ·
        intro z22 hz22
        show own_End p e below s _ _ _ (TJ.setTop (mkF m 487 #[.val (.long p1), .second, .val (.int p2), .val (.int p3), .val (.int p4), .val (.long p5), .second, .val (.int kk83), .val (.int sg84), .val (.int ax85), .val (.int un), .val (.long uq86), .second, .val (.long r087), .second, .val (.ref tb), .val (.int fm), .val (.int nv), .val (.int (0 : Int32)), .val (.int (1 : Int32)), .val (.int cc132), .val (.int po133), .unset, .unset, .unset, .unset, .unset] [(.int z22)]))
        refine own_go (fun t k => XS.istore XJ.here hx rfl (hb hby at_487) rfl (l' := #[.val (.long p1), .second, .val (.int p2), .val (.int p3), .val (.int p4), .val (.long p5), .second, .val (.int kk83), .val (.int sg84), .val (.int ax85), .val (.int un), .val (.long uq86), .second, .val (.long r087), .second, .val (.ref tb), .val (.int fm), .val (.int nv), .val (.int (0 : Int32)), .val (.int (1 : Int32)), .val (.int cc132), .val (.int po133), .val (.int z22), .unset, .unset, .unset, .unset]) rfl k) ?_
        show own_End p e below s _ _ _ (TJ.setTop (mkF m 489 #[.val (.long p1), .second, .val (.int p2), .val (.int p3), .val (.int p4), .val (.long p5), .second, .val (.int kk83), .val (.int sg84), .val (.int ax85), .val (.int un), .val (.long uq86), .second, .val (.long r087), .second, .val (.ref tb), .val (.int fm), .val (.int nv), .val (.int (0 : Int32)), .val (.int (1 : Int32)), .val (.int cc132), .val (.int po133), .val (.int z22), .unset, .unset, .unset, .unset] []))
        refine own_go (fun t k => XS.iload XJ.here hx rfl (hb hby at_489) rfl k) ?_
        show own_End p e below s _ _ _ (TJ.setTop (mkF m 491 #[.val (.long p1), .second, .val (.int p2), .val (.int p3), .val (.int p4), .val (.long p5), .second, .val (.int kk83), .val (.int sg84), .val (.int ax85), .val (.int un), .val (.long uq86), .second, .val (.long r087), .second, .val (.ref tb), .val (.int fm), .val (.int nv), .val (.int (0 : Int32)), .val (.int (1 : Int32)), .val (.int cc132), .val (.int po133), .val (.int z22), .unset, .unset, .unset, .unset] [(.int po133)]))
        refine own_go (fun t k => XS.iload XJ.here hx rfl (hb hby at_491) rfl k) ?_
        show own_End p e below s _ _ _ (TJ.setTop (mkF m 493 #[.val (.long p1), .second, .val (.int p2), .val (.int p3), .val (.int p4), .val (.long p5), .second, .val (.int kk83), .val (.int sg84), .val (.int ax85), .val (.int un), .val (.long uq86), .second, .val (.long r087), .second, .val (.ref tb), .val (.int fm), .val (.int nv), .val (.int (0 : Int32)), .val (.int (1 : Int32)), .val (.int cc132), .val (.int po133), .val (.int z22), .unset, .unset, .unset, .unset] [(.int fm), (.int po133)]))
        refine own_join (fun G => ∀ zz : Int32, ((zz = 1 ∧ (po133.toInt = fm.toInt ∧ (cc132.toInt = 43 ∨ cc132.toInt = 45))) ∨ (zz = 0 ∧ ¬ (po133.toInt = fm.toInt ∧ (cc132.toInt = 43 ∨ cc132.toInt = 45)))) → G (TJ.setTop (mkF m 515 #[.val (.long p1), .second, .val (.int p2), .val (.int p3), .val (.int p4), .val (.long p5), .second, .val (.int kk83), .val (.int sg84), .val (.int ax85), .val (.int un), .val (.long uq86), .second, .val (.long r087), .second, .val (.ref tb), .val (.int fm), .val (.int nv), .val (.int (0 : Int32)), .val (.int (1 : Int32)), .val (.int cc132), .val (.int po133), .val (.int z22), .unset, .unset, .unset, .unset] [(.int zz)]))) ?_ ?_
        ·
          intro z23 hz23
          show own_End p e below s _ _ _ (TJ.setTop (mkF m 515 #[.val (.long p1), .second, .val (.int p2), .val (.int p3), .val (.int p4), .val (.long p5), .second, .val (.int kk83), .val (.int sg84), .val (.int ax85), .val (.int un), .val (.long uq86), .second, .val (.long r087), .second, .val (.ref tb), .val (.int fm), .val (.int nv), .val (.int (0 : Int32)), .val (.int (1 : Int32)), .val (.int cc132), .val (.int po133), .val (.int z22), .unset, .unset, .unset, .unset] [(.int z23)]))
          refine own_go (fun t k => XS.istore XJ.here hx rfl (hb hby at_515) rfl (l' := #[.val (.long p1), .second, .val (.int p2), .val (.int p3), .val (.int p4), .val (.long p5), .second, .val (.int kk83), .val (.int sg84), .val (.int ax85), .val (.int un), .val (.long uq86), .second, .val (.long r087), .second, .val (.ref tb), .val (.int fm), .val (.int nv), .val (.int (0 : Int32)), .val (.int (1 : Int32)), .val (.int cc132), .val (.int po133), .val (.int z22), .val (.int z23), .unset, .unset, .unset]) rfl k) ?_
          show own_End p e below s _ _ _ (TJ.setTop (mkF m 517 #[.val (.long p1), .second, .val (.int p2), .val (.int p3), .val (.int p4), .val (.long p5), .second, .val (.int kk83), .val (.int sg84), .val (.int ax85), .val (.int un), .val (.long uq86), .second, .val (.long r087), .second, .val (.ref tb), .val (.int fm), .val (.int nv), .val (.int (0 : Int32)), .val (.int (1 : Int32)), .val (.int cc132), .val (.int po133), .val (.int z22), .val (.int z23), .unset, .unset, .unset] []))
          refine own_go (fun t k => XS.iload XJ.here hx rfl (hb hby at_517) rfl k) ?_
          show own_End p e below s _ _ _ (TJ.setTop (mkF m 519 #[.val (.long p1), .second, .val (.int p2), .val (.int p3), .val (.int p4), .val (.long p5), .second, .val (.int kk83), .val (.int sg84), .val (.int ax85), .val (.int un), .val (.long uq86), .second, .val (.long r087), .second, .val (.ref tb), .val (.int fm), .val (.int nv), .val (.int (0 : Int32)), .val (.int (1 : Int32)), .val (.int cc132), .val (.int po133), .val (.int z22), .val (.int z23), .unset, .unset, .unset] [(.int z22)]))
          by_cases qx : ¬ z22.toInt = 0
          ·
            refine own_go (fun t k => XS.ifYes XJ.here hx rfl (pc0 := 519) (pc' := 537) rfl (hb hby at_519) rfl (own_0 (own_neY (k := 0) rfl qx)) (by decide) (by decide) k) ?_
            show own_End p e below s _ _ _ (TJ.setTop (mkF m 537 #[.val (.long p1), .second, .val (.int p2), .val (.int p3), .val (.int p4), .val (.long p5), .second, .val (.int kk83), .val (.int sg84), .val (.int ax85), .val (.int un), .val (.long uq86), .second, .val (.long r087), .second, .val (.ref tb), .val (.int fm), .val (.int nv), .val (.int (0 : Int32)), .val (.int (1 : Int32)), .val (.int cc132), .val (.int po133), .val (.int z22), .val (.int z23), .unset, .unset, .unset] []))
            exact J537 TJ _ hJ tb kt g fr fm nv 0 (.val (.int (1 : Int32))) (.val (.int cc132)) (.val (.int po133)) (.val (.int z22)) (.val (.int z23)) (XJ.more (by decide) (by decide)) eJ NJ ZJ ntb VJ hfm hf22 hnv (One.val rfl) (One.val rfl) (One.val rfl) (Or.inr ⟨_, rfl⟩) (Or.inr ⟨_, rfl⟩) (Or.inr ⟨rfl, hdg, hi0, hsn⟩)
          refine own_go (fun t k => XS.ifNo XJ.here hx rfl (hb hby at_519) rfl (own_0 (own_neN (k := 0) rfl qx)) k) ?_
          show own_End p e below s _ _ _ (TJ.setTop (mkF m 522 #[.val (.long p1), .second, .val (.int p2), .val (.int p3), .val (.int p4), .val (.long p5), .second, .val (.int kk83), .val (.int sg84), .val (.int ax85), .val (.int un), .val (.long uq86), .second, .val (.long r087), .second, .val (.ref tb), .val (.int fm), .val (.int nv), .val (.int (0 : Int32)), .val (.int (1 : Int32)), .val (.int cc132), .val (.int po133), .val (.int z22), .val (.int z23), .unset, .unset, .unset] []))
          refine own_go (fun t k => XS.iload XJ.here hx rfl (hb hby at_522) rfl k) ?_
          show own_End p e below s _ _ _ (TJ.setTop (mkF m 524 #[.val (.long p1), .second, .val (.int p2), .val (.int p3), .val (.int p4), .val (.long p5), .second, .val (.int kk83), .val (.int sg84), .val (.int ax85), .val (.int un), .val (.long uq86), .second, .val (.long r087), .second, .val (.ref tb), .val (.int fm), .val (.int nv), .val (.int (0 : Int32)), .val (.int (1 : Int32)), .val (.int cc132), .val (.int po133), .val (.int z22), .val (.int z23), .unset, .unset, .unset] [(.int z23)]))
          by_cases qy : ¬ z23.toInt = 0
          ·
            refine own_go (fun t k => XS.ifYes XJ.here hx rfl (pc0 := 524) (pc' := 537) rfl (hb hby at_524) rfl (own_0 (own_neY (k := 0) rfl qy)) (by decide) (by decide) k) ?_
            show own_End p e below s _ _ _ (TJ.setTop (mkF m 537 #[.val (.long p1), .second, .val (.int p2), .val (.int p3), .val (.int p4), .val (.long p5), .second, .val (.int kk83), .val (.int sg84), .val (.int ax85), .val (.int un), .val (.long uq86), .second, .val (.long r087), .second, .val (.ref tb), .val (.int fm), .val (.int nv), .val (.int (0 : Int32)), .val (.int (1 : Int32)), .val (.int cc132), .val (.int po133), .val (.int z22), .val (.int z23), .unset, .unset, .unset] []))
            exact J537 TJ _ hJ tb kt g fr fm nv 0 (.val (.int (1 : Int32))) (.val (.int cc132)) (.val (.int po133)) (.val (.int z22)) (.val (.int z23)) (XJ.more (by decide) (by decide)) eJ NJ ZJ ntb VJ hfm hf22 hnv (One.val rfl) (One.val rfl) (One.val rfl) (Or.inr ⟨_, rfl⟩) (Or.inr ⟨_, rfl⟩) (Or.inr ⟨rfl, hdg, hi0, hsn⟩)
          refine own_go (fun t k => XS.ifNo XJ.here hx rfl (hb hby at_524) rfl (own_0 (own_neN (k := 0) rfl qy)) k) ?_
          show own_End p e below s _ _ _ (TJ.setTop (mkF m 527 #[.val (.long p1), .second, .val (.int p2), .val (.int p3), .val (.int p4), .val (.long p5), .second, .val (.int kk83), .val (.int sg84), .val (.int ax85), .val (.int un), .val (.long uq86), .second, .val (.long r087), .second, .val (.ref tb), .val (.int fm), .val (.int nv), .val (.int (0 : Int32)), .val (.int (1 : Int32)), .val (.int cc132), .val (.int po133), .val (.int z22), .val (.int z23), .unset, .unset, .unset] []))
          have hnd : ¬ (48 ≤ cc132.toInt ∧ cc132.toInt ≤ 57) := by rcases hz22 with ⟨q, -⟩ | ⟨-, q⟩; rw [q] at qx; exact absurd (by decide) qx; exact q
          have hnb : ¬ (po133.toInt = fm.toInt ∧ (cc132.toInt = 43 ∨ cc132.toInt = 45)) := by rcases hz23 with ⟨q, -⟩ | ⟨-, q⟩; rw [q] at qy; exact absurd (by decide) qy; exact q
          refine own_go (fun t k => XS.aload XJ.here hx rfl (hb hby at_527) rfl rfl k) ?_
          show own_End p e below s _ _ _ (TJ.setTop (mkF m 529 #[.val (.long p1), .second, .val (.int p2), .val (.int p3), .val (.int p4), .val (.long p5), .second, .val (.int kk83), .val (.int sg84), .val (.int ax85), .val (.int un), .val (.long uq86), .second, .val (.long r087), .second, .val (.ref tb), .val (.int fm), .val (.int nv), .val (.int (0 : Int32)), .val (.int (1 : Int32)), .val (.int cc132), .val (.int po133), .val (.int z22), .val (.int z23), .unset, .unset, .unset] [(.ref tb)]))
          refine own_go (fun t k => XS.iload XJ.here hx rfl (hb hby at_529) rfl k) ?_
          show own_End p e below s _ _ _ (TJ.setTop (mkF m 531 #[.val (.long p1), .second, .val (.int p2), .val (.int p3), .val (.int p4), .val (.long p5), .second, .val (.int kk83), .val (.int sg84), .val (.int ax85), .val (.int un), .val (.long uq86), .second, .val (.long r087), .second, .val (.ref tb), .val (.int fm), .val (.int nv), .val (.int (0 : Int32)), .val (.int (1 : Int32)), .val (.int cc132), .val (.int po133), .val (.int z22), .val (.int z23), .unset, .unset, .unset] [(.int po133), (.ref tb)]))
          refine own_go (fun t k => XS.iload XJ.here hx rfl (hb hby at_531) rfl k) ?_
          show own_End p e below s _ _ _ (TJ.setTop (mkF m 533 #[.val (.long p1), .second, .val (.int p2), .val (.int p3), .val (.int p4), .val (.long p5), .second, .val (.int kk83), .val (.int sg84), .val (.int ax85), .val (.int un), .val (.long uq86), .second, .val (.long r087), .second, .val (.ref tb), .val (.int fm), .val (.int nv), .val (.int (0 : Int32)), .val (.int (1 : Int32)), .val (.int cc132), .val (.int po133), .val (.int z22), .val (.int z23), .unset, .unset, .unset] [(.int cc132), (.int po133), (.ref tb)]))
          obtain ⟨T134, h134, X134, e134, W134, F134, st134⟩ := own_fstC XJ hx hZ eJ VJ (j := po133) (x := cc132) pn hpn (by omega) (pc := 533) (Ls := #[.val (.long p1), .second, .val (.int p2), .val (.int p3), .val (.int p4), .val (.long p5), .second, .val (.int kk83), .val (.int sg84), .val (.int ax85), .val (.int un), .val (.long uq86), .second, .val (.long r087), .second, .val (.ref tb), .val (.int fm), .val (.int nv), .val (.int (0 : Int32)), .val (.int (1 : Int32)), .val (.int cc132), .val (.int po133), .val (.int z22), .val (.int z23), .unset, .unset, .unset]) (rest := []) (hb hby at_533)
          have N134 := Fr.snoc X134 NJ ntb
          have Z134 : n0 ≤ h134.size := by rw [W134.size]; exact ZJ
          refine own_go st134 ?_
          show own_End p e below s _ _ _ (T134.setTop (mkF m 534 #[.val (.long p1), .second, .val (.int p2), .val (.int p3), .val (.int p4), .val (.long p5), .second, .val (.int kk83), .val (.int sg84), .val (.int ax85), .val (.int un), .val (.long uq86), .second, .val (.long r087), .second, .val (.ref tb), .val (.int fm), .val (.int nv), .val (.int (0 : Int32)), .val (.int (1 : Int32)), .val (.int cc132), .val (.int po133), .val (.int z22), .val (.int z23), .unset, .unset, .unset] []))
          have hcn : nar .char cc132 = cc132 := own_nar rcc.1 rcc.2
          have f136 := own_F.cong F134 (g := fun i => .int ((fun i => if i = pn then cc132 else g i) i)) (fun i hi => by rw [own_up_g, hcn])
          refine own_go (fun t k => XS.iconst X134.here hx rfl (hb hby at_534) k) ?_
          show own_End p e below s _ _ _ (T134.setTop (mkF m 535 #[.val (.long p1), .second, .val (.int p2), .val (.int p3), .val (.int p4), .val (.long p5), .second, .val (.int kk83), .val (.int sg84), .val (.int ax85), .val (.int un), .val (.long uq86), .second, .val (.long r087), .second, .val (.ref tb), .val (.int fm), .val (.int nv), .val (.int (0 : Int32)), .val (.int (1 : Int32)), .val (.int cc132), .val (.int po133), .val (.int z22), .val (.int z23), .unset, .unset, .unset] [(.int (1 : Int32))]))
          refine own_go (fun t k => XS.istore X134.here hx rfl (hb hby at_535) rfl (l' := #[.val (.long p1), .second, .val (.int p2), .val (.int p3), .val (.int p4), .val (.long p5), .second, .val (.int kk83), .val (.int sg84), .val (.int ax85), .val (.int un), .val (.long uq86), .second, .val (.long r087), .second, .val (.ref tb), .val (.int fm), .val (.int nv), .val (.int (1 : Int32)), .val (.int (1 : Int32)), .val (.int cc132), .val (.int po133), .val (.int z22), .val (.int z23), .unset, .unset, .unset]) rfl k) ?_
          show own_End p e below s _ _ _ (T134.setTop (mkF m 537 #[.val (.long p1), .second, .val (.int p2), .val (.int p3), .val (.int p4), .val (.long p5), .second, .val (.int kk83), .val (.int sg84), .val (.int ax85), .val (.int un), .val (.long uq86), .second, .val (.long r087), .second, .val (.ref tb), .val (.int fm), .val (.int nv), .val (.int (1 : Int32)), .val (.int (1 : Int32)), .val (.int cc132), .val (.int po133), .val (.int z22), .val (.int z23), .unset, .unset, .unset] []))
          have hbad : ¬ own_ok (fun i => if i = pn then cc132 else g i) fr := by
            refine own_noB (p := pn) ?_ hp2 (fun q => hnd (by simpa [own_dig] using q))
            unfold own_i0
            by_cases hpf : fr = pn
            · subst hpf
              rw [if_neg (fun q => hnb ⟨by omega, by have := q.2; simp only [if_true] at this; omega⟩)]
              exact Nat.le_refl _
            · simp only [if_neg hpf]
              unfold own_i0 at hi0
              omega
          exact J537 T134 _ h134 tb kt _ fr fm nv 1 (.val (.int (1 : Int32))) (.val (.int cc132)) (.val (.int po133)) (.val (.int z22)) (.val (.int z23)) (X134.more (by decide) (by decide)) e134 N134 Z134 ntb f136 hfm hf22 hnv (One.val rfl) (One.val rfl) (One.val rfl) (Or.inr ⟨_, rfl⟩) (Or.inr ⟨_, rfl⟩) (Or.inl ⟨rfl, hbad⟩)
        intro J515
        show own_End p e below s _ _ _ (TJ.setTop (mkF m 493 #[.val (.long p1), .second, .val (.int p2), .val (.int p3), .val (.int p4), .val (.long p5), .second, .val (.int kk83), .val (.int sg84), .val (.int ax85), .val (.int un), .val (.long uq86), .second, .val (.long r087), .second, .val (.ref tb), .val (.int fm), .val (.int nv), .val (.int (0 : Int32)), .val (.int (1 : Int32)), .val (.int cc132), .val (.int po133), .val (.int z22), .unset, .unset, .unset, .unset] [(.int fm), (.int po133)]))
        by_cases qp : ¬ po133.toInt = fm.toInt
        ·
          refine own_go (fun t k => XS.icmpYes XJ.here hx rfl (pc0 := 493) (pc' := 514) rfl (hb hby at_493) rfl (own_neY rfl qp) (by decide) (by decide) k) ?_
          show own_End p e below s _ _ _ (TJ.setTop (mkF m 514 #[.val (.long p1), .second, .val (.int p2), .val (.int p3), .val (.int p4), .val (.long p5), .second, .val (.int kk83), .val (.int sg84), .val (.int ax85), .val (.int un), .val (.long uq86), .second, .val (.long r087), .second, .val (.ref tb), .val (.int fm), .val (.int nv), .val (.int (0 : Int32)), .val (.int (1 : Int32)), .val (.int cc132), .val (.int po133), .val (.int z22), .unset, .unset, .unset, .unset] []))
          refine own_go (fun t k => XS.iconst XJ.here hx rfl (hb hby at_514) k) ?_
          show own_End p e below s _ _ _ (TJ.setTop (mkF m 515 #[.val (.long p1), .second, .val (.int p2), .val (.int p3), .val (.int p4), .val (.long p5), .second, .val (.int kk83), .val (.int sg84), .val (.int ax85), .val (.int un), .val (.long uq86), .second, .val (.long r087), .second, .val (.ref tb), .val (.int fm), .val (.int nv), .val (.int (0 : Int32)), .val (.int (1 : Int32)), .val (.int cc132), .val (.int po133), .val (.int z22), .unset, .unset, .unset, .unset] [(.int (0 : Int32))]))
          exact J515 _ (Or.inr ⟨rfl, fun q => qp q.1⟩)
        refine own_go (fun t k => XS.icmpNo XJ.here hx rfl (hb hby at_493) rfl (own_neN rfl qp) k) ?_
        show own_End p e below s _ _ _ (TJ.setTop (mkF m 496 #[.val (.long p1), .second, .val (.int p2), .val (.int p3), .val (.int p4), .val (.long p5), .second, .val (.int kk83), .val (.int sg84), .val (.int ax85), .val (.int un), .val (.long uq86), .second, .val (.long r087), .second, .val (.ref tb), .val (.int fm), .val (.int nv), .val (.int (0 : Int32)), .val (.int (1 : Int32)), .val (.int cc132), .val (.int po133), .val (.int z22), .unset, .unset, .unset, .unset] []))
        have qp' : po133.toInt = fm.toInt := Decidable.not_not.mp qp
        refine own_go (fun t k => XS.iload XJ.here hx rfl (hb hby at_496) rfl k) ?_
        show own_End p e below s _ _ _ (TJ.setTop (mkF m 498 #[.val (.long p1), .second, .val (.int p2), .val (.int p3), .val (.int p4), .val (.long p5), .second, .val (.int kk83), .val (.int sg84), .val (.int ax85), .val (.int un), .val (.long uq86), .second, .val (.long r087), .second, .val (.ref tb), .val (.int fm), .val (.int nv), .val (.int (0 : Int32)), .val (.int (1 : Int32)), .val (.int cc132), .val (.int po133), .val (.int z22), .unset, .unset, .unset, .unset] [(.int cc132)]))
        refine own_go (fun t k => XS.bipush XJ.here hx rfl (hb hby at_498) k) ?_
        show own_End p e below s _ _ _ (TJ.setTop (mkF m 500 #[.val (.long p1), .second, .val (.int p2), .val (.int p3), .val (.int p4), .val (.long p5), .second, .val (.int kk83), .val (.int sg84), .val (.int ax85), .val (.int un), .val (.long uq86), .second, .val (.long r087), .second, .val (.ref tb), .val (.int fm), .val (.int nv), .val (.int (0 : Int32)), .val (.int (1 : Int32)), .val (.int cc132), .val (.int po133), .val (.int z22), .unset, .unset, .unset, .unset] [(.int (43 : Int32)), (.int cc132)]))
        by_cases qq : cc132.toInt = 43
        ·
          refine own_go (fun t k => XS.icmpYes XJ.here hx rfl (pc0 := 500) (pc' := 510) rfl (hb hby at_500) rfl (own_eqY (k := 43) (by decide) qq) (by decide) (by decide) k) ?_
          show own_End p e below s _ _ _ (TJ.setTop (mkF m 510 #[.val (.long p1), .second, .val (.int p2), .val (.int p3), .val (.int p4), .val (.long p5), .second, .val (.int kk83), .val (.int sg84), .val (.int ax85), .val (.int un), .val (.long uq86), .second, .val (.long r087), .second, .val (.ref tb), .val (.int fm), .val (.int nv), .val (.int (0 : Int32)), .val (.int (1 : Int32)), .val (.int cc132), .val (.int po133), .val (.int z22), .unset, .unset, .unset, .unset] []))
          refine own_go (fun t k => XS.iconst XJ.here hx rfl (hb hby at_510) k) ?_
          show own_End p e below s _ _ _ (TJ.setTop (mkF m 511 #[.val (.long p1), .second, .val (.int p2), .val (.int p3), .val (.int p4), .val (.long p5), .second, .val (.int kk83), .val (.int sg84), .val (.int ax85), .val (.int un), .val (.long uq86), .second, .val (.long r087), .second, .val (.ref tb), .val (.int fm), .val (.int nv), .val (.int (0 : Int32)), .val (.int (1 : Int32)), .val (.int cc132), .val (.int po133), .val (.int z22), .unset, .unset, .unset, .unset] [(.int (1 : Int32))]))
          refine own_go (fun t k => XS.goto XJ.here hx rfl (pc0 := 511) (pc' := 515) rfl (hb hby at_511) (by decide) (by decide) k) ?_
          show own_End p e below s _ _ _ (TJ.setTop (mkF m 515 #[.val (.long p1), .second, .val (.int p2), .val (.int p3), .val (.int p4), .val (.long p5), .second, .val (.int kk83), .val (.int sg84), .val (.int ax85), .val (.int un), .val (.long uq86), .second, .val (.long r087), .second, .val (.ref tb), .val (.int fm), .val (.int nv), .val (.int (0 : Int32)), .val (.int (1 : Int32)), .val (.int cc132), .val (.int po133), .val (.int z22), .unset, .unset, .unset, .unset] [(.int (1 : Int32))]))
          exact J515 _ (Or.inl ⟨rfl, qp', Or.inl qq⟩)
        refine own_go (fun t k => XS.icmpNo XJ.here hx rfl (hb hby at_500) rfl (own_eqN (k := 43) (by decide) qq) k) ?_
        show own_End p e below s _ _ _ (TJ.setTop (mkF m 503 #[.val (.long p1), .second, .val (.int p2), .val (.int p3), .val (.int p4), .val (.long p5), .second, .val (.int kk83), .val (.int sg84), .val (.int ax85), .val (.int un), .val (.long uq86), .second, .val (.long r087), .second, .val (.ref tb), .val (.int fm), .val (.int nv), .val (.int (0 : Int32)), .val (.int (1 : Int32)), .val (.int cc132), .val (.int po133), .val (.int z22), .unset, .unset, .unset, .unset] []))
        refine own_go (fun t k => XS.iload XJ.here hx rfl (hb hby at_503) rfl k) ?_
        show own_End p e below s _ _ _ (TJ.setTop (mkF m 505 #[.val (.long p1), .second, .val (.int p2), .val (.int p3), .val (.int p4), .val (.long p5), .second, .val (.int kk83), .val (.int sg84), .val (.int ax85), .val (.int un), .val (.long uq86), .second, .val (.long r087), .second, .val (.ref tb), .val (.int fm), .val (.int nv), .val (.int (0 : Int32)), .val (.int (1 : Int32)), .val (.int cc132), .val (.int po133), .val (.int z22), .unset, .unset, .unset, .unset] [(.int cc132)]))
        refine own_go (fun t k => XS.bipush XJ.here hx rfl (hb hby at_505) k) ?_
        show own_End p e below s _ _ _ (TJ.setTop (mkF m 507 #[.val (.long p1), .second, .val (.int p2), .val (.int p3), .val (.int p4), .val (.long p5), .second, .val (.int kk83), .val (.int sg84), .val (.int ax85), .val (.int un), .val (.long uq86), .second, .val (.long r087), .second, .val (.ref tb), .val (.int fm), .val (.int nv), .val (.int (0 : Int32)), .val (.int (1 : Int32)), .val (.int cc132), .val (.int po133), .val (.int z22), .unset, .unset, .unset, .unset] [(.int (45 : Int32)), (.int cc132)]))
        by_cases qr : ¬ cc132.toInt = 45
        ·
          refine own_go (fun t k => XS.icmpYes XJ.here hx rfl (pc0 := 507) (pc' := 514) rfl (hb hby at_507) rfl (own_neY (k := 45) (by decide) qr) (by decide) (by decide) k) ?_
          show own_End p e below s _ _ _ (TJ.setTop (mkF m 514 #[.val (.long p1), .second, .val (.int p2), .val (.int p3), .val (.int p4), .val (.long p5), .second, .val (.int kk83), .val (.int sg84), .val (.int ax85), .val (.int un), .val (.long uq86), .second, .val (.long r087), .second, .val (.ref tb), .val (.int fm), .val (.int nv), .val (.int (0 : Int32)), .val (.int (1 : Int32)), .val (.int cc132), .val (.int po133), .val (.int z22), .unset, .unset, .unset, .unset] []))
          refine own_go (fun t k => XS.iconst XJ.here hx rfl (hb hby at_514) k) ?_
          show own_End p e below s _ _ _ (TJ.setTop (mkF m 515 #[.val (.long p1), .second, .val (.int p2), .val (.int p3), .val (.int p4), .val (.long p5), .second, .val (.int kk83), .val (.int sg84), .val (.int ax85), .val (.int un), .val (.long uq86), .second, .val (.long r087), .second, .val (.ref tb), .val (.int fm), .val (.int nv), .val (.int (0 : Int32)), .val (.int (1 : Int32)), .val (.int cc132), .val (.int po133), .val (.int z22), .unset, .unset, .unset, .unset] [(.int (0 : Int32))]))
          exact J515 _ (Or.inr ⟨rfl, fun q => by have := q.2; omega⟩)
        refine own_go (fun t k => XS.icmpNo XJ.here hx rfl (hb hby at_507) rfl (own_neN (k := 45) (by decide) qr) k) ?_
        show own_End p e below s _ _ _ (TJ.setTop (mkF m 510 #[.val (.long p1), .second, .val (.int p2), .val (.int p3), .val (.int p4), .val (.long p5), .second, .val (.int kk83), .val (.int sg84), .val (.int ax85), .val (.int un), .val (.long uq86), .second, .val (.long r087), .second, .val (.ref tb), .val (.int fm), .val (.int nv), .val (.int (0 : Int32)), .val (.int (1 : Int32)), .val (.int cc132), .val (.int po133), .val (.int z22), .unset, .unset, .unset, .unset] []))
        refine own_go (fun t k => XS.iconst XJ.here hx rfl (hb hby at_510) k) ?_
        show own_End p e below s _ _ _ (TJ.setTop (mkF m 511 #[.val (.long p1), .second, .val (.int p2), .val (.int p3), .val (.int p4), .val (.long p5), .second, .val (.int kk83), .val (.int sg84), .val (.int ax85), .val (.int un), .val (.long uq86), .second, .val (.long r087), .second, .val (.ref tb), .val (.int fm), .val (.int nv), .val (.int (0 : Int32)), .val (.int (1 : Int32)), .val (.int cc132), .val (.int po133), .val (.int z22), .unset, .unset, .unset, .unset] [(.int (1 : Int32))]))
        refine own_go (fun t k => XS.goto XJ.here hx rfl (pc0 := 511) (pc' := 515) rfl (hb hby at_511) (by decide) (by decide) k) ?_
        show own_End p e below s _ _ _ (TJ.setTop (mkF m 515 #[.val (.long p1), .second, .val (.int p2), .val (.int p3), .val (.int p4), .val (.long p5), .second, .val (.int kk83), .val (.int sg84), .val (.int ax85), .val (.int un), .val (.long uq86), .second, .val (.long r087), .second, .val (.ref tb), .val (.int fm), .val (.int nv), .val (.int (0 : Int32)), .val (.int (1 : Int32)), .val (.int cc132), .val (.int po133), .val (.int z22), .unset, .unset, .unset, .unset] [(.int (1 : Int32))]))
        exact J515 _ (Or.inl ⟨rfl, qp', Or.inr (Decidable.not_not.mp qr)⟩)
      intro J487
      show own_End p e below s _ _ _ (TJ.setTop (mkF m 468 #[.val (.long p1), .second, .val (.int p2), .val (.int p3), .val (.int p4), .val (.long p5), .second, .val (.int kk83), .val (.int sg84), .val (.int ax85), .val (.int un), .val (.long uq86), .second, .val (.long r087), .second, .val (.ref tb), .val (.int fm), .val (.int nv), .val (.int (0 : Int32)), .val (.int (1 : Int32)), .val (.int cc132), .val (.int po133), .unset, .unset, .unset, .unset, .unset] []))
      refine own_go (fun t k => XS.iload XJ.here hx rfl (hb hby at_468) rfl k) ?_
      show own_End p e below s _ _ _ (TJ.setTop (mkF m 470 #[.val (.long p1), .second, .val (.int p2), .val (.int p3), .val (.int p4), .val (.long p5), .second, .val (.int kk83), .val (.int sg84), .val (.int ax85), .val (.int un), .val (.long uq86), .second, .val (.long r087), .second, .val (.ref tb), .val (.int fm), .val (.int nv), .val (.int (0 : Int32)), .val (.int (1 : Int32)), .val (.int cc132), .val (.int po133), .unset, .unset, .unset, .unset, .unset] [(.int cc132)]))
      refine own_go (fun t k => XS.bipush XJ.here hx rfl (hb hby at_470) k) ?_
      show own_End p e below s _ _ _ (TJ.setTop (mkF m 472 #[.val (.long p1), .second, .val (.int p2), .val (.int p3), .val (.int p4), .val (.long p5), .second, .val (.int kk83), .val (.int sg84), .val (.int ax85), .val (.int un), .val (.long uq86), .second, .val (.long r087), .second, .val (.ref tb), .val (.int fm), .val (.int nv), .val (.int (0 : Int32)), .val (.int (1 : Int32)), .val (.int cc132), .val (.int po133), .unset, .unset, .unset, .unset, .unset] [(.int (48 : Int32)), (.int cc132)]))
      by_cases qv : cc132.toInt < 48
      ·
        refine own_go (fun t k => XS.icmpYes XJ.here hx rfl (pc0 := 472) (pc' := 486) rfl (hb hby at_472) rfl (own_ltY (k := 48) (by decide) qv) (by decide) (by decide) k) ?_
        show own_End p e below s _ _ _ (TJ.setTop (mkF m 486 #[.val (.long p1), .second, .val (.int p2), .val (.int p3), .val (.int p4), .val (.long p5), .second, .val (.int kk83), .val (.int sg84), .val (.int ax85), .val (.int un), .val (.long uq86), .second, .val (.long r087), .second, .val (.ref tb), .val (.int fm), .val (.int nv), .val (.int (0 : Int32)), .val (.int (1 : Int32)), .val (.int cc132), .val (.int po133), .unset, .unset, .unset, .unset, .unset] []))
        refine own_go (fun t k => XS.iconst XJ.here hx rfl (hb hby at_486) k) ?_
        show own_End p e below s _ _ _ (TJ.setTop (mkF m 487 #[.val (.long p1), .second, .val (.int p2), .val (.int p3), .val (.int p4), .val (.long p5), .second, .val (.int kk83), .val (.int sg84), .val (.int ax85), .val (.int un), .val (.long uq86), .second, .val (.long r087), .second, .val (.ref tb), .val (.int fm), .val (.int nv), .val (.int (0 : Int32)), .val (.int (1 : Int32)), .val (.int cc132), .val (.int po133), .unset, .unset, .unset, .unset, .unset] [(.int (0 : Int32))]))
        exact J487 _ (Or.inr ⟨rfl, fun q => by have := q.1; omega⟩)
      refine own_go (fun t k => XS.icmpNo XJ.here hx rfl (hb hby at_472) rfl (own_ltN (k := 48) (by decide) qv) k) ?_
      show own_End p e below s _ _ _ (TJ.setTop (mkF m 475 #[.val (.long p1), .second, .val (.int p2), .val (.int p3), .val (.int p4), .val (.long p5), .second, .val (.int kk83), .val (.int sg84), .val (.int ax85), .val (.int un), .val (.long uq86), .second, .val (.long r087), .second, .val (.ref tb), .val (.int fm), .val (.int nv), .val (.int (0 : Int32)), .val (.int (1 : Int32)), .val (.int cc132), .val (.int po133), .unset, .unset, .unset, .unset, .unset] []))
      refine own_go (fun t k => XS.iload XJ.here hx rfl (hb hby at_475) rfl k) ?_
      show own_End p e below s _ _ _ (TJ.setTop (mkF m 477 #[.val (.long p1), .second, .val (.int p2), .val (.int p3), .val (.int p4), .val (.long p5), .second, .val (.int kk83), .val (.int sg84), .val (.int ax85), .val (.int un), .val (.long uq86), .second, .val (.long r087), .second, .val (.ref tb), .val (.int fm), .val (.int nv), .val (.int (0 : Int32)), .val (.int (1 : Int32)), .val (.int cc132), .val (.int po133), .unset, .unset, .unset, .unset, .unset] [(.int cc132)]))
      refine own_go (fun t k => XS.bipush XJ.here hx rfl (hb hby at_477) k) ?_
      show own_End p e below s _ _ _ (TJ.setTop (mkF m 479 #[.val (.long p1), .second, .val (.int p2), .val (.int p3), .val (.int p4), .val (.long p5), .second, .val (.int kk83), .val (.int sg84), .val (.int ax85), .val (.int un), .val (.long uq86), .second, .val (.long r087), .second, .val (.ref tb), .val (.int fm), .val (.int nv), .val (.int (0 : Int32)), .val (.int (1 : Int32)), .val (.int cc132), .val (.int po133), .unset, .unset, .unset, .unset, .unset] [(.int (57 : Int32)), (.int cc132)]))
      by_cases qw : 57 < cc132.toInt
      ·
        refine own_go (fun t k => XS.icmpYes XJ.here hx rfl (pc0 := 479) (pc' := 486) rfl (hb hby at_479) rfl (own_gtY (k := 57) (by decide) qw) (by decide) (by decide) k) ?_
        show own_End p e below s _ _ _ (TJ.setTop (mkF m 486 #[.val (.long p1), .second, .val (.int p2), .val (.int p3), .val (.int p4), .val (.long p5), .second, .val (.int kk83), .val (.int sg84), .val (.int ax85), .val (.int un), .val (.long uq86), .second, .val (.long r087), .second, .val (.ref tb), .val (.int fm), .val (.int nv), .val (.int (0 : Int32)), .val (.int (1 : Int32)), .val (.int cc132), .val (.int po133), .unset, .unset, .unset, .unset, .unset] []))
        refine own_go (fun t k => XS.iconst XJ.here hx rfl (hb hby at_486) k) ?_
        show own_End p e below s _ _ _ (TJ.setTop (mkF m 487 #[.val (.long p1), .second, .val (.int p2), .val (.int p3), .val (.int p4), .val (.long p5), .second, .val (.int kk83), .val (.int sg84), .val (.int ax85), .val (.int un), .val (.long uq86), .second, .val (.long r087), .second, .val (.ref tb), .val (.int fm), .val (.int nv), .val (.int (0 : Int32)), .val (.int (1 : Int32)), .val (.int cc132), .val (.int po133), .unset, .unset, .unset, .unset, .unset] [(.int (0 : Int32))]))
        exact J487 _ (Or.inr ⟨rfl, fun q => by have := q.2; omega⟩)
      refine own_go (fun t k => XS.icmpNo XJ.here hx rfl (hb hby at_479) rfl (own_gtN (k := 57) (by decide) qw) k) ?_
      show own_End p e below s _ _ _ (TJ.setTop (mkF m 482 #[.val (.long p1), .second, .val (.int p2), .val (.int p3), .val (.int p4), .val (.long p5), .second, .val (.int kk83), .val (.int sg84), .val (.int ax85), .val (.int un), .val (.long uq86), .second, .val (.long r087), .second, .val (.ref tb), .val (.int fm), .val (.int nv), .val (.int (0 : Int32)), .val (.int (1 : Int32)), .val (.int cc132), .val (.int po133), .unset, .unset, .unset, .unset, .unset] []))
      refine own_go (fun t k => XS.iconst XJ.here hx rfl (hb hby at_482) k) ?_
      show own_End p e below s _ _ _ (TJ.setTop (mkF m 483 #[.val (.long p1), .second, .val (.int p2), .val (.int p3), .val (.int p4), .val (.long p5), .second, .val (.int kk83), .val (.int sg84), .val (.int ax85), .val (.int un), .val (.long uq86), .second, .val (.long r087), .second, .val (.ref tb), .val (.int fm), .val (.int nv), .val (.int (0 : Int32)), .val (.int (1 : Int32)), .val (.int cc132), .val (.int po133), .unset, .unset, .unset, .unset, .unset] [(.int (1 : Int32))]))
      refine own_go (fun t k => XS.goto XJ.here hx rfl (pc0 := 483) (pc' := 487) rfl (hb hby at_483) (by decide) (by decide) k) ?_
      show own_End p e below s _ _ _ (TJ.setTop (mkF m 487 #[.val (.long p1), .second, .val (.int p2), .val (.int p3), .val (.int p4), .val (.long p5), .second, .val (.int kk83), .val (.int sg84), .val (.int ax85), .val (.int un), .val (.long uq86), .second, .val (.long r087), .second, .val (.ref tb), .val (.int fm), .val (.int nv), .val (.int (0 : Int32)), .val (.int (1 : Int32)), .val (.int cc132), .val (.int po133), .unset, .unset, .unset, .unset, .unset] [(.int (1 : Int32))]))
      exact J487 _ (Or.inl ⟨rfl, by omega, by omega⟩)
    intro J412
    show own_End p e below s _ _ _ (s0.setTop (mkF m 63 #[.val (.long p1), .second, .val (.int p2), .val (.int p3), .val (.int p4), .val (.long p5), .second, .val (.int kk83), .val (.int sg84), .val (.int ax85), .val (.int un), .val (.long uq86), .second, .val (.long r087), .second, .unset, .unset, .unset, .unset, .unset, .unset, .unset, .unset, .unset, .unset, .unset, .unset] []))
    refine own_join (fun G => ∀ (TJ : State) (lJ : List Loc) (hJ : Heap) (tb : Addr) (kt : ClassId) (g : Nat → Int32), Stand p l e room_1 s m #[(.long p1), (.int p2), (.int p3), (.int p4), (.long p5)] below meth c TJ lJ 20 384 → TJ.heap = hJ → Fr n0 lJ → n0 ≤ hJ.size → n0 ≤ tb → own_F Z hJ tb kt .char 23 (fun i => .int (g i)) → (∀ j, j < 20 → (g (21 - j)).toInt = 48 + ((Nn / 10 ^ j % 10 : Nat) : Int)) → G (TJ.setTop (mkF m 363 #[.val (.long p1), .second, .val (.int p2), .val (.int p3), .val (.int p4), .val (.long p5), .second, .val (.int kk83), .val (.int sg84), .val (.int ax85), .val (.int un), .val (.long uq86), .second, .val (.long r087), .second, .val (.ref tb), .unset, .unset, .unset, .unset, .unset, .unset, .unset, .unset, .unset, .unset, .unset] []))) ?_ ?_
    ·
      intro TJ lJ hJ tb kt g  XJ eJ NJ ZJ ntb VJ hd20
      show own_End p e below s _ _ _ (TJ.setTop (mkF m 363 #[.val (.long p1), .second, .val (.int p2), .val (.int p3), .val (.int p4), .val (.long p5), .second, .val (.int kk83), .val (.int sg84), .val (.int ax85), .val (.int un), .val (.long uq86), .second, .val (.long r087), .second, .val (.ref tb), .unset, .unset, .unset, .unset, .unset, .unset, .unset, .unset, .unset, .unset, .unset] []))
      have e22 : (22 : Int32).toInt = 22 := by decide
      have e21 : (21 : Int32).toInt = 21 := by decide
      have h22 : ((22 : Int32) - kk83).toInt = ((22 - K : Nat) : Int) := by have := c_isub 22 kk83; have := rng32 (22 - kk83); omega
      have h21 : ((21 : Int32) - kk83).toInt = ((21 - K : Nat) : Int) := by have := c_isub 21 kk83; have := rng32 (21 - kk83); omega
      refine own_go (fun t k => XS.bipush XJ.here hx rfl (hb hby at_363) k) ?_
      show own_End p e below s _ _ _ (TJ.setTop (mkF m 365 #[.val (.long p1), .second, .val (.int p2), .val (.int p3), .val (.int p4), .val (.long p5), .second, .val (.int kk83), .val (.int sg84), .val (.int ax85), .val (.int un), .val (.long uq86), .second, .val (.long r087), .second, .val (.ref tb), .unset, .unset, .unset, .unset, .unset, .unset, .unset, .unset, .unset, .unset, .unset] [(.int (22 : Int32))]))
      refine own_go (fun t k => XS.iload XJ.here hx rfl (hb hby at_365) rfl k) ?_
      show own_End p e below s _ _ _ (TJ.setTop (mkF m 367 #[.val (.long p1), .second, .val (.int p2), .val (.int p3), .val (.int p4), .val (.long p5), .second, .val (.int kk83), .val (.int sg84), .val (.int ax85), .val (.int un), .val (.long uq86), .second, .val (.long r087), .second, .val (.ref tb), .unset, .unset, .unset, .unset, .unset, .unset, .unset, .unset, .unset, .unset, .unset] [(.int kk83), (.int (22 : Int32))]))
      refine own_go (fun t k => XS.isub XJ.here hx rfl (hb hby at_367) rfl k) ?_
      show own_End p e below s _ _ _ (TJ.setTop (mkF m 368 #[.val (.long p1), .second, .val (.int p2), .val (.int p3), .val (.int p4), .val (.long p5), .second, .val (.int kk83), .val (.int sg84), .val (.int ax85), .val (.int un), .val (.long uq86), .second, .val (.long r087), .second, .val (.ref tb), .unset, .unset, .unset, .unset, .unset, .unset, .unset, .unset, .unset, .unset, .unset] [(.int ((22 : Int32) - kk83))]))
      refine own_go (fun t k => XS.istore XJ.here hx rfl (hb hby at_368) rfl (l' := #[.val (.long p1), .second, .val (.int p2), .val (.int p3), .val (.int p4), .val (.long p5), .second, .val (.int kk83), .val (.int sg84), .val (.int ax85), .val (.int un), .val (.long uq86), .second, .val (.long r087), .second, .val (.ref tb), .val (.int ((22 : Int32) - kk83)), .unset, .unset, .unset, .unset, .unset, .unset, .unset, .unset, .unset, .unset]) rfl k) ?_
      show own_End p e below s _ _ _ (TJ.setTop (mkF m 370 #[.val (.long p1), .second, .val (.int p2), .val (.int p3), .val (.int p4), .val (.long p5), .second, .val (.int kk83), .val (.int sg84), .val (.int ax85), .val (.int un), .val (.long uq86), .second, .val (.long r087), .second, .val (.ref tb), .val (.int ((22 : Int32) - kk83)), .unset, .unset, .unset, .unset, .unset, .unset, .unset, .unset, .unset, .unset] []))
      refine own_go (fun t k => XS.iload XJ.here hx rfl (hb hby at_370) rfl k) ?_
      show own_End p e below s _ _ _ (TJ.setTop (mkF m 372 #[.val (.long p1), .second, .val (.int p2), .val (.int p3), .val (.int p4), .val (.long p5), .second, .val (.int kk83), .val (.int sg84), .val (.int ax85), .val (.int un), .val (.long uq86), .second, .val (.long r087), .second, .val (.ref tb), .val (.int ((22 : Int32) - kk83)), .unset, .unset, .unset, .unset, .unset, .unset, .unset, .unset, .unset, .unset] [(.int sg84)]))
      refine own_go (fun t k => XS.iconst XJ.here hx rfl (hb hby at_372) k) ?_
      show own_End p e below s _ _ _ (TJ.setTop (mkF m 373 #[.val (.long p1), .second, .val (.int p2), .val (.int p3), .val (.int p4), .val (.long p5), .second, .val (.int kk83), .val (.int sg84), .val (.int ax85), .val (.int un), .val (.long uq86), .second, .val (.long r087), .second, .val (.ref tb), .val (.int ((22 : Int32) - kk83)), .unset, .unset, .unset, .unset, .unset, .unset, .unset, .unset, .unset, .unset] [(.int (1 : Int32)), (.int sg84)]))
      by_cases qa : ¬ sg84.toInt = 1
      ·
        refine own_go (fun t k => XS.icmpYes XJ.here hx rfl (pc0 := 373) (pc' := 380) rfl (hb hby at_373) rfl (own_neY (k := 1) (by decide) qa) (by decide) (by decide) k) ?_
        show own_End p e below s _ _ _ (TJ.setTop (mkF m 380 #[.val (.long p1), .second, .val (.int p2), .val (.int p3), .val (.int p4), .val (.long p5), .second, .val (.int kk83), .val (.int sg84), .val (.int ax85), .val (.int un), .val (.long uq86), .second, .val (.long r087), .second, .val (.ref tb), .val (.int ((22 : Int32) - kk83)), .unset, .unset, .unset, .unset, .unset, .unset, .unset, .unset, .unset, .unset] []))
        refine own_go (fun t k => XS.iconst XJ.here hx rfl (hb hby at_380) k) ?_
        show own_End p e below s _ _ _ (TJ.setTop (mkF m 381 #[.val (.long p1), .second, .val (.int p2), .val (.int p3), .val (.int p4), .val (.long p5), .second, .val (.int kk83), .val (.int sg84), .val (.int ax85), .val (.int un), .val (.long uq86), .second, .val (.long r087), .second, .val (.ref tb), .val (.int ((22 : Int32) - kk83)), .unset, .unset, .unset, .unset, .unset, .unset, .unset, .unset, .unset, .unset] [(.int (0 : Int32))]))
        refine own_go (fun t k => XS.istore XJ.here hx rfl (hb hby at_381) rfl (l' := #[.val (.long p1), .second, .val (.int p2), .val (.int p3), .val (.int p4), .val (.long p5), .second, .val (.int kk83), .val (.int sg84), .val (.int ax85), .val (.int un), .val (.long uq86), .second, .val (.long r087), .second, .val (.ref tb), .val (.int ((22 : Int32) - kk83)), .val (.int (0 : Int32)), .unset, .unset, .unset, .unset, .unset, .unset, .unset, .unset, .unset]) rfl k) ?_
        show own_End p e below s _ _ _ (TJ.setTop (mkF m 383 #[.val (.long p1), .second, .val (.int p2), .val (.int p3), .val (.int p4), .val (.long p5), .second, .val (.int kk83), .val (.int sg84), .val (.int ax85), .val (.int un), .val (.long uq86), .second, .val (.long r087), .second, .val (.ref tb), .val (.int ((22 : Int32) - kk83)), .val (.int (0 : Int32)), .unset, .unset, .unset, .unset, .unset, .unset, .unset, .unset, .unset] []))
        refine own_go (fun t k => XS.iload XJ.here hx rfl (hb hby at_383) rfl k) ?_
        show own_End p e below s _ _ _ (TJ.setTop (mkF m 385 #[.val (.long p1), .second, .val (.int p2), .val (.int p3), .val (.int p4), .val (.long p5), .second, .val (.int kk83), .val (.int sg84), .val (.int ax85), .val (.int un), .val (.long uq86), .second, .val (.long r087), .second, .val (.ref tb), .val (.int ((22 : Int32) - kk83)), .val (.int (0 : Int32)), .unset, .unset, .unset, .unset, .unset, .unset, .unset, .unset, .unset] [(.int sg84)]))
        by_cases qb : sg84.toInt = 0
        ·
          refine own_go (fun t k => XS.ifYes XJ.here hx rfl (pc0 := 385) (pc' := 412) rfl (hb hby at_385) rfl (own_0 (own_eqY (k := 0) rfl qb)) (by decide) (by decide) k) ?_
          show own_End p e below s _ _ _ (TJ.setTop (mkF m 412 #[.val (.long p1), .second, .val (.int p2), .val (.int p3), .val (.int p4), .val (.long p5), .second, .val (.int kk83), .val (.int sg84), .val (.int ax85), .val (.int un), .val (.long uq86), .second, .val (.long r087), .second, .val (.ref tb), .val (.int ((22 : Int32) - kk83)), .val (.int (0 : Int32)), .unset, .unset, .unset, .unset, .unset, .unset, .unset, .unset, .unset] []))
          exact J412 TJ _ hJ tb kt g (22 - K) ((22 : Int32) - kk83) 0 (XJ.more (by decide) (by decide)) eJ NJ ZJ ntb VJ h22 (by omega) (Or.inl rfl) (fun j hj => hd20 j (by omega)) (Or.inl ⟨by omega, rfl⟩)
        refine own_go (fun t k => XS.ifNo XJ.here hx rfl (hb hby at_385) rfl (own_0 (own_eqN (k := 0) rfl qb)) k) ?_
        show own_End p e below s _ _ _ (TJ.setTop (mkF m 388 #[.val (.long p1), .second, .val (.int p2), .val (.int p3), .val (.int p4), .val (.long p5), .second, .val (.int kk83), .val (.int sg84), .val (.int ax85), .val (.int un), .val (.long uq86), .second, .val (.long r087), .second, .val (.ref tb), .val (.int ((22 : Int32) - kk83)), .val (.int (0 : Int32)), .unset, .unset, .unset, .unset, .unset, .unset, .unset, .unset, .unset] []))
        refine own_go (fun t k => XS.bipush XJ.here hx rfl (hb hby at_388) k) ?_
        show own_End p e below s _ _ _ (TJ.setTop (mkF m 390 #[.val (.long p1), .second, .val (.int p2), .val (.int p3), .val (.int p4), .val (.long p5), .second, .val (.int kk83), .val (.int sg84), .val (.int ax85), .val (.int un), .val (.long uq86), .second, .val (.long r087), .second, .val (.ref tb), .val (.int ((22 : Int32) - kk83)), .val (.int (0 : Int32)), .unset, .unset, .unset, .unset, .unset, .unset, .unset, .unset, .unset] [(.int (21 : Int32))]))
        refine own_go (fun t k => XS.iload XJ.here hx rfl (hb hby at_390) rfl k) ?_
        show own_End p e below s _ _ _ (TJ.setTop (mkF m 392 #[.val (.long p1), .second, .val (.int p2), .val (.int p3), .val (.int p4), .val (.long p5), .second, .val (.int kk83), .val (.int sg84), .val (.int ax85), .val (.int un), .val (.long uq86), .second, .val (.long r087), .second, .val (.ref tb), .val (.int ((22 : Int32) - kk83)), .val (.int (0 : Int32)), .unset, .unset, .unset, .unset, .unset, .unset, .unset, .unset, .unset] [(.int kk83), (.int (21 : Int32))]))
        refine own_go (fun t k => XS.isub XJ.here hx rfl (hb hby at_392) rfl k) ?_
        show own_End p e below s _ _ _ (TJ.setTop (mkF m 393 #[.val (.long p1), .second, .val (.int p2), .val (.int p3), .val (.int p4), .val (.long p5), .second, .val (.int kk83), .val (.int sg84), .val (.int ax85), .val (.int un), .val (.long uq86), .second, .val (.long r087), .second, .val (.ref tb), .val (.int ((22 : Int32) - kk83)), .val (.int (0 : Int32)), .unset, .unset, .unset, .unset, .unset, .unset, .unset, .unset, .unset] [(.int ((21 : Int32) - kk83))]))
        refine own_go (fun t k => XS.istore XJ.here hx rfl (hb hby at_393) rfl (l' := #[.val (.long p1), .second, .val (.int p2), .val (.int p3), .val (.int p4), .val (.long p5), .second, .val (.int kk83), .val (.int sg84), .val (.int ax85), .val (.int un), .val (.long uq86), .second, .val (.long r087), .second, .val (.ref tb), .val (.int ((21 : Int32) - kk83)), .val (.int (0 : Int32)), .unset, .unset, .unset, .unset, .unset, .unset, .unset, .unset, .unset]) rfl k) ?_
        show own_End p e below s _ _ _ (TJ.setTop (mkF m 395 #[.val (.long p1), .second, .val (.int p2), .val (.int p3), .val (.int p4), .val (.long p5), .second, .val (.int kk83), .val (.int sg84), .val (.int ax85), .val (.int un), .val (.long uq86), .second, .val (.long r087), .second, .val (.ref tb), .val (.int ((21 : Int32) - kk83)), .val (.int (0 : Int32)), .unset, .unset, .unset, .unset, .unset, .unset, .unset, .unset, .unset] []))
        refine own_go (fun t k => XS.aload XJ.here hx rfl (hb hby at_395) rfl rfl k) ?_
        show own_End p e below s _ _ _ (TJ.setTop (mkF m 397 #[.val (.long p1), .second, .val (.int p2), .val (.int p3), .val (.int p4), .val (.long p5), .second, .val (.int kk83), .val (.int sg84), .val (.int ax85), .val (.int un), .val (.long uq86), .second, .val (.long r087), .second, .val (.ref tb), .val (.int ((21 : Int32) - kk83)), .val (.int (0 : Int32)), .unset, .unset, .unset, .unset, .unset, .unset, .unset, .unset, .unset] [(.ref tb)]))
        refine own_go (fun t k => XS.iload XJ.here hx rfl (hb hby at_397) rfl k) ?_
        show own_End p e below s _ _ _ (TJ.setTop (mkF m 399 #[.val (.long p1), .second, .val (.int p2), .val (.int p3), .val (.int p4), .val (.long p5), .second, .val (.int kk83), .val (.int sg84), .val (.int ax85), .val (.int un), .val (.long uq86), .second, .val (.long r087), .second, .val (.ref tb), .val (.int ((21 : Int32) - kk83)), .val (.int (0 : Int32)), .unset, .unset, .unset, .unset, .unset, .unset, .unset, .unset, .unset] [(.int ((21 : Int32) - kk83)), (.ref tb)]))
        refine own_go (fun t k => XS.iload XJ.here hx rfl (hb hby at_399) rfl k) ?_
        show own_End p e below s _ _ _ (TJ.setTop (mkF m 401 #[.val (.long p1), .second, .val (.int p2), .val (.int p3), .val (.int p4), .val (.long p5), .second, .val (.int kk83), .val (.int sg84), .val (.int ax85), .val (.int un), .val (.long uq86), .second, .val (.long r087), .second, .val (.ref tb), .val (.int ((21 : Int32) - kk83)), .val (.int (0 : Int32)), .unset, .unset, .unset, .unset, .unset, .unset, .unset, .unset, .unset] [(.int (0 : Int32)), (.int ((21 : Int32) - kk83)), (.ref tb)]))
        refine own_go (fun t k => XS.ifYes XJ.here hx rfl (pc0 := 401) (pc' := 409) rfl (hb hby at_401) rfl rfl (by decide) (by decide) k) ?_
        show own_End p e below s _ _ _ (TJ.setTop (mkF m 409 #[.val (.long p1), .second, .val (.int p2), .val (.int p3), .val (.int p4), .val (.long p5), .second, .val (.int kk83), .val (.int sg84), .val (.int ax85), .val (.int un), .val (.long uq86), .second, .val (.long r087), .second, .val (.ref tb), .val (.int ((21 : Int32) - kk83)), .val (.int (0 : Int32)), .unset, .unset, .unset, .unset, .unset, .unset, .unset, .unset, .unset] [(.int ((21 : Int32) - kk83)), (.ref tb)]))
        refine own_go (fun t k => XS.bipush XJ.here hx rfl (hb hby at_409) k) ?_
        show own_End p e below s _ _ _ (TJ.setTop (mkF m 411 #[.val (.long p1), .second, .val (.int p2), .val (.int p3), .val (.int p4), .val (.long p5), .second, .val (.int kk83), .val (.int sg84), .val (.int ax85), .val (.int un), .val (.long uq86), .second, .val (.long r087), .second, .val (.ref tb), .val (.int ((21 : Int32) - kk83)), .val (.int (0 : Int32)), .unset, .unset, .unset, .unset, .unset, .unset, .unset, .unset, .unset] [(.int (43 : Int32)), (.int ((21 : Int32) - kk83)), (.ref tb)]))
        obtain ⟨T137, h137, X137, e137, W137, F137, st137⟩ := own_fstC XJ hx hZ eJ VJ (j := ((21 : Int32) - kk83)) (x := (43 : Int32)) (21 - K) h21 (by omega) (pc := 411) (Ls := #[.val (.long p1), .second, .val (.int p2), .val (.int p3), .val (.int p4), .val (.long p5), .second, .val (.int kk83), .val (.int sg84), .val (.int ax85), .val (.int un), .val (.long uq86), .second, .val (.long r087), .second, .val (.ref tb), .val (.int ((21 : Int32) - kk83)), .val (.int (0 : Int32)), .unset, .unset, .unset, .unset, .unset, .unset, .unset, .unset, .unset]) (rest := []) (hb hby at_411)
        have N137 := Fr.snoc X137 NJ ntb
        have Z137 : n0 ≤ h137.size := by rw [W137.size]; exact ZJ
        refine own_go st137 ?_
        show own_End p e below s _ _ _ (T137.setTop (mkF m 412 #[.val (.long p1), .second, .val (.int p2), .val (.int p3), .val (.int p4), .val (.long p5), .second, .val (.int kk83), .val (.int sg84), .val (.int ax85), .val (.int un), .val (.long uq86), .second, .val (.long r087), .second, .val (.ref tb), .val (.int ((21 : Int32) - kk83)), .val (.int (0 : Int32)), .unset, .unset, .unset, .unset, .unset, .unset, .unset, .unset, .unset] []))
        have f139 := own_F.cong F137 (g := fun i => .int ((fun i => if i = 21 - K then 43 else g i) i)) (fun i hi => by rw [own_up_g]; rfl)
        exact J412 T137 _ h137 tb kt _ (21 - K) ((21 : Int32) - kk83) 0 (X137.more (by decide) (by decide)) e137 N137 Z137 ntb f139 h21 (by omega) (Or.inl rfl) (fun j hj => by show (if 21 - j = 21 - K then _ else _ : Int32).toInt = _; rw [if_neg (by omega)]; exact hd20 j (by omega)) (Or.inr ⟨by omega, Or.inr ⟨rfl, by show (if 21 - K = 21 - K then _ else _ : Int32).toInt = _; rw [if_pos rfl]; decide⟩⟩)
      refine own_go (fun t k => XS.icmpNo XJ.here hx rfl (hb hby at_373) rfl (own_neN (k := 1) (by decide) qa) k) ?_
      show own_End p e below s _ _ _ (TJ.setTop (mkF m 376 #[.val (.long p1), .second, .val (.int p2), .val (.int p3), .val (.int p4), .val (.long p5), .second, .val (.int kk83), .val (.int sg84), .val (.int ax85), .val (.int un), .val (.long uq86), .second, .val (.long r087), .second, .val (.ref tb), .val (.int ((22 : Int32) - kk83)), .unset, .unset, .unset, .unset, .unset, .unset, .unset, .unset, .unset, .unset] []))
      refine own_go (fun t k => XS.iconst XJ.here hx rfl (hb hby at_376) k) ?_
      show own_End p e below s _ _ _ (TJ.setTop (mkF m 377 #[.val (.long p1), .second, .val (.int p2), .val (.int p3), .val (.int p4), .val (.long p5), .second, .val (.int kk83), .val (.int sg84), .val (.int ax85), .val (.int un), .val (.long uq86), .second, .val (.long r087), .second, .val (.ref tb), .val (.int ((22 : Int32) - kk83)), .unset, .unset, .unset, .unset, .unset, .unset, .unset, .unset, .unset, .unset] [(.int (1 : Int32))]))
      refine own_go (fun t k => XS.goto XJ.here hx rfl (pc0 := 377) (pc' := 381) rfl (hb hby at_377) (by decide) (by decide) k) ?_
      show own_End p e below s _ _ _ (TJ.setTop (mkF m 381 #[.val (.long p1), .second, .val (.int p2), .val (.int p3), .val (.int p4), .val (.long p5), .second, .val (.int kk83), .val (.int sg84), .val (.int ax85), .val (.int un), .val (.long uq86), .second, .val (.long r087), .second, .val (.ref tb), .val (.int ((22 : Int32) - kk83)), .unset, .unset, .unset, .unset, .unset, .unset, .unset, .unset, .unset, .unset] [(.int (1 : Int32))]))
      refine own_go (fun t k => XS.istore XJ.here hx rfl (hb hby at_381) rfl (l' := #[.val (.long p1), .second, .val (.int p2), .val (.int p3), .val (.int p4), .val (.long p5), .second, .val (.int kk83), .val (.int sg84), .val (.int ax85), .val (.int un), .val (.long uq86), .second, .val (.long r087), .second, .val (.ref tb), .val (.int ((22 : Int32) - kk83)), .val (.int (1 : Int32)), .unset, .unset, .unset, .unset, .unset, .unset, .unset, .unset, .unset]) rfl k) ?_
      show own_End p e below s _ _ _ (TJ.setTop (mkF m 383 #[.val (.long p1), .second, .val (.int p2), .val (.int p3), .val (.int p4), .val (.long p5), .second, .val (.int kk83), .val (.int sg84), .val (.int ax85), .val (.int un), .val (.long uq86), .second, .val (.long r087), .second, .val (.ref tb), .val (.int ((22 : Int32) - kk83)), .val (.int (1 : Int32)), .unset, .unset, .unset, .unset, .unset, .unset, .unset, .unset, .unset] []))
      refine own_go (fun t k => XS.iload XJ.here hx rfl (hb hby at_383) rfl k) ?_
      show own_End p e below s _ _ _ (TJ.setTop (mkF m 385 #[.val (.long p1), .second, .val (.int p2), .val (.int p3), .val (.int p4), .val (.long p5), .second, .val (.int kk83), .val (.int sg84), .val (.int ax85), .val (.int un), .val (.long uq86), .second, .val (.long r087), .second, .val (.ref tb), .val (.int ((22 : Int32) - kk83)), .val (.int (1 : Int32)), .unset, .unset, .unset, .unset, .unset, .unset, .unset, .unset, .unset] [(.int sg84)]))
      refine own_go (fun t k => XS.ifNo XJ.here hx rfl (hb hby at_385) rfl (own_0 (own_eqN (k := 0) rfl (by omega))) k) ?_
      show own_End p e below s _ _ _ (TJ.setTop (mkF m 388 #[.val (.long p1), .second, .val (.int p2), .val (.int p3), .val (.int p4), .val (.long p5), .second, .val (.int kk83), .val (.int sg84), .val (.int ax85), .val (.int un), .val (.long uq86), .second, .val (.long r087), .second, .val (.ref tb), .val (.int ((22 : Int32) - kk83)), .val (.int (1 : Int32)), .unset, .unset, .unset, .unset, .unset, .unset, .unset, .unset, .unset] []))
      refine own_go (fun t k => XS.bipush XJ.here hx rfl (hb hby at_388) k) ?_
      show own_End p e below s _ _ _ (TJ.setTop (mkF m 390 #[.val (.long p1), .second, .val (.int p2), .val (.int p3), .val (.int p4), .val (.long p5), .second, .val (.int kk83), .val (.int sg84), .val (.int ax85), .val (.int un), .val (.long uq86), .second, .val (.long r087), .second, .val (.ref tb), .val (.int ((22 : Int32) - kk83)), .val (.int (1 : Int32)), .unset, .unset, .unset, .unset, .unset, .unset, .unset, .unset, .unset] [(.int (21 : Int32))]))
      refine own_go (fun t k => XS.iload XJ.here hx rfl (hb hby at_390) rfl k) ?_
      show own_End p e below s _ _ _ (TJ.setTop (mkF m 392 #[.val (.long p1), .second, .val (.int p2), .val (.int p3), .val (.int p4), .val (.long p5), .second, .val (.int kk83), .val (.int sg84), .val (.int ax85), .val (.int un), .val (.long uq86), .second, .val (.long r087), .second, .val (.ref tb), .val (.int ((22 : Int32) - kk83)), .val (.int (1 : Int32)), .unset, .unset, .unset, .unset, .unset, .unset, .unset, .unset, .unset] [(.int kk83), (.int (21 : Int32))]))
      refine own_go (fun t k => XS.isub XJ.here hx rfl (hb hby at_392) rfl k) ?_
      show own_End p e below s _ _ _ (TJ.setTop (mkF m 393 #[.val (.long p1), .second, .val (.int p2), .val (.int p3), .val (.int p4), .val (.long p5), .second, .val (.int kk83), .val (.int sg84), .val (.int ax85), .val (.int un), .val (.long uq86), .second, .val (.long r087), .second, .val (.ref tb), .val (.int ((22 : Int32) - kk83)), .val (.int (1 : Int32)), .unset, .unset, .unset, .unset, .unset, .unset, .unset, .unset, .unset] [(.int ((21 : Int32) - kk83))]))
      refine own_go (fun t k => XS.istore XJ.here hx rfl (hb hby at_393) rfl (l' := #[.val (.long p1), .second, .val (.int p2), .val (.int p3), .val (.int p4), .val (.long p5), .second, .val (.int kk83), .val (.int sg84), .val (.int ax85), .val (.int un), .val (.long uq86), .second, .val (.long r087), .second, .val (.ref tb), .val (.int ((21 : Int32) - kk83)), .val (.int (1 : Int32)), .unset, .unset, .unset, .unset, .unset, .unset, .unset, .unset, .unset]) rfl k) ?_
      show own_End p e below s _ _ _ (TJ.setTop (mkF m 395 #[.val (.long p1), .second, .val (.int p2), .val (.int p3), .val (.int p4), .val (.long p5), .second, .val (.int kk83), .val (.int sg84), .val (.int ax85), .val (.int un), .val (.long uq86), .second, .val (.long r087), .second, .val (.ref tb), .val (.int ((21 : Int32) - kk83)), .val (.int (1 : Int32)), .unset, .unset, .unset, .unset, .unset, .unset, .unset, .unset, .unset] []))
      refine own_go (fun t k => XS.aload XJ.here hx rfl (hb hby at_395) rfl rfl k) ?_
      show own_End p e below s _ _ _ (TJ.setTop (mkF m 397 #[.val (.long p1), .second, .val (.int p2), .val (.int p3), .val (.int p4), .val (.long p5), .second, .val (.int kk83), .val (.int sg84), .val (.int ax85), .val (.int un), .val (.long uq86), .second, .val (.long r087), .second, .val (.ref tb), .val (.int ((21 : Int32) - kk83)), .val (.int (1 : Int32)), .unset, .unset, .unset, .unset, .unset, .unset, .unset, .unset, .unset] [(.ref tb)]))
      refine own_go (fun t k => XS.iload XJ.here hx rfl (hb hby at_397) rfl k) ?_
      show own_End p e below s _ _ _ (TJ.setTop (mkF m 399 #[.val (.long p1), .second, .val (.int p2), .val (.int p3), .val (.int p4), .val (.long p5), .second, .val (.int kk83), .val (.int sg84), .val (.int ax85), .val (.int un), .val (.long uq86), .second, .val (.long r087), .second, .val (.ref tb), .val (.int ((21 : Int32) - kk83)), .val (.int (1 : Int32)), .unset, .unset, .unset, .unset, .unset, .unset, .unset, .unset, .unset] [(.int ((21 : Int32) - kk83)), (.ref tb)]))
      refine own_go (fun t k => XS.iload XJ.here hx rfl (hb hby at_399) rfl k) ?_
      show own_End p e below s _ _ _ (TJ.setTop (mkF m 401 #[.val (.long p1), .second, .val (.int p2), .val (.int p3), .val (.int p4), .val (.long p5), .second, .val (.int kk83), .val (.int sg84), .val (.int ax85), .val (.int un), .val (.long uq86), .second, .val (.long r087), .second, .val (.ref tb), .val (.int ((21 : Int32) - kk83)), .val (.int (1 : Int32)), .unset, .unset, .unset, .unset, .unset, .unset, .unset, .unset, .unset] [(.int (1 : Int32)), (.int ((21 : Int32) - kk83)), (.ref tb)]))
      refine own_go (fun t k => XS.ifNo XJ.here hx rfl (hb hby at_401) rfl rfl k) ?_
      show own_End p e below s _ _ _ (TJ.setTop (mkF m 404 #[.val (.long p1), .second, .val (.int p2), .val (.int p3), .val (.int p4), .val (.long p5), .second, .val (.int kk83), .val (.int sg84), .val (.int ax85), .val (.int un), .val (.long uq86), .second, .val (.long r087), .second, .val (.ref tb), .val (.int ((21 : Int32) - kk83)), .val (.int (1 : Int32)), .unset, .unset, .unset, .unset, .unset, .unset, .unset, .unset, .unset] [(.int ((21 : Int32) - kk83)), (.ref tb)]))
      refine own_go (fun t k => XS.bipush XJ.here hx rfl (hb hby at_404) k) ?_
      show own_End p e below s _ _ _ (TJ.setTop (mkF m 406 #[.val (.long p1), .second, .val (.int p2), .val (.int p3), .val (.int p4), .val (.long p5), .second, .val (.int kk83), .val (.int sg84), .val (.int ax85), .val (.int un), .val (.long uq86), .second, .val (.long r087), .second, .val (.ref tb), .val (.int ((21 : Int32) - kk83)), .val (.int (1 : Int32)), .unset, .unset, .unset, .unset, .unset, .unset, .unset, .unset, .unset] [(.int (45 : Int32)), (.int ((21 : Int32) - kk83)), (.ref tb)]))
      refine own_go (fun t k => XS.goto XJ.here hx rfl (pc0 := 406) (pc' := 411) rfl (hb hby at_406) (by decide) (by decide) k) ?_
      show own_End p e below s _ _ _ (TJ.setTop (mkF m 411 #[.val (.long p1), .second, .val (.int p2), .val (.int p3), .val (.int p4), .val (.long p5), .second, .val (.int kk83), .val (.int sg84), .val (.int ax85), .val (.int un), .val (.long uq86), .second, .val (.long r087), .second, .val (.ref tb), .val (.int ((21 : Int32) - kk83)), .val (.int (1 : Int32)), .unset, .unset, .unset, .unset, .unset, .unset, .unset, .unset, .unset] [(.int (45 : Int32)), (.int ((21 : Int32) - kk83)), (.ref tb)]))
      obtain ⟨T140, h140, X140, e140, W140, F140, st140⟩ := own_fstC XJ hx hZ eJ VJ (j := ((21 : Int32) - kk83)) (x := (45 : Int32)) (21 - K) h21 (by omega) (pc := 411) (Ls := #[.val (.long p1), .second, .val (.int p2), .val (.int p3), .val (.int p4), .val (.long p5), .second, .val (.int kk83), .val (.int sg84), .val (.int ax85), .val (.int un), .val (.long uq86), .second, .val (.long r087), .second, .val (.ref tb), .val (.int ((21 : Int32) - kk83)), .val (.int (1 : Int32)), .unset, .unset, .unset, .unset, .unset, .unset, .unset, .unset, .unset]) (rest := []) (hb hby at_411)
      have N140 := Fr.snoc X140 NJ ntb
      have Z140 : n0 ≤ h140.size := by rw [W140.size]; exact ZJ
      refine own_go st140 ?_
      show own_End p e below s _ _ _ (T140.setTop (mkF m 412 #[.val (.long p1), .second, .val (.int p2), .val (.int p3), .val (.int p4), .val (.long p5), .second, .val (.int kk83), .val (.int sg84), .val (.int ax85), .val (.int un), .val (.long uq86), .second, .val (.long r087), .second, .val (.ref tb), .val (.int ((21 : Int32) - kk83)), .val (.int (1 : Int32)), .unset, .unset, .unset, .unset, .unset, .unset, .unset, .unset, .unset] []))
      have f142 := own_F.cong F140 (g := fun i => .int ((fun i => if i = 21 - K then 45 else g i) i)) (fun i hi => by rw [own_up_g]; rfl)
      exact J412 T140 _ h140 tb kt _ (21 - K) ((21 : Int32) - kk83) 1 (X140.more (by decide) (by decide)) e140 N140 Z140 ntb f142 h21 (by omega) (Or.inr rfl) (fun j hj => by show (if 21 - j = 21 - K then _ else _ : Int32).toInt = _; rw [if_neg (by omega)]; exact hd20 j (by omega)) (Or.inr ⟨by omega, Or.inl ⟨rfl, by show (if 21 - K = 21 - K then _ else _ : Int32).toInt = _; rw [if_pos rfl]; decide⟩⟩)
    intro J363
    show own_End p e below s _ _ _ (s0.setTop (mkF m 63 #[.val (.long p1), .second, .val (.int p2), .val (.int p3), .val (.int p4), .val (.long p5), .second, .val (.int kk83), .val (.int sg84), .val (.int ax85), .val (.int un), .val (.long uq86), .second, .val (.long r087), .second, .unset, .unset, .unset, .unset, .unset, .unset, .unset, .unset, .unset, .unset, .unset, .unset] []))
    refine own_go (fun t k => XS.bipush X0.here hx rfl (hb hby at_63) k) ?_
    show own_End p e below s _ _ _ (s0.setTop (mkF m 65 #[.val (.long p1), .second, .val (.int p2), .val (.int p3), .val (.int p4), .val (.long p5), .second, .val (.int kk83), .val (.int sg84), .val (.int ax85), .val (.int un), .val (.long uq86), .second, .val (.long r087), .second, .unset, .unset, .unset, .unset, .unset, .unset, .unset, .unset, .unset, .unset, .unset, .unset] [(.int (23 : Int32))]))
    obtain ⟨T143, h143, k143, X143, e143, E143, A143, st143⟩ := newP X0 hx hZ (hw _ (List.mem_of_getElem? (i := 2) rfl)) e0 (g := (mkF m 65 #[.val (.long p1), .second, .val (.int p2), .val (.int p3), .val (.int p4), .val (.long p5), .second, .val (.int kk83), .val (.int sg84), .val (.int ax85), .val (.int un), .val (.long uq86), .second, .val (.long r087), .second, .unset, .unset, .unset, .unset, .unset, .unset, .unset, .unset, .unset, .unset, .unset, .unset] [(.int (23 : Int32))])) rfl (hb hby at_65) rfl (by decide) (cap := 23) (by decide) (by decide) (by decide) (by decide)
    obtain ⟨b143, gb143⟩ : ∃ z, z = h0.size := ⟨_, rfl⟩
    rw [← gb143] at A143 st143
    have F143 := own_F.new A143 (n := 23) (by decide) (by decide)
    have nb143 : n0 ≤ b143 := by rw [gb143]; exact Z0
    have Z143 : n0 ≤ h143.size := Nat.le_trans Z0 E143.1
    refine own_go st143 ?_
    show own_End p e below s _ _ _ (T143.setTop (mkF m 67 #[.val (.long p1), .second, .val (.int p2), .val (.int p3), .val (.int p4), .val (.long p5), .second, .val (.int kk83), .val (.int sg84), .val (.int ax85), .val (.int un), .val (.long uq86), .second, .val (.long r087), .second, .unset, .unset, .unset, .unset, .unset, .unset, .unset, .unset, .unset, .unset, .unset, .unset] [(.ref b143)]))
    refine own_go (fun t k => XS.astore X143.here hx rfl (hb hby at_67) rfl rfl (l' := #[.val (.long p1), .second, .val (.int p2), .val (.int p3), .val (.int p4), .val (.long p5), .second, .val (.int kk83), .val (.int sg84), .val (.int ax85), .val (.int un), .val (.long uq86), .second, .val (.long r087), .second, .val (.ref b143), .unset, .unset, .unset, .unset, .unset, .unset, .unset, .unset, .unset, .unset, .unset]) rfl k) ?_
    show own_End p e below s _ _ _ (T143.setTop (mkF m 69 #[.val (.long p1), .second, .val (.int p2), .val (.int p3), .val (.int p4), .val (.long p5), .second, .val (.int kk83), .val (.int sg84), .val (.int ax85), .val (.int un), .val (.long uq86), .second, .val (.long r087), .second, .val (.ref b143), .unset, .unset, .unset, .unset, .unset, .unset, .unset, .unset, .unset, .unset, .unset] []))
    refine own_go (fun t k => XS.aload X143.here hx rfl (hb hby at_69) rfl rfl k) ?_
    show own_End p e below s _ _ _ (T143.setTop (mkF m 71 #[.val (.long p1), .second, .val (.int p2), .val (.int p3), .val (.int p4), .val (.long p5), .second, .val (.int kk83), .val (.int sg84), .val (.int ax85), .val (.int un), .val (.long uq86), .second, .val (.long r087), .second, .val (.ref b143), .unset, .unset, .unset, .unset, .unset, .unset, .unset, .unset, .unset, .unset, .unset] [(.ref b143)]))
    refine own_go (fun t k => XS.iconst X143.here hx rfl (hb hby at_71) k) ?_
    show own_End p e below s _ _ _ (T143.setTop (mkF m 72 #[.val (.long p1), .second, .val (.int p2), .val (.int p3), .val (.int p4), .val (.long p5), .second, .val (.int kk83), .val (.int sg84), .val (.int ax85), .val (.int un), .val (.long uq86), .second, .val (.long r087), .second, .val (.ref b143), .unset, .unset, .unset, .unset, .unset, .unset, .unset, .unset, .unset, .unset, .unset] [(.int (0 : Int32)), (.ref b143)]))
    refine own_go (fun t k => XS.iloadN X143.here hx rfl (hb hby at_72) rfl k) ?_
    show own_End p e below s _ _ _ (T143.setTop (mkF m 73 #[.val (.long p1), .second, .val (.int p2), .val (.int p3), .val (.int p4), .val (.long p5), .second, .val (.int kk83), .val (.int sg84), .val (.int ax85), .val (.int un), .val (.long uq86), .second, .val (.long r087), .second, .val (.ref b143), .unset, .unset, .unset, .unset, .unset, .unset, .unset, .unset, .unset, .unset, .unset] [(.int p3), (.int (0 : Int32)), (.ref b143)]))
    refine own_go (fun t k => XS.sipush X143.here hx rfl (hb hby at_73) k) ?_
    show own_End p e below s _ _ _ (T143.setTop (mkF m 76 #[.val (.long p1), .second, .val (.int p2), .val (.int p3), .val (.int p4), .val (.long p5), .second, .val (.int kk83), .val (.int sg84), .val (.int ax85), .val (.int un), .val (.long uq86), .second, .val (.long r087), .second, .val (.ref b143), .unset, .unset, .unset, .unset, .unset, .unset, .unset, .unset, .unset, .unset, .unset] [(.int (255 : Int32)), (.int p3), (.int (0 : Int32)), (.ref b143)]))
    refine own_go (fun t k => XS.iand X143.here hx rfl (hb hby at_76) rfl k) ?_
    show own_End p e below s _ _ _ (T143.setTop (mkF m 77 #[.val (.long p1), .second, .val (.int p2), .val (.int p3), .val (.int p4), .val (.long p5), .second, .val (.int kk83), .val (.int sg84), .val (.int ax85), .val (.int un), .val (.long uq86), .second, .val (.long r087), .second, .val (.ref b143), .unset, .unset, .unset, .unset, .unset, .unset, .unset, .unset, .unset, .unset, .unset] [(.int (p3 &&& (255 : Int32))), (.int (0 : Int32)), (.ref b143)]))
    refine own_go (fun t k => XT.i2c X143.here hx rfl (hb hby at_77) rfl k) ?_
    show own_End p e below s _ _ _ (T143.setTop (mkF m 78 #[.val (.long p1), .second, .val (.int p2), .val (.int p3), .val (.int p4), .val (.long p5), .second, .val (.int kk83), .val (.int sg84), .val (.int ax85), .val (.int un), .val (.long uq86), .second, .val (.long r087), .second, .val (.ref b143), .unset, .unset, .unset, .unset, .unset, .unset, .unset, .unset, .unset, .unset, .unset] [(.int ((p3 &&& (255 : Int32)).toUInt32.toUInt16.toUInt32.toInt32)), (.int (0 : Int32)), (.ref b143)]))
    obtain ⟨T144, h144, X144, e144, W144, F144, st144⟩ := own_fstC X143 hx hZ e143 F143 (j := (0 : Int32)) (x := ((p3 &&& (255 : Int32)).toUInt32.toUInt16.toUInt32.toInt32)) 0 (by decide) (by decide) (pc := 78) (Ls := #[.val (.long p1), .second, .val (.int p2), .val (.int p3), .val (.int p4), .val (.long p5), .second, .val (.int kk83), .val (.int sg84), .val (.int ax85), .val (.int un), .val (.long uq86), .second, .val (.long r087), .second, .val (.ref b143), .unset, .unset, .unset, .unset, .unset, .unset, .unset, .unset, .unset, .unset, .unset]) (rest := []) (hb hby at_78)
    have N144 := Fr.snoc X144 N0 nb143
    have Z144 : n0 ≤ h144.size := by rw [W144.size]; exact Z143
    refine own_go st144 ?_
    show own_End p e below s _ _ _ (T144.setTop (mkF m 79 #[.val (.long p1), .second, .val (.int p2), .val (.int p3), .val (.int p4), .val (.long p5), .second, .val (.int kk83), .val (.int sg84), .val (.int ax85), .val (.int un), .val (.long uq86), .second, .val (.long r087), .second, .val (.ref b143), .unset, .unset, .unset, .unset, .unset, .unset, .unset, .unset, .unset, .unset, .unset] []))
    refine own_go (fun t k => XS.aload X144.here hx rfl (hb hby at_79) rfl rfl k) ?_
    show own_End p e below s _ _ _ (T144.setTop (mkF m 81 #[.val (.long p1), .second, .val (.int p2), .val (.int p3), .val (.int p4), .val (.long p5), .second, .val (.int kk83), .val (.int sg84), .val (.int ax85), .val (.int un), .val (.long uq86), .second, .val (.long r087), .second, .val (.ref b143), .unset, .unset, .unset, .unset, .unset, .unset, .unset, .unset, .unset, .unset, .unset] [(.ref b143)]))
    refine own_go (fun t k => XS.bipush X144.here hx rfl (hb hby at_81) k) ?_
    show own_End p e below s _ _ _ (T144.setTop (mkF m 83 #[.val (.long p1), .second, .val (.int p2), .val (.int p3), .val (.int p4), .val (.long p5), .second, .val (.int kk83), .val (.int sg84), .val (.int ax85), .val (.int un), .val (.long uq86), .second, .val (.long r087), .second, .val (.ref b143), .unset, .unset, .unset, .unset, .unset, .unset, .unset, .unset, .unset, .unset, .unset] [(.int (22 : Int32)), (.ref b143)]))
    refine own_go (fun t k => XS.iloadN X144.here hx rfl (hb hby at_83) rfl k) ?_
    show own_End p e below s _ _ _ (T144.setTop (mkF m 84 #[.val (.long p1), .second, .val (.int p2), .val (.int p3), .val (.int p4), .val (.long p5), .second, .val (.int kk83), .val (.int sg84), .val (.int ax85), .val (.int un), .val (.long uq86), .second, .val (.long r087), .second, .val (.ref b143), .unset, .unset, .unset, .unset, .unset, .unset, .unset, .unset, .unset, .unset, .unset] [(.int p3), (.int (22 : Int32)), (.ref b143)]))
    refine own_go (fun t k => XS.bipush X144.here hx rfl (hb hby at_84) k) ?_
    show own_End p e below s _ _ _ (T144.setTop (mkF m 86 #[.val (.long p1), .second, .val (.int p2), .val (.int p3), .val (.int p4), .val (.long p5), .second, .val (.int kk83), .val (.int sg84), .val (.int ax85), .val (.int un), .val (.long uq86), .second, .val (.long r087), .second, .val (.ref b143), .unset, .unset, .unset, .unset, .unset, .unset, .unset, .unset, .unset, .unset, .unset] [(.int (8 : Int32)), (.int p3), (.int (22 : Int32)), (.ref b143)]))
    refine own_go (fun t k => XT.iushr X144.here hx rfl (hb hby at_86) rfl k) ?_
    show own_End p e below s _ _ _ (T144.setTop (mkF m 87 #[.val (.long p1), .second, .val (.int p2), .val (.int p3), .val (.int p4), .val (.long p5), .second, .val (.int kk83), .val (.int sg84), .val (.int ax85), .val (.int un), .val (.long uq86), .second, .val (.long r087), .second, .val (.ref b143), .unset, .unset, .unset, .unset, .unset, .unset, .unset, .unset, .unset, .unset, .unset] [(.int (XT.ushr p3 (8 : Int32))), (.int (22 : Int32)), (.ref b143)]))
    refine own_go (fun t k => XS.sipush X144.here hx rfl (hb hby at_87) k) ?_
    show own_End p e below s _ _ _ (T144.setTop (mkF m 90 #[.val (.long p1), .second, .val (.int p2), .val (.int p3), .val (.int p4), .val (.long p5), .second, .val (.int kk83), .val (.int sg84), .val (.int ax85), .val (.int un), .val (.long uq86), .second, .val (.long r087), .second, .val (.ref b143), .unset, .unset, .unset, .unset, .unset, .unset, .unset, .unset, .unset, .unset, .unset] [(.int (255 : Int32)), (.int (XT.ushr p3 (8 : Int32))), (.int (22 : Int32)), (.ref b143)]))
    refine own_go (fun t k => XS.iand X144.here hx rfl (hb hby at_90) rfl k) ?_
    show own_End p e below s _ _ _ (T144.setTop (mkF m 91 #[.val (.long p1), .second, .val (.int p2), .val (.int p3), .val (.int p4), .val (.long p5), .second, .val (.int kk83), .val (.int sg84), .val (.int ax85), .val (.int un), .val (.long uq86), .second, .val (.long r087), .second, .val (.ref b143), .unset, .unset, .unset, .unset, .unset, .unset, .unset, .unset, .unset, .unset, .unset] [(.int ((XT.ushr p3 (8 : Int32)) &&& (255 : Int32))), (.int (22 : Int32)), (.ref b143)]))
    refine own_go (fun t k => XT.i2c X144.here hx rfl (hb hby at_91) rfl k) ?_
    show own_End p e below s _ _ _ (T144.setTop (mkF m 92 #[.val (.long p1), .second, .val (.int p2), .val (.int p3), .val (.int p4), .val (.long p5), .second, .val (.int kk83), .val (.int sg84), .val (.int ax85), .val (.int un), .val (.long uq86), .second, .val (.long r087), .second, .val (.ref b143), .unset, .unset, .unset, .unset, .unset, .unset, .unset, .unset, .unset, .unset, .unset] [(.int (((XT.ushr p3 (8 : Int32)) &&& (255 : Int32)).toUInt32.toUInt16.toUInt32.toInt32)), (.int (22 : Int32)), (.ref b143)]))
    obtain ⟨T146, h146, X146, e146, W146, F146, st146⟩ := own_fstC X144 hx hZ e144 F144 (j := (22 : Int32)) (x := (((XT.ushr p3 (8 : Int32)) &&& (255 : Int32)).toUInt32.toUInt16.toUInt32.toInt32)) 22 (by decide) (by decide) (pc := 92) (Ls := #[.val (.long p1), .second, .val (.int p2), .val (.int p3), .val (.int p4), .val (.long p5), .second, .val (.int kk83), .val (.int sg84), .val (.int ax85), .val (.int un), .val (.long uq86), .second, .val (.long r087), .second, .val (.ref b143), .unset, .unset, .unset, .unset, .unset, .unset, .unset, .unset, .unset, .unset, .unset]) (rest := []) (hb hby at_92)
    have N146 := Fr.snoc X146 N144 nb143
    have Z146 : n0 ≤ h146.size := by rw [W146.size]; exact Z144
    refine own_go st146 ?_
    show own_End p e below s _ _ _ (T146.setTop (mkF m 93 #[.val (.long p1), .second, .val (.int p2), .val (.int p3), .val (.int p4), .val (.long p5), .second, .val (.int kk83), .val (.int sg84), .val (.int ax85), .val (.int un), .val (.long uq86), .second, .val (.long r087), .second, .val (.ref b143), .unset, .unset, .unset, .unset, .unset, .unset, .unset, .unset, .unset, .unset, .unset] []))
    refine own_go (fun t k => XS.aload X146.here hx rfl (hb hby at_93) rfl rfl k) ?_
    show own_End p e below s _ _ _ (T146.setTop (mkF m 95 #[.val (.long p1), .second, .val (.int p2), .val (.int p3), .val (.int p4), .val (.long p5), .second, .val (.int kk83), .val (.int sg84), .val (.int ax85), .val (.int un), .val (.long uq86), .second, .val (.long r087), .second, .val (.ref b143), .unset, .unset, .unset, .unset, .unset, .unset, .unset, .unset, .unset, .unset, .unset] [(.ref b143)]))
    refine own_go (fun t k => XS.bipush X146.here hx rfl (hb hby at_95) k) ?_
    show own_End p e below s _ _ _ (T146.setTop (mkF m 97 #[.val (.long p1), .second, .val (.int p2), .val (.int p3), .val (.int p4), .val (.long p5), .second, .val (.int kk83), .val (.int sg84), .val (.int ax85), .val (.int un), .val (.long uq86), .second, .val (.long r087), .second, .val (.ref b143), .unset, .unset, .unset, .unset, .unset, .unset, .unset, .unset, .unset, .unset, .unset] [(.int (21 : Int32)), (.ref b143)]))
    refine own_go (fun t k => XT.lload X146.here hx rfl (hb hby at_97) rfl k) ?_
    show own_End p e below s _ _ _ (T146.setTop (mkF m 99 #[.val (.long p1), .second, .val (.int p2), .val (.int p3), .val (.int p4), .val (.long p5), .second, .val (.int kk83), .val (.int sg84), .val (.int ax85), .val (.int un), .val (.long uq86), .second, .val (.long r087), .second, .val (.ref b143), .unset, .unset, .unset, .unset, .unset, .unset, .unset, .unset, .unset, .unset, .unset] [(.long uq86), (.int (21 : Int32)), (.ref b143)]))
    refine own_go (fun t k => XT.lload X146.here hx rfl (hb hby at_99) rfl k) ?_
    show own_End p e below s _ _ _ (T146.setTop (mkF m 101 #[.val (.long p1), .second, .val (.int p2), .val (.int p3), .val (.int p4), .val (.long p5), .second, .val (.int kk83), .val (.int sg84), .val (.int ax85), .val (.int un), .val (.long uq86), .second, .val (.long r087), .second, .val (.ref b143), .unset, .unset, .unset, .unset, .unset, .unset, .unset, .unset, .unset, .unset, .unset] [(.long r087), (.long uq86), (.int (21 : Int32)), (.ref b143)]))
    refine own_go (fun t k => XS.iconst X146.here hx rfl (hb hby at_101) k) ?_
    show own_End p e below s _ _ _ (T146.setTop (mkF m 102 #[.val (.long p1), .second, .val (.int p2), .val (.int p3), .val (.int p4), .val (.long p5), .second, .val (.int kk83), .val (.int sg84), .val (.int ax85), .val (.int un), .val (.long uq86), .second, .val (.long r087), .second, .val (.ref b143), .unset, .unset, .unset, .unset, .unset, .unset, .unset, .unset, .unset, .unset, .unset] [(.int (0 : Int32)), (.long r087), (.long uq86), (.int (21 : Int32)), (.ref b143)]))
    obtain ⟨v148, T148, L148, X148, hQ148, st148⟩ := own_callS X146 hx hZ (y := (⟨"com/example/ordinate/ordinate/sql/NumbersParseIntegerPinLaw", "digit", "(JJI)C"⟩ : MethodName)) 2 hown (hw _ (List.mem_of_getElem? (i := 3) rfl)) (hw _ (List.mem_of_getElem? (i := 4) rfl)) (hw _ (List.mem_of_getElem? (i := 5) rfl)) (hw _ (List.mem_of_getElem? (i := 6) rfl)) (by decide) (rm1_0 l Z a0 hw [] uq86 r087 h146 n0 Z146 Nn hr) e146 (pc := 102) (Ls := #[.val (.long p1), .second, .val (.int p2), .val (.int p3), .val (.int p4), .val (.long p5), .second, .val (.int kk83), .val (.int sg84), .val (.int ax85), .val (.int un), .val (.long uq86), .second, .val (.long r087), .second, .val (.ref b143), .unset, .unset, .unset, .unset, .unset, .unset, .unset, .unset, .unset, .unset, .unset]) [(.long uq86), (.long r087), (.int (0 : Int32))] [(.int (21 : Int32)), (.ref b143)] (by rw [hml]; rfl) rfl rfl (lenOf pd_JJI_C rfl) (Nat.le_of_eq rfl) (hb hby at_102) (by decide) (by decide) (by decide) (by decide)
    obtain ⟨d0, rfl, hd0, Nd0, ed0⟩ := hQ148
    have Ne0 := Fr.app N146 Nd0
    refine own_go st148 ?_
    show own_End p e below s _ _ _ (T148.setTop (mkF m 105 #[.val (.long p1), .second, .val (.int p2), .val (.int p3), .val (.int p4), .val (.long p5), .second, .val (.int kk83), .val (.int sg84), .val (.int ax85), .val (.int un), .val (.long uq86), .second, .val (.long r087), .second, .val (.ref b143), .unset, .unset, .unset, .unset, .unset, .unset, .unset, .unset, .unset, .unset, .unset] [(.int d0), (.int (21 : Int32)), (.ref b143)]))
    obtain ⟨T149, h149, X149, e149, W149, F149, st149⟩ := own_fstC X148 hx hZ ed0 F146 (j := (21 : Int32)) (x := d0) 21 (by decide) (by decide) (pc := 105) (Ls := #[.val (.long p1), .second, .val (.int p2), .val (.int p3), .val (.int p4), .val (.long p5), .second, .val (.int kk83), .val (.int sg84), .val (.int ax85), .val (.int un), .val (.long uq86), .second, .val (.long r087), .second, .val (.ref b143), .unset, .unset, .unset, .unset, .unset, .unset, .unset, .unset, .unset, .unset, .unset]) (rest := []) (hb hby at_105)
    have N149 := Fr.snoc X149 Ne0 nb143
    have Z149 : n0 ≤ h149.size := by rw [W149.size]; exact Z146
    refine own_go st149 ?_
    show own_End p e below s _ _ _ (T149.setTop (mkF m 106 #[.val (.long p1), .second, .val (.int p2), .val (.int p3), .val (.int p4), .val (.long p5), .second, .val (.int kk83), .val (.int sg84), .val (.int ax85), .val (.int un), .val (.long uq86), .second, .val (.long r087), .second, .val (.ref b143), .unset, .unset, .unset, .unset, .unset, .unset, .unset, .unset, .unset, .unset, .unset] []))
    refine own_go (fun t k => XS.aload X149.here hx rfl (hb hby at_106) rfl rfl k) ?_
    show own_End p e below s _ _ _ (T149.setTop (mkF m 108 #[.val (.long p1), .second, .val (.int p2), .val (.int p3), .val (.int p4), .val (.long p5), .second, .val (.int kk83), .val (.int sg84), .val (.int ax85), .val (.int un), .val (.long uq86), .second, .val (.long r087), .second, .val (.ref b143), .unset, .unset, .unset, .unset, .unset, .unset, .unset, .unset, .unset, .unset, .unset] [(.ref b143)]))
    refine own_go (fun t k => XS.bipush X149.here hx rfl (hb hby at_108) k) ?_
    show own_End p e below s _ _ _ (T149.setTop (mkF m 110 #[.val (.long p1), .second, .val (.int p2), .val (.int p3), .val (.int p4), .val (.long p5), .second, .val (.int kk83), .val (.int sg84), .val (.int ax85), .val (.int un), .val (.long uq86), .second, .val (.long r087), .second, .val (.ref b143), .unset, .unset, .unset, .unset, .unset, .unset, .unset, .unset, .unset, .unset, .unset] [(.int (20 : Int32)), (.ref b143)]))
    refine own_go (fun t k => XT.lload X149.here hx rfl (hb hby at_110) rfl k) ?_
    show own_End p e below s _ _ _ (T149.setTop (mkF m 112 #[.val (.long p1), .second, .val (.int p2), .val (.int p3), .val (.int p4), .val (.long p5), .second, .val (.int kk83), .val (.int sg84), .val (.int ax85), .val (.int un), .val (.long uq86), .second, .val (.long r087), .second, .val (.ref b143), .unset, .unset, .unset, .unset, .unset, .unset, .unset, .unset, .unset, .unset, .unset] [(.long uq86), (.int (20 : Int32)), (.ref b143)]))
    refine own_go (fun t k => XT.lload X149.here hx rfl (hb hby at_112) rfl k) ?_
    show own_End p e below s _ _ _ (T149.setTop (mkF m 114 #[.val (.long p1), .second, .val (.int p2), .val (.int p3), .val (.int p4), .val (.long p5), .second, .val (.int kk83), .val (.int sg84), .val (.int ax85), .val (.int un), .val (.long uq86), .second, .val (.long r087), .second, .val (.ref b143), .unset, .unset, .unset, .unset, .unset, .unset, .unset, .unset, .unset, .unset, .unset] [(.long r087), (.long uq86), (.int (20 : Int32)), (.ref b143)]))
    refine own_go (fun t k => XS.iconst X149.here hx rfl (hb hby at_114) k) ?_
    show own_End p e below s _ _ _ (T149.setTop (mkF m 115 #[.val (.long p1), .second, .val (.int p2), .val (.int p3), .val (.int p4), .val (.long p5), .second, .val (.int kk83), .val (.int sg84), .val (.int ax85), .val (.int un), .val (.long uq86), .second, .val (.long r087), .second, .val (.ref b143), .unset, .unset, .unset, .unset, .unset, .unset, .unset, .unset, .unset, .unset, .unset] [(.int (1 : Int32)), (.long r087), (.long uq86), (.int (20 : Int32)), (.ref b143)]))
    obtain ⟨v151, T151, L151, X151, hQ151, st151⟩ := own_callS X149 hx hZ (y := (⟨"com/example/ordinate/ordinate/sql/NumbersParseIntegerPinLaw", "digit", "(JJI)C"⟩ : MethodName)) 2 hown (hw _ (List.mem_of_getElem? (i := 3) rfl)) (hw _ (List.mem_of_getElem? (i := 4) rfl)) (hw _ (List.mem_of_getElem? (i := 5) rfl)) (hw _ (List.mem_of_getElem? (i := 6) rfl)) (by decide) (rm1_1 l Z a0 hw [] uq86 r087 (1 : Int32) h149 n0 Z149 (Nn / 10) 0 hu (by decide) (by decide)) e149 (pc := 115) (Ls := #[.val (.long p1), .second, .val (.int p2), .val (.int p3), .val (.int p4), .val (.long p5), .second, .val (.int kk83), .val (.int sg84), .val (.int ax85), .val (.int un), .val (.long uq86), .second, .val (.long r087), .second, .val (.ref b143), .unset, .unset, .unset, .unset, .unset, .unset, .unset, .unset, .unset, .unset, .unset]) [(.long uq86), (.long r087), (.int (1 : Int32))] [(.int (20 : Int32)), (.ref b143)] (by rw [hml]; rfl) rfl rfl (lenOf pd_JJI_C rfl) (Nat.le_of_eq rfl) (hb hby at_115) (by decide) (by decide) (by decide) (by decide)
    obtain ⟨h152, e152⟩ : ∃ z, T151.heap = z := ⟨_, rfl⟩
    rw [e152] at hQ151
    obtain ⟨d1, rfl, hd1, Nd1, Kd1⟩ := hQ151
    have Ne1 := Fr.app N149 Nd1
    have Z152 : n0 ≤ h152.size := Nat.le_trans Z149 Kd1.1
    have f153 := F149.keep Kd1 nin0
    refine own_go st151 ?_
    show own_End p e below s _ _ _ (T151.setTop (mkF m 118 #[.val (.long p1), .second, .val (.int p2), .val (.int p3), .val (.int p4), .val (.long p5), .second, .val (.int kk83), .val (.int sg84), .val (.int ax85), .val (.int un), .val (.long uq86), .second, .val (.long r087), .second, .val (.ref b143), .unset, .unset, .unset, .unset, .unset, .unset, .unset, .unset, .unset, .unset, .unset] [(.int d1), (.int (20 : Int32)), (.ref b143)]))
    obtain ⟨T154, h154, X154, e154, W154, F154, st154⟩ := own_fstC X151 hx hZ e152 f153 (j := (20 : Int32)) (x := d1) 20 (by decide) (by decide) (pc := 118) (Ls := #[.val (.long p1), .second, .val (.int p2), .val (.int p3), .val (.int p4), .val (.long p5), .second, .val (.int kk83), .val (.int sg84), .val (.int ax85), .val (.int un), .val (.long uq86), .second, .val (.long r087), .second, .val (.ref b143), .unset, .unset, .unset, .unset, .unset, .unset, .unset, .unset, .unset, .unset, .unset]) (rest := []) (hb hby at_118)
    have N154 := Fr.snoc X154 Ne1 nb143
    have Z154 : n0 ≤ h154.size := by rw [W154.size]; exact Z152
    refine own_go st154 ?_
    show own_End p e below s _ _ _ (T154.setTop (mkF m 119 #[.val (.long p1), .second, .val (.int p2), .val (.int p3), .val (.int p4), .val (.long p5), .second, .val (.int kk83), .val (.int sg84), .val (.int ax85), .val (.int un), .val (.long uq86), .second, .val (.long r087), .second, .val (.ref b143), .unset, .unset, .unset, .unset, .unset, .unset, .unset, .unset, .unset, .unset, .unset] []))
    refine own_go (fun t k => XS.aload X154.here hx rfl (hb hby at_119) rfl rfl k) ?_
    show own_End p e below s _ _ _ (T154.setTop (mkF m 121 #[.val (.long p1), .second, .val (.int p2), .val (.int p3), .val (.int p4), .val (.long p5), .second, .val (.int kk83), .val (.int sg84), .val (.int ax85), .val (.int un), .val (.long uq86), .second, .val (.long r087), .second, .val (.ref b143), .unset, .unset, .unset, .unset, .unset, .unset, .unset, .unset, .unset, .unset, .unset] [(.ref b143)]))
    refine own_go (fun t k => XS.bipush X154.here hx rfl (hb hby at_121) k) ?_
    show own_End p e below s _ _ _ (T154.setTop (mkF m 123 #[.val (.long p1), .second, .val (.int p2), .val (.int p3), .val (.int p4), .val (.long p5), .second, .val (.int kk83), .val (.int sg84), .val (.int ax85), .val (.int un), .val (.long uq86), .second, .val (.long r087), .second, .val (.ref b143), .unset, .unset, .unset, .unset, .unset, .unset, .unset, .unset, .unset, .unset, .unset] [(.int (19 : Int32)), (.ref b143)]))
    refine own_go (fun t k => XT.lload X154.here hx rfl (hb hby at_123) rfl k) ?_
    show own_End p e below s _ _ _ (T154.setTop (mkF m 125 #[.val (.long p1), .second, .val (.int p2), .val (.int p3), .val (.int p4), .val (.long p5), .second, .val (.int kk83), .val (.int sg84), .val (.int ax85), .val (.int un), .val (.long uq86), .second, .val (.long r087), .second, .val (.ref b143), .unset, .unset, .unset, .unset, .unset, .unset, .unset, .unset, .unset, .unset, .unset] [(.long uq86), (.int (19 : Int32)), (.ref b143)]))
    refine own_go (fun t k => XT.lload X154.here hx rfl (hb hby at_125) rfl k) ?_
    show own_End p e below s _ _ _ (T154.setTop (mkF m 127 #[.val (.long p1), .second, .val (.int p2), .val (.int p3), .val (.int p4), .val (.long p5), .second, .val (.int kk83), .val (.int sg84), .val (.int ax85), .val (.int un), .val (.long uq86), .second, .val (.long r087), .second, .val (.ref b143), .unset, .unset, .unset, .unset, .unset, .unset, .unset, .unset, .unset, .unset, .unset] [(.long r087), (.long uq86), (.int (19 : Int32)), (.ref b143)]))
    refine own_go (fun t k => XS.iconst X154.here hx rfl (hb hby at_127) k) ?_
    show own_End p e below s _ _ _ (T154.setTop (mkF m 128 #[.val (.long p1), .second, .val (.int p2), .val (.int p3), .val (.int p4), .val (.long p5), .second, .val (.int kk83), .val (.int sg84), .val (.int ax85), .val (.int un), .val (.long uq86), .second, .val (.long r087), .second, .val (.ref b143), .unset, .unset, .unset, .unset, .unset, .unset, .unset, .unset, .unset, .unset, .unset] [(.int (2 : Int32)), (.long r087), (.long uq86), (.int (19 : Int32)), (.ref b143)]))
    obtain ⟨v156, T156, L156, X156, hQ156, st156⟩ := own_callS X154 hx hZ (y := (⟨"com/example/ordinate/ordinate/sql/NumbersParseIntegerPinLaw", "digit", "(JJI)C"⟩ : MethodName)) 2 hown (hw _ (List.mem_of_getElem? (i := 3) rfl)) (hw _ (List.mem_of_getElem? (i := 4) rfl)) (hw _ (List.mem_of_getElem? (i := 5) rfl)) (hw _ (List.mem_of_getElem? (i := 6) rfl)) (by decide) (rm1_1 l Z a0 hw [] uq86 r087 (2 : Int32) h154 n0 Z154 (Nn / 10) 1 hu (by decide) (by decide)) e154 (pc := 128) (Ls := #[.val (.long p1), .second, .val (.int p2), .val (.int p3), .val (.int p4), .val (.long p5), .second, .val (.int kk83), .val (.int sg84), .val (.int ax85), .val (.int un), .val (.long uq86), .second, .val (.long r087), .second, .val (.ref b143), .unset, .unset, .unset, .unset, .unset, .unset, .unset, .unset, .unset, .unset, .unset]) [(.long uq86), (.long r087), (.int (2 : Int32))] [(.int (19 : Int32)), (.ref b143)] (by rw [hml]; rfl) rfl rfl (lenOf pd_JJI_C rfl) (Nat.le_of_eq rfl) (hb hby at_128) (by decide) (by decide) (by decide) (by decide)
    obtain ⟨h157, e157⟩ : ∃ z, T156.heap = z := ⟨_, rfl⟩
    rw [e157] at hQ156
    obtain ⟨d2, rfl, hd2, Nd2, Kd2⟩ := hQ156
    have Ne2 := Fr.app N154 Nd2
    have Z157 : n0 ≤ h157.size := Nat.le_trans Z154 Kd2.1
    have f158 := F154.keep Kd2 nin0
    refine own_go st156 ?_
    show own_End p e below s _ _ _ (T156.setTop (mkF m 131 #[.val (.long p1), .second, .val (.int p2), .val (.int p3), .val (.int p4), .val (.long p5), .second, .val (.int kk83), .val (.int sg84), .val (.int ax85), .val (.int un), .val (.long uq86), .second, .val (.long r087), .second, .val (.ref b143), .unset, .unset, .unset, .unset, .unset, .unset, .unset, .unset, .unset, .unset, .unset] [(.int d2), (.int (19 : Int32)), (.ref b143)]))
    obtain ⟨T159, h159, X159, e159, W159, F159, st159⟩ := own_fstC X156 hx hZ e157 f158 (j := (19 : Int32)) (x := d2) 19 (by decide) (by decide) (pc := 131) (Ls := #[.val (.long p1), .second, .val (.int p2), .val (.int p3), .val (.int p4), .val (.long p5), .second, .val (.int kk83), .val (.int sg84), .val (.int ax85), .val (.int un), .val (.long uq86), .second, .val (.long r087), .second, .val (.ref b143), .unset, .unset, .unset, .unset, .unset, .unset, .unset, .unset, .unset, .unset, .unset]) (rest := []) (hb hby at_131)
    have N159 := Fr.snoc X159 Ne2 nb143
    have Z159 : n0 ≤ h159.size := by rw [W159.size]; exact Z157
    refine own_go st159 ?_
    show own_End p e below s _ _ _ (T159.setTop (mkF m 132 #[.val (.long p1), .second, .val (.int p2), .val (.int p3), .val (.int p4), .val (.long p5), .second, .val (.int kk83), .val (.int sg84), .val (.int ax85), .val (.int un), .val (.long uq86), .second, .val (.long r087), .second, .val (.ref b143), .unset, .unset, .unset, .unset, .unset, .unset, .unset, .unset, .unset, .unset, .unset] []))
    refine own_go (fun t k => XS.aload X159.here hx rfl (hb hby at_132) rfl rfl k) ?_
    show own_End p e below s _ _ _ (T159.setTop (mkF m 134 #[.val (.long p1), .second, .val (.int p2), .val (.int p3), .val (.int p4), .val (.long p5), .second, .val (.int kk83), .val (.int sg84), .val (.int ax85), .val (.int un), .val (.long uq86), .second, .val (.long r087), .second, .val (.ref b143), .unset, .unset, .unset, .unset, .unset, .unset, .unset, .unset, .unset, .unset, .unset] [(.ref b143)]))
    refine own_go (fun t k => XS.bipush X159.here hx rfl (hb hby at_134) k) ?_
    show own_End p e below s _ _ _ (T159.setTop (mkF m 136 #[.val (.long p1), .second, .val (.int p2), .val (.int p3), .val (.int p4), .val (.long p5), .second, .val (.int kk83), .val (.int sg84), .val (.int ax85), .val (.int un), .val (.long uq86), .second, .val (.long r087), .second, .val (.ref b143), .unset, .unset, .unset, .unset, .unset, .unset, .unset, .unset, .unset, .unset, .unset] [(.int (18 : Int32)), (.ref b143)]))
    refine own_go (fun t k => XT.lload X159.here hx rfl (hb hby at_136) rfl k) ?_
    show own_End p e below s _ _ _ (T159.setTop (mkF m 138 #[.val (.long p1), .second, .val (.int p2), .val (.int p3), .val (.int p4), .val (.long p5), .second, .val (.int kk83), .val (.int sg84), .val (.int ax85), .val (.int un), .val (.long uq86), .second, .val (.long r087), .second, .val (.ref b143), .unset, .unset, .unset, .unset, .unset, .unset, .unset, .unset, .unset, .unset, .unset] [(.long uq86), (.int (18 : Int32)), (.ref b143)]))
    refine own_go (fun t k => XT.lload X159.here hx rfl (hb hby at_138) rfl k) ?_
    show own_End p e below s _ _ _ (T159.setTop (mkF m 140 #[.val (.long p1), .second, .val (.int p2), .val (.int p3), .val (.int p4), .val (.long p5), .second, .val (.int kk83), .val (.int sg84), .val (.int ax85), .val (.int un), .val (.long uq86), .second, .val (.long r087), .second, .val (.ref b143), .unset, .unset, .unset, .unset, .unset, .unset, .unset, .unset, .unset, .unset, .unset] [(.long r087), (.long uq86), (.int (18 : Int32)), (.ref b143)]))
    refine own_go (fun t k => XS.iconst X159.here hx rfl (hb hby at_140) k) ?_
    show own_End p e below s _ _ _ (T159.setTop (mkF m 141 #[.val (.long p1), .second, .val (.int p2), .val (.int p3), .val (.int p4), .val (.long p5), .second, .val (.int kk83), .val (.int sg84), .val (.int ax85), .val (.int un), .val (.long uq86), .second, .val (.long r087), .second, .val (.ref b143), .unset, .unset, .unset, .unset, .unset, .unset, .unset, .unset, .unset, .unset, .unset] [(.int (3 : Int32)), (.long r087), (.long uq86), (.int (18 : Int32)), (.ref b143)]))
    obtain ⟨v161, T161, L161, X161, hQ161, st161⟩ := own_callS X159 hx hZ (y := (⟨"com/example/ordinate/ordinate/sql/NumbersParseIntegerPinLaw", "digit", "(JJI)C"⟩ : MethodName)) 2 hown (hw _ (List.mem_of_getElem? (i := 3) rfl)) (hw _ (List.mem_of_getElem? (i := 4) rfl)) (hw _ (List.mem_of_getElem? (i := 5) rfl)) (hw _ (List.mem_of_getElem? (i := 6) rfl)) (by decide) (rm1_1 l Z a0 hw [] uq86 r087 (3 : Int32) h159 n0 Z159 (Nn / 10) 2 hu (by decide) (by decide)) e159 (pc := 141) (Ls := #[.val (.long p1), .second, .val (.int p2), .val (.int p3), .val (.int p4), .val (.long p5), .second, .val (.int kk83), .val (.int sg84), .val (.int ax85), .val (.int un), .val (.long uq86), .second, .val (.long r087), .second, .val (.ref b143), .unset, .unset, .unset, .unset, .unset, .unset, .unset, .unset, .unset, .unset, .unset]) [(.long uq86), (.long r087), (.int (3 : Int32))] [(.int (18 : Int32)), (.ref b143)] (by rw [hml]; rfl) rfl rfl (lenOf pd_JJI_C rfl) (Nat.le_of_eq rfl) (hb hby at_141) (by decide) (by decide) (by decide) (by decide)
    obtain ⟨h162, e162⟩ : ∃ z, T161.heap = z := ⟨_, rfl⟩
    rw [e162] at hQ161
    obtain ⟨d3, rfl, hd3, Nd3, Kd3⟩ := hQ161
    have Ne3 := Fr.app N159 Nd3
    have Z162 : n0 ≤ h162.size := Nat.le_trans Z159 Kd3.1
    have f163 := F159.keep Kd3 nin0
    refine own_go st161 ?_
    show own_End p e below s _ _ _ (T161.setTop (mkF m 144 #[.val (.long p1), .second, .val (.int p2), .val (.int p3), .val (.int p4), .val (.long p5), .second, .val (.int kk83), .val (.int sg84), .val (.int ax85), .val (.int un), .val (.long uq86), .second, .val (.long r087), .second, .val (.ref b143), .unset, .unset, .unset, .unset, .unset, .unset, .unset, .unset, .unset, .unset, .unset] [(.int d3), (.int (18 : Int32)), (.ref b143)]))
    obtain ⟨T164, h164, X164, e164, W164, F164, st164⟩ := own_fstC X161 hx hZ e162 f163 (j := (18 : Int32)) (x := d3) 18 (by decide) (by decide) (pc := 144) (Ls := #[.val (.long p1), .second, .val (.int p2), .val (.int p3), .val (.int p4), .val (.long p5), .second, .val (.int kk83), .val (.int sg84), .val (.int ax85), .val (.int un), .val (.long uq86), .second, .val (.long r087), .second, .val (.ref b143), .unset, .unset, .unset, .unset, .unset, .unset, .unset, .unset, .unset, .unset, .unset]) (rest := []) (hb hby at_144)
    have N164 := Fr.snoc X164 Ne3 nb143
    have Z164 : n0 ≤ h164.size := by rw [W164.size]; exact Z162
    refine own_go st164 ?_
    show own_End p e below s _ _ _ (T164.setTop (mkF m 145 #[.val (.long p1), .second, .val (.int p2), .val (.int p3), .val (.int p4), .val (.long p5), .second, .val (.int kk83), .val (.int sg84), .val (.int ax85), .val (.int un), .val (.long uq86), .second, .val (.long r087), .second, .val (.ref b143), .unset, .unset, .unset, .unset, .unset, .unset, .unset, .unset, .unset, .unset, .unset] []))
    refine own_go (fun t k => XS.aload X164.here hx rfl (hb hby at_145) rfl rfl k) ?_
    show own_End p e below s _ _ _ (T164.setTop (mkF m 147 #[.val (.long p1), .second, .val (.int p2), .val (.int p3), .val (.int p4), .val (.long p5), .second, .val (.int kk83), .val (.int sg84), .val (.int ax85), .val (.int un), .val (.long uq86), .second, .val (.long r087), .second, .val (.ref b143), .unset, .unset, .unset, .unset, .unset, .unset, .unset, .unset, .unset, .unset, .unset] [(.ref b143)]))
    refine own_go (fun t k => XS.bipush X164.here hx rfl (hb hby at_147) k) ?_
    show own_End p e below s _ _ _ (T164.setTop (mkF m 149 #[.val (.long p1), .second, .val (.int p2), .val (.int p3), .val (.int p4), .val (.long p5), .second, .val (.int kk83), .val (.int sg84), .val (.int ax85), .val (.int un), .val (.long uq86), .second, .val (.long r087), .second, .val (.ref b143), .unset, .unset, .unset, .unset, .unset, .unset, .unset, .unset, .unset, .unset, .unset] [(.int (17 : Int32)), (.ref b143)]))
    refine own_go (fun t k => XT.lload X164.here hx rfl (hb hby at_149) rfl k) ?_
    show own_End p e below s _ _ _ (T164.setTop (mkF m 151 #[.val (.long p1), .second, .val (.int p2), .val (.int p3), .val (.int p4), .val (.long p5), .second, .val (.int kk83), .val (.int sg84), .val (.int ax85), .val (.int un), .val (.long uq86), .second, .val (.long r087), .second, .val (.ref b143), .unset, .unset, .unset, .unset, .unset, .unset, .unset, .unset, .unset, .unset, .unset] [(.long uq86), (.int (17 : Int32)), (.ref b143)]))
    refine own_go (fun t k => XT.lload X164.here hx rfl (hb hby at_151) rfl k) ?_
    show own_End p e below s _ _ _ (T164.setTop (mkF m 153 #[.val (.long p1), .second, .val (.int p2), .val (.int p3), .val (.int p4), .val (.long p5), .second, .val (.int kk83), .val (.int sg84), .val (.int ax85), .val (.int un), .val (.long uq86), .second, .val (.long r087), .second, .val (.ref b143), .unset, .unset, .unset, .unset, .unset, .unset, .unset, .unset, .unset, .unset, .unset] [(.long r087), (.long uq86), (.int (17 : Int32)), (.ref b143)]))
    refine own_go (fun t k => XS.iconst X164.here hx rfl (hb hby at_153) k) ?_
    show own_End p e below s _ _ _ (T164.setTop (mkF m 154 #[.val (.long p1), .second, .val (.int p2), .val (.int p3), .val (.int p4), .val (.long p5), .second, .val (.int kk83), .val (.int sg84), .val (.int ax85), .val (.int un), .val (.long uq86), .second, .val (.long r087), .second, .val (.ref b143), .unset, .unset, .unset, .unset, .unset, .unset, .unset, .unset, .unset, .unset, .unset] [(.int (4 : Int32)), (.long r087), (.long uq86), (.int (17 : Int32)), (.ref b143)]))
    obtain ⟨v166, T166, L166, X166, hQ166, st166⟩ := own_callS X164 hx hZ (y := (⟨"com/example/ordinate/ordinate/sql/NumbersParseIntegerPinLaw", "digit", "(JJI)C"⟩ : MethodName)) 2 hown (hw _ (List.mem_of_getElem? (i := 3) rfl)) (hw _ (List.mem_of_getElem? (i := 4) rfl)) (hw _ (List.mem_of_getElem? (i := 5) rfl)) (hw _ (List.mem_of_getElem? (i := 6) rfl)) (by decide) (rm1_1 l Z a0 hw [] uq86 r087 (4 : Int32) h164 n0 Z164 (Nn / 10) 3 hu (by decide) (by decide)) e164 (pc := 154) (Ls := #[.val (.long p1), .second, .val (.int p2), .val (.int p3), .val (.int p4), .val (.long p5), .second, .val (.int kk83), .val (.int sg84), .val (.int ax85), .val (.int un), .val (.long uq86), .second, .val (.long r087), .second, .val (.ref b143), .unset, .unset, .unset, .unset, .unset, .unset, .unset, .unset, .unset, .unset, .unset]) [(.long uq86), (.long r087), (.int (4 : Int32))] [(.int (17 : Int32)), (.ref b143)] (by rw [hml]; rfl) rfl rfl (lenOf pd_JJI_C rfl) (Nat.le_of_eq rfl) (hb hby at_154) (by decide) (by decide) (by decide) (by decide)
    obtain ⟨h167, e167⟩ : ∃ z, T166.heap = z := ⟨_, rfl⟩
    rw [e167] at hQ166
    obtain ⟨d4, rfl, hd4, Nd4, Kd4⟩ := hQ166
    have Ne4 := Fr.app N164 Nd4
    have Z167 : n0 ≤ h167.size := Nat.le_trans Z164 Kd4.1
    have f168 := F164.keep Kd4 nin0
    refine own_go st166 ?_
    show own_End p e below s _ _ _ (T166.setTop (mkF m 157 #[.val (.long p1), .second, .val (.int p2), .val (.int p3), .val (.int p4), .val (.long p5), .second, .val (.int kk83), .val (.int sg84), .val (.int ax85), .val (.int un), .val (.long uq86), .second, .val (.long r087), .second, .val (.ref b143), .unset, .unset, .unset, .unset, .unset, .unset, .unset, .unset, .unset, .unset, .unset] [(.int d4), (.int (17 : Int32)), (.ref b143)]))
    obtain ⟨T169, h169, X169, e169, W169, F169, st169⟩ := own_fstC X166 hx hZ e167 f168 (j := (17 : Int32)) (x := d4) 17 (by decide) (by decide) (pc := 157) (Ls := #[.val (.long p1), .second, .val (.int p2), .val (.int p3), .val (.int p4), .val (.long p5), .second, .val (.int kk83), .val (.int sg84), .val (.int ax85), .val (.int un), .val (.long uq86), .second, .val (.long r087), .second, .val (.ref b143), .unset, .unset, .unset, .unset, .unset, .unset, .unset, .unset, .unset, .unset, .unset]) (rest := []) (hb hby at_157)
    have N169 := Fr.snoc X169 Ne4 nb143
    have Z169 : n0 ≤ h169.size := by rw [W169.size]; exact Z167
    refine own_go st169 ?_
    show own_End p e below s _ _ _ (T169.setTop (mkF m 158 #[.val (.long p1), .second, .val (.int p2), .val (.int p3), .val (.int p4), .val (.long p5), .second, .val (.int kk83), .val (.int sg84), .val (.int ax85), .val (.int un), .val (.long uq86), .second, .val (.long r087), .second, .val (.ref b143), .unset, .unset, .unset, .unset, .unset, .unset, .unset, .unset, .unset, .unset, .unset] []))
    refine own_go (fun t k => XS.aload X169.here hx rfl (hb hby at_158) rfl rfl k) ?_
    show own_End p e below s _ _ _ (T169.setTop (mkF m 160 #[.val (.long p1), .second, .val (.int p2), .val (.int p3), .val (.int p4), .val (.long p5), .second, .val (.int kk83), .val (.int sg84), .val (.int ax85), .val (.int un), .val (.long uq86), .second, .val (.long r087), .second, .val (.ref b143), .unset, .unset, .unset, .unset, .unset, .unset, .unset, .unset, .unset, .unset, .unset] [(.ref b143)]))
    refine own_go (fun t k => XS.bipush X169.here hx rfl (hb hby at_160) k) ?_
    show own_End p e below s _ _ _ (T169.setTop (mkF m 162 #[.val (.long p1), .second, .val (.int p2), .val (.int p3), .val (.int p4), .val (.long p5), .second, .val (.int kk83), .val (.int sg84), .val (.int ax85), .val (.int un), .val (.long uq86), .second, .val (.long r087), .second, .val (.ref b143), .unset, .unset, .unset, .unset, .unset, .unset, .unset, .unset, .unset, .unset, .unset] [(.int (16 : Int32)), (.ref b143)]))
    refine own_go (fun t k => XT.lload X169.here hx rfl (hb hby at_162) rfl k) ?_
    show own_End p e below s _ _ _ (T169.setTop (mkF m 164 #[.val (.long p1), .second, .val (.int p2), .val (.int p3), .val (.int p4), .val (.long p5), .second, .val (.int kk83), .val (.int sg84), .val (.int ax85), .val (.int un), .val (.long uq86), .second, .val (.long r087), .second, .val (.ref b143), .unset, .unset, .unset, .unset, .unset, .unset, .unset, .unset, .unset, .unset, .unset] [(.long uq86), (.int (16 : Int32)), (.ref b143)]))
    refine own_go (fun t k => XT.lload X169.here hx rfl (hb hby at_164) rfl k) ?_
    show own_End p e below s _ _ _ (T169.setTop (mkF m 166 #[.val (.long p1), .second, .val (.int p2), .val (.int p3), .val (.int p4), .val (.long p5), .second, .val (.int kk83), .val (.int sg84), .val (.int ax85), .val (.int un), .val (.long uq86), .second, .val (.long r087), .second, .val (.ref b143), .unset, .unset, .unset, .unset, .unset, .unset, .unset, .unset, .unset, .unset, .unset] [(.long r087), (.long uq86), (.int (16 : Int32)), (.ref b143)]))
    refine own_go (fun t k => XS.iconst X169.here hx rfl (hb hby at_166) k) ?_
    show own_End p e below s _ _ _ (T169.setTop (mkF m 167 #[.val (.long p1), .second, .val (.int p2), .val (.int p3), .val (.int p4), .val (.long p5), .second, .val (.int kk83), .val (.int sg84), .val (.int ax85), .val (.int un), .val (.long uq86), .second, .val (.long r087), .second, .val (.ref b143), .unset, .unset, .unset, .unset, .unset, .unset, .unset, .unset, .unset, .unset, .unset] [(.int (5 : Int32)), (.long r087), (.long uq86), (.int (16 : Int32)), (.ref b143)]))
    obtain ⟨v171, T171, L171, X171, hQ171, st171⟩ := own_callS X169 hx hZ (y := (⟨"com/example/ordinate/ordinate/sql/NumbersParseIntegerPinLaw", "digit", "(JJI)C"⟩ : MethodName)) 2 hown (hw _ (List.mem_of_getElem? (i := 3) rfl)) (hw _ (List.mem_of_getElem? (i := 4) rfl)) (hw _ (List.mem_of_getElem? (i := 5) rfl)) (hw _ (List.mem_of_getElem? (i := 6) rfl)) (by decide) (rm1_1 l Z a0 hw [] uq86 r087 (5 : Int32) h169 n0 Z169 (Nn / 10) 4 hu (by decide) (by decide)) e169 (pc := 167) (Ls := #[.val (.long p1), .second, .val (.int p2), .val (.int p3), .val (.int p4), .val (.long p5), .second, .val (.int kk83), .val (.int sg84), .val (.int ax85), .val (.int un), .val (.long uq86), .second, .val (.long r087), .second, .val (.ref b143), .unset, .unset, .unset, .unset, .unset, .unset, .unset, .unset, .unset, .unset, .unset]) [(.long uq86), (.long r087), (.int (5 : Int32))] [(.int (16 : Int32)), (.ref b143)] (by rw [hml]; rfl) rfl rfl (lenOf pd_JJI_C rfl) (Nat.le_of_eq rfl) (hb hby at_167) (by decide) (by decide) (by decide) (by decide)
    obtain ⟨h172, e172⟩ : ∃ z, T171.heap = z := ⟨_, rfl⟩
    rw [e172] at hQ171
    obtain ⟨d5, rfl, hd5, Nd5, Kd5⟩ := hQ171
    have Ne5 := Fr.app N169 Nd5
    have Z172 : n0 ≤ h172.size := Nat.le_trans Z169 Kd5.1
    have f173 := F169.keep Kd5 nin0
    refine own_go st171 ?_
    show own_End p e below s _ _ _ (T171.setTop (mkF m 170 #[.val (.long p1), .second, .val (.int p2), .val (.int p3), .val (.int p4), .val (.long p5), .second, .val (.int kk83), .val (.int sg84), .val (.int ax85), .val (.int un), .val (.long uq86), .second, .val (.long r087), .second, .val (.ref b143), .unset, .unset, .unset, .unset, .unset, .unset, .unset, .unset, .unset, .unset, .unset] [(.int d5), (.int (16 : Int32)), (.ref b143)]))
    obtain ⟨T174, h174, X174, e174, W174, F174, st174⟩ := own_fstC X171 hx hZ e172 f173 (j := (16 : Int32)) (x := d5) 16 (by decide) (by decide) (pc := 170) (Ls := #[.val (.long p1), .second, .val (.int p2), .val (.int p3), .val (.int p4), .val (.long p5), .second, .val (.int kk83), .val (.int sg84), .val (.int ax85), .val (.int un), .val (.long uq86), .second, .val (.long r087), .second, .val (.ref b143), .unset, .unset, .unset, .unset, .unset, .unset, .unset, .unset, .unset, .unset, .unset]) (rest := []) (hb hby at_170)
    have N174 := Fr.snoc X174 Ne5 nb143
    have Z174 : n0 ≤ h174.size := by rw [W174.size]; exact Z172
    refine own_go st174 ?_
    show own_End p e below s _ _ _ (T174.setTop (mkF m 171 #[.val (.long p1), .second, .val (.int p2), .val (.int p3), .val (.int p4), .val (.long p5), .second, .val (.int kk83), .val (.int sg84), .val (.int ax85), .val (.int un), .val (.long uq86), .second, .val (.long r087), .second, .val (.ref b143), .unset, .unset, .unset, .unset, .unset, .unset, .unset, .unset, .unset, .unset, .unset] []))
    refine own_go (fun t k => XS.aload X174.here hx rfl (hb hby at_171) rfl rfl k) ?_
    show own_End p e below s _ _ _ (T174.setTop (mkF m 173 #[.val (.long p1), .second, .val (.int p2), .val (.int p3), .val (.int p4), .val (.long p5), .second, .val (.int kk83), .val (.int sg84), .val (.int ax85), .val (.int un), .val (.long uq86), .second, .val (.long r087), .second, .val (.ref b143), .unset, .unset, .unset, .unset, .unset, .unset, .unset, .unset, .unset, .unset, .unset] [(.ref b143)]))
    refine own_go (fun t k => XS.bipush X174.here hx rfl (hb hby at_173) k) ?_
    show own_End p e below s _ _ _ (T174.setTop (mkF m 175 #[.val (.long p1), .second, .val (.int p2), .val (.int p3), .val (.int p4), .val (.long p5), .second, .val (.int kk83), .val (.int sg84), .val (.int ax85), .val (.int un), .val (.long uq86), .second, .val (.long r087), .second, .val (.ref b143), .unset, .unset, .unset, .unset, .unset, .unset, .unset, .unset, .unset, .unset, .unset] [(.int (15 : Int32)), (.ref b143)]))
    refine own_go (fun t k => XT.lload X174.here hx rfl (hb hby at_175) rfl k) ?_
    show own_End p e below s _ _ _ (T174.setTop (mkF m 177 #[.val (.long p1), .second, .val (.int p2), .val (.int p3), .val (.int p4), .val (.long p5), .second, .val (.int kk83), .val (.int sg84), .val (.int ax85), .val (.int un), .val (.long uq86), .second, .val (.long r087), .second, .val (.ref b143), .unset, .unset, .unset, .unset, .unset, .unset, .unset, .unset, .unset, .unset, .unset] [(.long uq86), (.int (15 : Int32)), (.ref b143)]))
    refine own_go (fun t k => XT.lload X174.here hx rfl (hb hby at_177) rfl k) ?_
    show own_End p e below s _ _ _ (T174.setTop (mkF m 179 #[.val (.long p1), .second, .val (.int p2), .val (.int p3), .val (.int p4), .val (.long p5), .second, .val (.int kk83), .val (.int sg84), .val (.int ax85), .val (.int un), .val (.long uq86), .second, .val (.long r087), .second, .val (.ref b143), .unset, .unset, .unset, .unset, .unset, .unset, .unset, .unset, .unset, .unset, .unset] [(.long r087), (.long uq86), (.int (15 : Int32)), (.ref b143)]))
    refine own_go (fun t k => XS.bipush X174.here hx rfl (hb hby at_179) k) ?_
    show own_End p e below s _ _ _ (T174.setTop (mkF m 181 #[.val (.long p1), .second, .val (.int p2), .val (.int p3), .val (.int p4), .val (.long p5), .second, .val (.int kk83), .val (.int sg84), .val (.int ax85), .val (.int un), .val (.long uq86), .second, .val (.long r087), .second, .val (.ref b143), .unset, .unset, .unset, .unset, .unset, .unset, .unset, .unset, .unset, .unset, .unset] [(.int (6 : Int32)), (.long r087), (.long uq86), (.int (15 : Int32)), (.ref b143)]))
    obtain ⟨v176, T176, L176, X176, hQ176, st176⟩ := own_callS X174 hx hZ (y := (⟨"com/example/ordinate/ordinate/sql/NumbersParseIntegerPinLaw", "digit", "(JJI)C"⟩ : MethodName)) 2 hown (hw _ (List.mem_of_getElem? (i := 3) rfl)) (hw _ (List.mem_of_getElem? (i := 4) rfl)) (hw _ (List.mem_of_getElem? (i := 5) rfl)) (hw _ (List.mem_of_getElem? (i := 6) rfl)) (by decide) (rm1_1 l Z a0 hw [] uq86 r087 (6 : Int32) h174 n0 Z174 (Nn / 10) 5 hu (by decide) (by decide)) e174 (pc := 181) (Ls := #[.val (.long p1), .second, .val (.int p2), .val (.int p3), .val (.int p4), .val (.long p5), .second, .val (.int kk83), .val (.int sg84), .val (.int ax85), .val (.int un), .val (.long uq86), .second, .val (.long r087), .second, .val (.ref b143), .unset, .unset, .unset, .unset, .unset, .unset, .unset, .unset, .unset, .unset, .unset]) [(.long uq86), (.long r087), (.int (6 : Int32))] [(.int (15 : Int32)), (.ref b143)] (by rw [hml]; rfl) rfl rfl (lenOf pd_JJI_C rfl) (Nat.le_of_eq rfl) (hb hby at_181) (by decide) (by decide) (by decide) (by decide)
    obtain ⟨h177, e177⟩ : ∃ z, T176.heap = z := ⟨_, rfl⟩
    rw [e177] at hQ176
    obtain ⟨d6, rfl, hd6, Nd6, Kd6⟩ := hQ176
    have Ne6 := Fr.app N174 Nd6
    have Z177 : n0 ≤ h177.size := Nat.le_trans Z174 Kd6.1
    have f178 := F174.keep Kd6 nin0
    refine own_go st176 ?_
    show own_End p e below s _ _ _ (T176.setTop (mkF m 184 #[.val (.long p1), .second, .val (.int p2), .val (.int p3), .val (.int p4), .val (.long p5), .second, .val (.int kk83), .val (.int sg84), .val (.int ax85), .val (.int un), .val (.long uq86), .second, .val (.long r087), .second, .val (.ref b143), .unset, .unset, .unset, .unset, .unset, .unset, .unset, .unset, .unset, .unset, .unset] [(.int d6), (.int (15 : Int32)), (.ref b143)]))
    obtain ⟨T179, h179, X179, e179, W179, F179, st179⟩ := own_fstC X176 hx hZ e177 f178 (j := (15 : Int32)) (x := d6) 15 (by decide) (by decide) (pc := 184) (Ls := #[.val (.long p1), .second, .val (.int p2), .val (.int p3), .val (.int p4), .val (.long p5), .second, .val (.int kk83), .val (.int sg84), .val (.int ax85), .val (.int un), .val (.long uq86), .second, .val (.long r087), .second, .val (.ref b143), .unset, .unset, .unset, .unset, .unset, .unset, .unset, .unset, .unset, .unset, .unset]) (rest := []) (hb hby at_184)
    have N179 := Fr.snoc X179 Ne6 nb143
    have Z179 : n0 ≤ h179.size := by rw [W179.size]; exact Z177
    refine own_go st179 ?_
    show own_End p e below s _ _ _ (T179.setTop (mkF m 185 #[.val (.long p1), .second, .val (.int p2), .val (.int p3), .val (.int p4), .val (.long p5), .second, .val (.int kk83), .val (.int sg84), .val (.int ax85), .val (.int un), .val (.long uq86), .second, .val (.long r087), .second, .val (.ref b143), .unset, .unset, .unset, .unset, .unset, .unset, .unset, .unset, .unset, .unset, .unset] []))
    refine own_go (fun t k => XS.aload X179.here hx rfl (hb hby at_185) rfl rfl k) ?_
    show own_End p e below s _ _ _ (T179.setTop (mkF m 187 #[.val (.long p1), .second, .val (.int p2), .val (.int p3), .val (.int p4), .val (.long p5), .second, .val (.int kk83), .val (.int sg84), .val (.int ax85), .val (.int un), .val (.long uq86), .second, .val (.long r087), .second, .val (.ref b143), .unset, .unset, .unset, .unset, .unset, .unset, .unset, .unset, .unset, .unset, .unset] [(.ref b143)]))
    refine own_go (fun t k => XS.bipush X179.here hx rfl (hb hby at_187) k) ?_
    show own_End p e below s _ _ _ (T179.setTop (mkF m 189 #[.val (.long p1), .second, .val (.int p2), .val (.int p3), .val (.int p4), .val (.long p5), .second, .val (.int kk83), .val (.int sg84), .val (.int ax85), .val (.int un), .val (.long uq86), .second, .val (.long r087), .second, .val (.ref b143), .unset, .unset, .unset, .unset, .unset, .unset, .unset, .unset, .unset, .unset, .unset] [(.int (14 : Int32)), (.ref b143)]))
    refine own_go (fun t k => XT.lload X179.here hx rfl (hb hby at_189) rfl k) ?_
    show own_End p e below s _ _ _ (T179.setTop (mkF m 191 #[.val (.long p1), .second, .val (.int p2), .val (.int p3), .val (.int p4), .val (.long p5), .second, .val (.int kk83), .val (.int sg84), .val (.int ax85), .val (.int un), .val (.long uq86), .second, .val (.long r087), .second, .val (.ref b143), .unset, .unset, .unset, .unset, .unset, .unset, .unset, .unset, .unset, .unset, .unset] [(.long uq86), (.int (14 : Int32)), (.ref b143)]))
    refine own_go (fun t k => XT.lload X179.here hx rfl (hb hby at_191) rfl k) ?_
    show own_End p e below s _ _ _ (T179.setTop (mkF m 193 #[.val (.long p1), .second, .val (.int p2), .val (.int p3), .val (.int p4), .val (.long p5), .second, .val (.int kk83), .val (.int sg84), .val (.int ax85), .val (.int un), .val (.long uq86), .second, .val (.long r087), .second, .val (.ref b143), .unset, .unset, .unset, .unset, .unset, .unset, .unset, .unset, .unset, .unset, .unset] [(.long r087), (.long uq86), (.int (14 : Int32)), (.ref b143)]))
    refine own_go (fun t k => XS.bipush X179.here hx rfl (hb hby at_193) k) ?_
    show own_End p e below s _ _ _ (T179.setTop (mkF m 195 #[.val (.long p1), .second, .val (.int p2), .val (.int p3), .val (.int p4), .val (.long p5), .second, .val (.int kk83), .val (.int sg84), .val (.int ax85), .val (.int un), .val (.long uq86), .second, .val (.long r087), .second, .val (.ref b143), .unset, .unset, .unset, .unset, .unset, .unset, .unset, .unset, .unset, .unset, .unset] [(.int (7 : Int32)), (.long r087), (.long uq86), (.int (14 : Int32)), (.ref b143)]))
    obtain ⟨v181, T181, L181, X181, hQ181, st181⟩ := own_callS X179 hx hZ (y := (⟨"com/example/ordinate/ordinate/sql/NumbersParseIntegerPinLaw", "digit", "(JJI)C"⟩ : MethodName)) 2 hown (hw _ (List.mem_of_getElem? (i := 3) rfl)) (hw _ (List.mem_of_getElem? (i := 4) rfl)) (hw _ (List.mem_of_getElem? (i := 5) rfl)) (hw _ (List.mem_of_getElem? (i := 6) rfl)) (by decide) (rm1_1 l Z a0 hw [] uq86 r087 (7 : Int32) h179 n0 Z179 (Nn / 10) 6 hu (by decide) (by decide)) e179 (pc := 195) (Ls := #[.val (.long p1), .second, .val (.int p2), .val (.int p3), .val (.int p4), .val (.long p5), .second, .val (.int kk83), .val (.int sg84), .val (.int ax85), .val (.int un), .val (.long uq86), .second, .val (.long r087), .second, .val (.ref b143), .unset, .unset, .unset, .unset, .unset, .unset, .unset, .unset, .unset, .unset, .unset]) [(.long uq86), (.long r087), (.int (7 : Int32))] [(.int (14 : Int32)), (.ref b143)] (by rw [hml]; rfl) rfl rfl (lenOf pd_JJI_C rfl) (Nat.le_of_eq rfl) (hb hby at_195) (by decide) (by decide) (by decide) (by decide)
    obtain ⟨h182, e182⟩ : ∃ z, T181.heap = z := ⟨_, rfl⟩
    rw [e182] at hQ181
    obtain ⟨d7, rfl, hd7, Nd7, Kd7⟩ := hQ181
    have Ne7 := Fr.app N179 Nd7
    have Z182 : n0 ≤ h182.size := Nat.le_trans Z179 Kd7.1
    have f183 := F179.keep Kd7 nin0
    refine own_go st181 ?_
    show own_End p e below s _ _ _ (T181.setTop (mkF m 198 #[.val (.long p1), .second, .val (.int p2), .val (.int p3), .val (.int p4), .val (.long p5), .second, .val (.int kk83), .val (.int sg84), .val (.int ax85), .val (.int un), .val (.long uq86), .second, .val (.long r087), .second, .val (.ref b143), .unset, .unset, .unset, .unset, .unset, .unset, .unset, .unset, .unset, .unset, .unset] [(.int d7), (.int (14 : Int32)), (.ref b143)]))
    obtain ⟨T184, h184, X184, e184, W184, F184, st184⟩ := own_fstC X181 hx hZ e182 f183 (j := (14 : Int32)) (x := d7) 14 (by decide) (by decide) (pc := 198) (Ls := #[.val (.long p1), .second, .val (.int p2), .val (.int p3), .val (.int p4), .val (.long p5), .second, .val (.int kk83), .val (.int sg84), .val (.int ax85), .val (.int un), .val (.long uq86), .second, .val (.long r087), .second, .val (.ref b143), .unset, .unset, .unset, .unset, .unset, .unset, .unset, .unset, .unset, .unset, .unset]) (rest := []) (hb hby at_198)
    have N184 := Fr.snoc X184 Ne7 nb143
    have Z184 : n0 ≤ h184.size := by rw [W184.size]; exact Z182
    refine own_go st184 ?_
    show own_End p e below s _ _ _ (T184.setTop (mkF m 199 #[.val (.long p1), .second, .val (.int p2), .val (.int p3), .val (.int p4), .val (.long p5), .second, .val (.int kk83), .val (.int sg84), .val (.int ax85), .val (.int un), .val (.long uq86), .second, .val (.long r087), .second, .val (.ref b143), .unset, .unset, .unset, .unset, .unset, .unset, .unset, .unset, .unset, .unset, .unset] []))
    refine own_go (fun t k => XS.aload X184.here hx rfl (hb hby at_199) rfl rfl k) ?_
    show own_End p e below s _ _ _ (T184.setTop (mkF m 201 #[.val (.long p1), .second, .val (.int p2), .val (.int p3), .val (.int p4), .val (.long p5), .second, .val (.int kk83), .val (.int sg84), .val (.int ax85), .val (.int un), .val (.long uq86), .second, .val (.long r087), .second, .val (.ref b143), .unset, .unset, .unset, .unset, .unset, .unset, .unset, .unset, .unset, .unset, .unset] [(.ref b143)]))
    refine own_go (fun t k => XS.bipush X184.here hx rfl (hb hby at_201) k) ?_
    show own_End p e below s _ _ _ (T184.setTop (mkF m 203 #[.val (.long p1), .second, .val (.int p2), .val (.int p3), .val (.int p4), .val (.long p5), .second, .val (.int kk83), .val (.int sg84), .val (.int ax85), .val (.int un), .val (.long uq86), .second, .val (.long r087), .second, .val (.ref b143), .unset, .unset, .unset, .unset, .unset, .unset, .unset, .unset, .unset, .unset, .unset] [(.int (13 : Int32)), (.ref b143)]))
    refine own_go (fun t k => XT.lload X184.here hx rfl (hb hby at_203) rfl k) ?_
    show own_End p e below s _ _ _ (T184.setTop (mkF m 205 #[.val (.long p1), .second, .val (.int p2), .val (.int p3), .val (.int p4), .val (.long p5), .second, .val (.int kk83), .val (.int sg84), .val (.int ax85), .val (.int un), .val (.long uq86), .second, .val (.long r087), .second, .val (.ref b143), .unset, .unset, .unset, .unset, .unset, .unset, .unset, .unset, .unset, .unset, .unset] [(.long uq86), (.int (13 : Int32)), (.ref b143)]))
    refine own_go (fun t k => XT.lload X184.here hx rfl (hb hby at_205) rfl k) ?_
    show own_End p e below s _ _ _ (T184.setTop (mkF m 207 #[.val (.long p1), .second, .val (.int p2), .val (.int p3), .val (.int p4), .val (.long p5), .second, .val (.int kk83), .val (.int sg84), .val (.int ax85), .val (.int un), .val (.long uq86), .second, .val (.long r087), .second, .val (.ref b143), .unset, .unset, .unset, .unset, .unset, .unset, .unset, .unset, .unset, .unset, .unset] [(.long r087), (.long uq86), (.int (13 : Int32)), (.ref b143)]))
    refine own_go (fun t k => XS.bipush X184.here hx rfl (hb hby at_207) k) ?_
    show own_End p e below s _ _ _ (T184.setTop (mkF m 209 #[.val (.long p1), .second, .val (.int p2), .val (.int p3), .val (.int p4), .val (.long p5), .second, .val (.int kk83), .val (.int sg84), .val (.int ax85), .val (.int un), .val (.long uq86), .second, .val (.long r087), .second, .val (.ref b143), .unset, .unset, .unset, .unset, .unset, .unset, .unset, .unset, .unset, .unset, .unset] [(.int (8 : Int32)), (.long r087), (.long uq86), (.int (13 : Int32)), (.ref b143)]))
    obtain ⟨v186, T186, L186, X186, hQ186, st186⟩ := own_callS X184 hx hZ (y := (⟨"com/example/ordinate/ordinate/sql/NumbersParseIntegerPinLaw", "digit", "(JJI)C"⟩ : MethodName)) 2 hown (hw _ (List.mem_of_getElem? (i := 3) rfl)) (hw _ (List.mem_of_getElem? (i := 4) rfl)) (hw _ (List.mem_of_getElem? (i := 5) rfl)) (hw _ (List.mem_of_getElem? (i := 6) rfl)) (by decide) (rm1_1 l Z a0 hw [] uq86 r087 (8 : Int32) h184 n0 Z184 (Nn / 10) 7 hu (by decide) (by decide)) e184 (pc := 209) (Ls := #[.val (.long p1), .second, .val (.int p2), .val (.int p3), .val (.int p4), .val (.long p5), .second, .val (.int kk83), .val (.int sg84), .val (.int ax85), .val (.int un), .val (.long uq86), .second, .val (.long r087), .second, .val (.ref b143), .unset, .unset, .unset, .unset, .unset, .unset, .unset, .unset, .unset, .unset, .unset]) [(.long uq86), (.long r087), (.int (8 : Int32))] [(.int (13 : Int32)), (.ref b143)] (by rw [hml]; rfl) rfl rfl (lenOf pd_JJI_C rfl) (Nat.le_of_eq rfl) (hb hby at_209) (by decide) (by decide) (by decide) (by decide)
    obtain ⟨h187, e187⟩ : ∃ z, T186.heap = z := ⟨_, rfl⟩
    rw [e187] at hQ186
    obtain ⟨d8, rfl, hd8, Nd8, Kd8⟩ := hQ186
    have Ne8 := Fr.app N184 Nd8
    have Z187 : n0 ≤ h187.size := Nat.le_trans Z184 Kd8.1
    have f188 := F184.keep Kd8 nin0
    refine own_go st186 ?_
    show own_End p e below s _ _ _ (T186.setTop (mkF m 212 #[.val (.long p1), .second, .val (.int p2), .val (.int p3), .val (.int p4), .val (.long p5), .second, .val (.int kk83), .val (.int sg84), .val (.int ax85), .val (.int un), .val (.long uq86), .second, .val (.long r087), .second, .val (.ref b143), .unset, .unset, .unset, .unset, .unset, .unset, .unset, .unset, .unset, .unset, .unset] [(.int d8), (.int (13 : Int32)), (.ref b143)]))
    obtain ⟨T189, h189, X189, e189, W189, F189, st189⟩ := own_fstC X186 hx hZ e187 f188 (j := (13 : Int32)) (x := d8) 13 (by decide) (by decide) (pc := 212) (Ls := #[.val (.long p1), .second, .val (.int p2), .val (.int p3), .val (.int p4), .val (.long p5), .second, .val (.int kk83), .val (.int sg84), .val (.int ax85), .val (.int un), .val (.long uq86), .second, .val (.long r087), .second, .val (.ref b143), .unset, .unset, .unset, .unset, .unset, .unset, .unset, .unset, .unset, .unset, .unset]) (rest := []) (hb hby at_212)
    have N189 := Fr.snoc X189 Ne8 nb143
    have Z189 : n0 ≤ h189.size := by rw [W189.size]; exact Z187
    refine own_go st189 ?_
    show own_End p e below s _ _ _ (T189.setTop (mkF m 213 #[.val (.long p1), .second, .val (.int p2), .val (.int p3), .val (.int p4), .val (.long p5), .second, .val (.int kk83), .val (.int sg84), .val (.int ax85), .val (.int un), .val (.long uq86), .second, .val (.long r087), .second, .val (.ref b143), .unset, .unset, .unset, .unset, .unset, .unset, .unset, .unset, .unset, .unset, .unset] []))
    refine own_go (fun t k => XS.aload X189.here hx rfl (hb hby at_213) rfl rfl k) ?_
    show own_End p e below s _ _ _ (T189.setTop (mkF m 215 #[.val (.long p1), .second, .val (.int p2), .val (.int p3), .val (.int p4), .val (.long p5), .second, .val (.int kk83), .val (.int sg84), .val (.int ax85), .val (.int un), .val (.long uq86), .second, .val (.long r087), .second, .val (.ref b143), .unset, .unset, .unset, .unset, .unset, .unset, .unset, .unset, .unset, .unset, .unset] [(.ref b143)]))
    refine own_go (fun t k => XS.bipush X189.here hx rfl (hb hby at_215) k) ?_
    show own_End p e below s _ _ _ (T189.setTop (mkF m 217 #[.val (.long p1), .second, .val (.int p2), .val (.int p3), .val (.int p4), .val (.long p5), .second, .val (.int kk83), .val (.int sg84), .val (.int ax85), .val (.int un), .val (.long uq86), .second, .val (.long r087), .second, .val (.ref b143), .unset, .unset, .unset, .unset, .unset, .unset, .unset, .unset, .unset, .unset, .unset] [(.int (12 : Int32)), (.ref b143)]))
    refine own_go (fun t k => XT.lload X189.here hx rfl (hb hby at_217) rfl k) ?_
    show own_End p e below s _ _ _ (T189.setTop (mkF m 219 #[.val (.long p1), .second, .val (.int p2), .val (.int p3), .val (.int p4), .val (.long p5), .second, .val (.int kk83), .val (.int sg84), .val (.int ax85), .val (.int un), .val (.long uq86), .second, .val (.long r087), .second, .val (.ref b143), .unset, .unset, .unset, .unset, .unset, .unset, .unset, .unset, .unset, .unset, .unset] [(.long uq86), (.int (12 : Int32)), (.ref b143)]))
    refine own_go (fun t k => XT.lload X189.here hx rfl (hb hby at_219) rfl k) ?_
    show own_End p e below s _ _ _ (T189.setTop (mkF m 221 #[.val (.long p1), .second, .val (.int p2), .val (.int p3), .val (.int p4), .val (.long p5), .second, .val (.int kk83), .val (.int sg84), .val (.int ax85), .val (.int un), .val (.long uq86), .second, .val (.long r087), .second, .val (.ref b143), .unset, .unset, .unset, .unset, .unset, .unset, .unset, .unset, .unset, .unset, .unset] [(.long r087), (.long uq86), (.int (12 : Int32)), (.ref b143)]))
    refine own_go (fun t k => XS.bipush X189.here hx rfl (hb hby at_221) k) ?_
    show own_End p e below s _ _ _ (T189.setTop (mkF m 223 #[.val (.long p1), .second, .val (.int p2), .val (.int p3), .val (.int p4), .val (.long p5), .second, .val (.int kk83), .val (.int sg84), .val (.int ax85), .val (.int un), .val (.long uq86), .second, .val (.long r087), .second, .val (.ref b143), .unset, .unset, .unset, .unset, .unset, .unset, .unset, .unset, .unset, .unset, .unset] [(.int (9 : Int32)), (.long r087), (.long uq86), (.int (12 : Int32)), (.ref b143)]))
    obtain ⟨v191, T191, L191, X191, hQ191, st191⟩ := own_callS X189 hx hZ (y := (⟨"com/example/ordinate/ordinate/sql/NumbersParseIntegerPinLaw", "digit", "(JJI)C"⟩ : MethodName)) 2 hown (hw _ (List.mem_of_getElem? (i := 3) rfl)) (hw _ (List.mem_of_getElem? (i := 4) rfl)) (hw _ (List.mem_of_getElem? (i := 5) rfl)) (hw _ (List.mem_of_getElem? (i := 6) rfl)) (by decide) (rm1_1 l Z a0 hw [] uq86 r087 (9 : Int32) h189 n0 Z189 (Nn / 10) 8 hu (by decide) (by decide)) e189 (pc := 223) (Ls := #[.val (.long p1), .second, .val (.int p2), .val (.int p3), .val (.int p4), .val (.long p5), .second, .val (.int kk83), .val (.int sg84), .val (.int ax85), .val (.int un), .val (.long uq86), .second, .val (.long r087), .second, .val (.ref b143), .unset, .unset, .unset, .unset, .unset, .unset, .unset, .unset, .unset, .unset, .unset]) [(.long uq86), (.long r087), (.int (9 : Int32))] [(.int (12 : Int32)), (.ref b143)] (by rw [hml]; rfl) rfl rfl (lenOf pd_JJI_C rfl) (Nat.le_of_eq rfl) (hb hby at_223) (by decide) (by decide) (by decide) (by decide)
    obtain ⟨h192, e192⟩ : ∃ z, T191.heap = z := ⟨_, rfl⟩
    rw [e192] at hQ191
    obtain ⟨d9, rfl, hd9, Nd9, Kd9⟩ := hQ191
    have Ne9 := Fr.app N189 Nd9
    have Z192 : n0 ≤ h192.size := Nat.le_trans Z189 Kd9.1
    have f193 := F189.keep Kd9 nin0
    refine own_go st191 ?_
    show own_End p e below s _ _ _ (T191.setTop (mkF m 226 #[.val (.long p1), .second, .val (.int p2), .val (.int p3), .val (.int p4), .val (.long p5), .second, .val (.int kk83), .val (.int sg84), .val (.int ax85), .val (.int un), .val (.long uq86), .second, .val (.long r087), .second, .val (.ref b143), .unset, .unset, .unset, .unset, .unset, .unset, .unset, .unset, .unset, .unset, .unset] [(.int d9), (.int (12 : Int32)), (.ref b143)]))
    obtain ⟨T194, h194, X194, e194, W194, F194, st194⟩ := own_fstC X191 hx hZ e192 f193 (j := (12 : Int32)) (x := d9) 12 (by decide) (by decide) (pc := 226) (Ls := #[.val (.long p1), .second, .val (.int p2), .val (.int p3), .val (.int p4), .val (.long p5), .second, .val (.int kk83), .val (.int sg84), .val (.int ax85), .val (.int un), .val (.long uq86), .second, .val (.long r087), .second, .val (.ref b143), .unset, .unset, .unset, .unset, .unset, .unset, .unset, .unset, .unset, .unset, .unset]) (rest := []) (hb hby at_226)
    have N194 := Fr.snoc X194 Ne9 nb143
    have Z194 : n0 ≤ h194.size := by rw [W194.size]; exact Z192
    refine own_go st194 ?_
    show own_End p e below s _ _ _ (T194.setTop (mkF m 227 #[.val (.long p1), .second, .val (.int p2), .val (.int p3), .val (.int p4), .val (.long p5), .second, .val (.int kk83), .val (.int sg84), .val (.int ax85), .val (.int un), .val (.long uq86), .second, .val (.long r087), .second, .val (.ref b143), .unset, .unset, .unset, .unset, .unset, .unset, .unset, .unset, .unset, .unset, .unset] []))
    refine own_go (fun t k => XS.aload X194.here hx rfl (hb hby at_227) rfl rfl k) ?_
    show own_End p e below s _ _ _ (T194.setTop (mkF m 229 #[.val (.long p1), .second, .val (.int p2), .val (.int p3), .val (.int p4), .val (.long p5), .second, .val (.int kk83), .val (.int sg84), .val (.int ax85), .val (.int un), .val (.long uq86), .second, .val (.long r087), .second, .val (.ref b143), .unset, .unset, .unset, .unset, .unset, .unset, .unset, .unset, .unset, .unset, .unset] [(.ref b143)]))
    refine own_go (fun t k => XS.bipush X194.here hx rfl (hb hby at_229) k) ?_
    show own_End p e below s _ _ _ (T194.setTop (mkF m 231 #[.val (.long p1), .second, .val (.int p2), .val (.int p3), .val (.int p4), .val (.long p5), .second, .val (.int kk83), .val (.int sg84), .val (.int ax85), .val (.int un), .val (.long uq86), .second, .val (.long r087), .second, .val (.ref b143), .unset, .unset, .unset, .unset, .unset, .unset, .unset, .unset, .unset, .unset, .unset] [(.int (11 : Int32)), (.ref b143)]))
    refine own_go (fun t k => XT.lload X194.here hx rfl (hb hby at_231) rfl k) ?_
    show own_End p e below s _ _ _ (T194.setTop (mkF m 233 #[.val (.long p1), .second, .val (.int p2), .val (.int p3), .val (.int p4), .val (.long p5), .second, .val (.int kk83), .val (.int sg84), .val (.int ax85), .val (.int un), .val (.long uq86), .second, .val (.long r087), .second, .val (.ref b143), .unset, .unset, .unset, .unset, .unset, .unset, .unset, .unset, .unset, .unset, .unset] [(.long uq86), (.int (11 : Int32)), (.ref b143)]))
    refine own_go (fun t k => XT.lload X194.here hx rfl (hb hby at_233) rfl k) ?_
    show own_End p e below s _ _ _ (T194.setTop (mkF m 235 #[.val (.long p1), .second, .val (.int p2), .val (.int p3), .val (.int p4), .val (.long p5), .second, .val (.int kk83), .val (.int sg84), .val (.int ax85), .val (.int un), .val (.long uq86), .second, .val (.long r087), .second, .val (.ref b143), .unset, .unset, .unset, .unset, .unset, .unset, .unset, .unset, .unset, .unset, .unset] [(.long r087), (.long uq86), (.int (11 : Int32)), (.ref b143)]))
    refine own_go (fun t k => XS.bipush X194.here hx rfl (hb hby at_235) k) ?_
    show own_End p e below s _ _ _ (T194.setTop (mkF m 237 #[.val (.long p1), .second, .val (.int p2), .val (.int p3), .val (.int p4), .val (.long p5), .second, .val (.int kk83), .val (.int sg84), .val (.int ax85), .val (.int un), .val (.long uq86), .second, .val (.long r087), .second, .val (.ref b143), .unset, .unset, .unset, .unset, .unset, .unset, .unset, .unset, .unset, .unset, .unset] [(.int (10 : Int32)), (.long r087), (.long uq86), (.int (11 : Int32)), (.ref b143)]))
    obtain ⟨v196, T196, L196, X196, hQ196, st196⟩ := own_callS X194 hx hZ (y := (⟨"com/example/ordinate/ordinate/sql/NumbersParseIntegerPinLaw", "digit", "(JJI)C"⟩ : MethodName)) 2 hown (hw _ (List.mem_of_getElem? (i := 3) rfl)) (hw _ (List.mem_of_getElem? (i := 4) rfl)) (hw _ (List.mem_of_getElem? (i := 5) rfl)) (hw _ (List.mem_of_getElem? (i := 6) rfl)) (by decide) (rm1_1 l Z a0 hw [] uq86 r087 (10 : Int32) h194 n0 Z194 (Nn / 10) 9 hu (by decide) (by decide)) e194 (pc := 237) (Ls := #[.val (.long p1), .second, .val (.int p2), .val (.int p3), .val (.int p4), .val (.long p5), .second, .val (.int kk83), .val (.int sg84), .val (.int ax85), .val (.int un), .val (.long uq86), .second, .val (.long r087), .second, .val (.ref b143), .unset, .unset, .unset, .unset, .unset, .unset, .unset, .unset, .unset, .unset, .unset]) [(.long uq86), (.long r087), (.int (10 : Int32))] [(.int (11 : Int32)), (.ref b143)] (by rw [hml]; rfl) rfl rfl (lenOf pd_JJI_C rfl) (Nat.le_of_eq rfl) (hb hby at_237) (by decide) (by decide) (by decide) (by decide)
    obtain ⟨h197, e197⟩ : ∃ z, T196.heap = z := ⟨_, rfl⟩
    rw [e197] at hQ196
    obtain ⟨d10, rfl, hd10, Nd10, Kd10⟩ := hQ196
    have Ne10 := Fr.app N194 Nd10
    have Z197 : n0 ≤ h197.size := Nat.le_trans Z194 Kd10.1
    have f198 := F194.keep Kd10 nin0
    refine own_go st196 ?_
    show own_End p e below s _ _ _ (T196.setTop (mkF m 240 #[.val (.long p1), .second, .val (.int p2), .val (.int p3), .val (.int p4), .val (.long p5), .second, .val (.int kk83), .val (.int sg84), .val (.int ax85), .val (.int un), .val (.long uq86), .second, .val (.long r087), .second, .val (.ref b143), .unset, .unset, .unset, .unset, .unset, .unset, .unset, .unset, .unset, .unset, .unset] [(.int d10), (.int (11 : Int32)), (.ref b143)]))
    obtain ⟨T199, h199, X199, e199, W199, F199, st199⟩ := own_fstC X196 hx hZ e197 f198 (j := (11 : Int32)) (x := d10) 11 (by decide) (by decide) (pc := 240) (Ls := #[.val (.long p1), .second, .val (.int p2), .val (.int p3), .val (.int p4), .val (.long p5), .second, .val (.int kk83), .val (.int sg84), .val (.int ax85), .val (.int un), .val (.long uq86), .second, .val (.long r087), .second, .val (.ref b143), .unset, .unset, .unset, .unset, .unset, .unset, .unset, .unset, .unset, .unset, .unset]) (rest := []) (hb hby at_240)
    have N199 := Fr.snoc X199 Ne10 nb143
    have Z199 : n0 ≤ h199.size := by rw [W199.size]; exact Z197
    refine own_go st199 ?_
    show own_End p e below s _ _ _ (T199.setTop (mkF m 241 #[.val (.long p1), .second, .val (.int p2), .val (.int p3), .val (.int p4), .val (.long p5), .second, .val (.int kk83), .val (.int sg84), .val (.int ax85), .val (.int un), .val (.long uq86), .second, .val (.long r087), .second, .val (.ref b143), .unset, .unset, .unset, .unset, .unset, .unset, .unset, .unset, .unset, .unset, .unset] []))
    refine own_go (fun t k => XS.aload X199.here hx rfl (hb hby at_241) rfl rfl k) ?_
    show own_End p e below s _ _ _ (T199.setTop (mkF m 243 #[.val (.long p1), .second, .val (.int p2), .val (.int p3), .val (.int p4), .val (.long p5), .second, .val (.int kk83), .val (.int sg84), .val (.int ax85), .val (.int un), .val (.long uq86), .second, .val (.long r087), .second, .val (.ref b143), .unset, .unset, .unset, .unset, .unset, .unset, .unset, .unset, .unset, .unset, .unset] [(.ref b143)]))
    refine own_go (fun t k => XS.bipush X199.here hx rfl (hb hby at_243) k) ?_
    show own_End p e below s _ _ _ (T199.setTop (mkF m 245 #[.val (.long p1), .second, .val (.int p2), .val (.int p3), .val (.int p4), .val (.long p5), .second, .val (.int kk83), .val (.int sg84), .val (.int ax85), .val (.int un), .val (.long uq86), .second, .val (.long r087), .second, .val (.ref b143), .unset, .unset, .unset, .unset, .unset, .unset, .unset, .unset, .unset, .unset, .unset] [(.int (10 : Int32)), (.ref b143)]))
    refine own_go (fun t k => XT.lload X199.here hx rfl (hb hby at_245) rfl k) ?_
    show own_End p e below s _ _ _ (T199.setTop (mkF m 247 #[.val (.long p1), .second, .val (.int p2), .val (.int p3), .val (.int p4), .val (.long p5), .second, .val (.int kk83), .val (.int sg84), .val (.int ax85), .val (.int un), .val (.long uq86), .second, .val (.long r087), .second, .val (.ref b143), .unset, .unset, .unset, .unset, .unset, .unset, .unset, .unset, .unset, .unset, .unset] [(.long uq86), (.int (10 : Int32)), (.ref b143)]))
    refine own_go (fun t k => XT.lload X199.here hx rfl (hb hby at_247) rfl k) ?_
    show own_End p e below s _ _ _ (T199.setTop (mkF m 249 #[.val (.long p1), .second, .val (.int p2), .val (.int p3), .val (.int p4), .val (.long p5), .second, .val (.int kk83), .val (.int sg84), .val (.int ax85), .val (.int un), .val (.long uq86), .second, .val (.long r087), .second, .val (.ref b143), .unset, .unset, .unset, .unset, .unset, .unset, .unset, .unset, .unset, .unset, .unset] [(.long r087), (.long uq86), (.int (10 : Int32)), (.ref b143)]))
    refine own_go (fun t k => XS.bipush X199.here hx rfl (hb hby at_249) k) ?_
    show own_End p e below s _ _ _ (T199.setTop (mkF m 251 #[.val (.long p1), .second, .val (.int p2), .val (.int p3), .val (.int p4), .val (.long p5), .second, .val (.int kk83), .val (.int sg84), .val (.int ax85), .val (.int un), .val (.long uq86), .second, .val (.long r087), .second, .val (.ref b143), .unset, .unset, .unset, .unset, .unset, .unset, .unset, .unset, .unset, .unset, .unset] [(.int (11 : Int32)), (.long r087), (.long uq86), (.int (10 : Int32)), (.ref b143)]))
    obtain ⟨v201, T201, L201, X201, hQ201, st201⟩ := own_callS X199 hx hZ (y := (⟨"com/example/ordinate/ordinate/sql/NumbersParseIntegerPinLaw", "digit", "(JJI)C"⟩ : MethodName)) 2 hown (hw _ (List.mem_of_getElem? (i := 3) rfl)) (hw _ (List.mem_of_getElem? (i := 4) rfl)) (hw _ (List.mem_of_getElem? (i := 5) rfl)) (hw _ (List.mem_of_getElem? (i := 6) rfl)) (by decide) (rm1_1 l Z a0 hw [] uq86 r087 (11 : Int32) h199 n0 Z199 (Nn / 10) 10 hu (by decide) (by decide)) e199 (pc := 251) (Ls := #[.val (.long p1), .second, .val (.int p2), .val (.int p3), .val (.int p4), .val (.long p5), .second, .val (.int kk83), .val (.int sg84), .val (.int ax85), .val (.int un), .val (.long uq86), .second, .val (.long r087), .second, .val (.ref b143), .unset, .unset, .unset, .unset, .unset, .unset, .unset, .unset, .unset, .unset, .unset]) [(.long uq86), (.long r087), (.int (11 : Int32))] [(.int (10 : Int32)), (.ref b143)] (by rw [hml]; rfl) rfl rfl (lenOf pd_JJI_C rfl) (Nat.le_of_eq rfl) (hb hby at_251) (by decide) (by decide) (by decide) (by decide)
    obtain ⟨h202, e202⟩ : ∃ z, T201.heap = z := ⟨_, rfl⟩
    rw [e202] at hQ201
    obtain ⟨d11, rfl, hd11, Nd11, Kd11⟩ := hQ201
    have Ne11 := Fr.app N199 Nd11
    have Z202 : n0 ≤ h202.size := Nat.le_trans Z199 Kd11.1
    have f203 := F199.keep Kd11 nin0
    refine own_go st201 ?_
    show own_End p e below s _ _ _ (T201.setTop (mkF m 254 #[.val (.long p1), .second, .val (.int p2), .val (.int p3), .val (.int p4), .val (.long p5), .second, .val (.int kk83), .val (.int sg84), .val (.int ax85), .val (.int un), .val (.long uq86), .second, .val (.long r087), .second, .val (.ref b143), .unset, .unset, .unset, .unset, .unset, .unset, .unset, .unset, .unset, .unset, .unset] [(.int d11), (.int (10 : Int32)), (.ref b143)]))
    obtain ⟨T204, h204, X204, e204, W204, F204, st204⟩ := own_fstC X201 hx hZ e202 f203 (j := (10 : Int32)) (x := d11) 10 (by decide) (by decide) (pc := 254) (Ls := #[.val (.long p1), .second, .val (.int p2), .val (.int p3), .val (.int p4), .val (.long p5), .second, .val (.int kk83), .val (.int sg84), .val (.int ax85), .val (.int un), .val (.long uq86), .second, .val (.long r087), .second, .val (.ref b143), .unset, .unset, .unset, .unset, .unset, .unset, .unset, .unset, .unset, .unset, .unset]) (rest := []) (hb hby at_254)
    have N204 := Fr.snoc X204 Ne11 nb143
    have Z204 : n0 ≤ h204.size := by rw [W204.size]; exact Z202
    refine own_go st204 ?_
    show own_End p e below s _ _ _ (T204.setTop (mkF m 255 #[.val (.long p1), .second, .val (.int p2), .val (.int p3), .val (.int p4), .val (.long p5), .second, .val (.int kk83), .val (.int sg84), .val (.int ax85), .val (.int un), .val (.long uq86), .second, .val (.long r087), .second, .val (.ref b143), .unset, .unset, .unset, .unset, .unset, .unset, .unset, .unset, .unset, .unset, .unset] []))
    refine own_go (fun t k => XS.aload X204.here hx rfl (hb hby at_255) rfl rfl k) ?_
    show own_End p e below s _ _ _ (T204.setTop (mkF m 257 #[.val (.long p1), .second, .val (.int p2), .val (.int p3), .val (.int p4), .val (.long p5), .second, .val (.int kk83), .val (.int sg84), .val (.int ax85), .val (.int un), .val (.long uq86), .second, .val (.long r087), .second, .val (.ref b143), .unset, .unset, .unset, .unset, .unset, .unset, .unset, .unset, .unset, .unset, .unset] [(.ref b143)]))
    refine own_go (fun t k => XS.bipush X204.here hx rfl (hb hby at_257) k) ?_
    show own_End p e below s _ _ _ (T204.setTop (mkF m 259 #[.val (.long p1), .second, .val (.int p2), .val (.int p3), .val (.int p4), .val (.long p5), .second, .val (.int kk83), .val (.int sg84), .val (.int ax85), .val (.int un), .val (.long uq86), .second, .val (.long r087), .second, .val (.ref b143), .unset, .unset, .unset, .unset, .unset, .unset, .unset, .unset, .unset, .unset, .unset] [(.int (9 : Int32)), (.ref b143)]))
    refine own_go (fun t k => XT.lload X204.here hx rfl (hb hby at_259) rfl k) ?_
    show own_End p e below s _ _ _ (T204.setTop (mkF m 261 #[.val (.long p1), .second, .val (.int p2), .val (.int p3), .val (.int p4), .val (.long p5), .second, .val (.int kk83), .val (.int sg84), .val (.int ax85), .val (.int un), .val (.long uq86), .second, .val (.long r087), .second, .val (.ref b143), .unset, .unset, .unset, .unset, .unset, .unset, .unset, .unset, .unset, .unset, .unset] [(.long uq86), (.int (9 : Int32)), (.ref b143)]))
    refine own_go (fun t k => XT.lload X204.here hx rfl (hb hby at_261) rfl k) ?_
    show own_End p e below s _ _ _ (T204.setTop (mkF m 263 #[.val (.long p1), .second, .val (.int p2), .val (.int p3), .val (.int p4), .val (.long p5), .second, .val (.int kk83), .val (.int sg84), .val (.int ax85), .val (.int un), .val (.long uq86), .second, .val (.long r087), .second, .val (.ref b143), .unset, .unset, .unset, .unset, .unset, .unset, .unset, .unset, .unset, .unset, .unset] [(.long r087), (.long uq86), (.int (9 : Int32)), (.ref b143)]))
    refine own_go (fun t k => XS.bipush X204.here hx rfl (hb hby at_263) k) ?_
    show own_End p e below s _ _ _ (T204.setTop (mkF m 265 #[.val (.long p1), .second, .val (.int p2), .val (.int p3), .val (.int p4), .val (.long p5), .second, .val (.int kk83), .val (.int sg84), .val (.int ax85), .val (.int un), .val (.long uq86), .second, .val (.long r087), .second, .val (.ref b143), .unset, .unset, .unset, .unset, .unset, .unset, .unset, .unset, .unset, .unset, .unset] [(.int (12 : Int32)), (.long r087), (.long uq86), (.int (9 : Int32)), (.ref b143)]))
    obtain ⟨v206, T206, L206, X206, hQ206, st206⟩ := own_callS X204 hx hZ (y := (⟨"com/example/ordinate/ordinate/sql/NumbersParseIntegerPinLaw", "digit", "(JJI)C"⟩ : MethodName)) 2 hown (hw _ (List.mem_of_getElem? (i := 3) rfl)) (hw _ (List.mem_of_getElem? (i := 4) rfl)) (hw _ (List.mem_of_getElem? (i := 5) rfl)) (hw _ (List.mem_of_getElem? (i := 6) rfl)) (by decide) (rm1_1 l Z a0 hw [] uq86 r087 (12 : Int32) h204 n0 Z204 (Nn / 10) 11 hu (by decide) (by decide)) e204 (pc := 265) (Ls := #[.val (.long p1), .second, .val (.int p2), .val (.int p3), .val (.int p4), .val (.long p5), .second, .val (.int kk83), .val (.int sg84), .val (.int ax85), .val (.int un), .val (.long uq86), .second, .val (.long r087), .second, .val (.ref b143), .unset, .unset, .unset, .unset, .unset, .unset, .unset, .unset, .unset, .unset, .unset]) [(.long uq86), (.long r087), (.int (12 : Int32))] [(.int (9 : Int32)), (.ref b143)] (by rw [hml]; rfl) rfl rfl (lenOf pd_JJI_C rfl) (Nat.le_of_eq rfl) (hb hby at_265) (by decide) (by decide) (by decide) (by decide)
    obtain ⟨h207, e207⟩ : ∃ z, T206.heap = z := ⟨_, rfl⟩
    rw [e207] at hQ206
    obtain ⟨d12, rfl, hd12, Nd12, Kd12⟩ := hQ206
    have Ne12 := Fr.app N204 Nd12
    have Z207 : n0 ≤ h207.size := Nat.le_trans Z204 Kd12.1
    have f208 := F204.keep Kd12 nin0
    refine own_go st206 ?_
    show own_End p e below s _ _ _ (T206.setTop (mkF m 268 #[.val (.long p1), .second, .val (.int p2), .val (.int p3), .val (.int p4), .val (.long p5), .second, .val (.int kk83), .val (.int sg84), .val (.int ax85), .val (.int un), .val (.long uq86), .second, .val (.long r087), .second, .val (.ref b143), .unset, .unset, .unset, .unset, .unset, .unset, .unset, .unset, .unset, .unset, .unset] [(.int d12), (.int (9 : Int32)), (.ref b143)]))
    obtain ⟨T209, h209, X209, e209, W209, F209, st209⟩ := own_fstC X206 hx hZ e207 f208 (j := (9 : Int32)) (x := d12) 9 (by decide) (by decide) (pc := 268) (Ls := #[.val (.long p1), .second, .val (.int p2), .val (.int p3), .val (.int p4), .val (.long p5), .second, .val (.int kk83), .val (.int sg84), .val (.int ax85), .val (.int un), .val (.long uq86), .second, .val (.long r087), .second, .val (.ref b143), .unset, .unset, .unset, .unset, .unset, .unset, .unset, .unset, .unset, .unset, .unset]) (rest := []) (hb hby at_268)
    have N209 := Fr.snoc X209 Ne12 nb143
    have Z209 : n0 ≤ h209.size := by rw [W209.size]; exact Z207
    refine own_go st209 ?_
    show own_End p e below s _ _ _ (T209.setTop (mkF m 269 #[.val (.long p1), .second, .val (.int p2), .val (.int p3), .val (.int p4), .val (.long p5), .second, .val (.int kk83), .val (.int sg84), .val (.int ax85), .val (.int un), .val (.long uq86), .second, .val (.long r087), .second, .val (.ref b143), .unset, .unset, .unset, .unset, .unset, .unset, .unset, .unset, .unset, .unset, .unset] []))
    refine own_go (fun t k => XS.aload X209.here hx rfl (hb hby at_269) rfl rfl k) ?_
    show own_End p e below s _ _ _ (T209.setTop (mkF m 271 #[.val (.long p1), .second, .val (.int p2), .val (.int p3), .val (.int p4), .val (.long p5), .second, .val (.int kk83), .val (.int sg84), .val (.int ax85), .val (.int un), .val (.long uq86), .second, .val (.long r087), .second, .val (.ref b143), .unset, .unset, .unset, .unset, .unset, .unset, .unset, .unset, .unset, .unset, .unset] [(.ref b143)]))
    refine own_go (fun t k => XS.bipush X209.here hx rfl (hb hby at_271) k) ?_
    show own_End p e below s _ _ _ (T209.setTop (mkF m 273 #[.val (.long p1), .second, .val (.int p2), .val (.int p3), .val (.int p4), .val (.long p5), .second, .val (.int kk83), .val (.int sg84), .val (.int ax85), .val (.int un), .val (.long uq86), .second, .val (.long r087), .second, .val (.ref b143), .unset, .unset, .unset, .unset, .unset, .unset, .unset, .unset, .unset, .unset, .unset] [(.int (8 : Int32)), (.ref b143)]))
    refine own_go (fun t k => XT.lload X209.here hx rfl (hb hby at_273) rfl k) ?_
    show own_End p e below s _ _ _ (T209.setTop (mkF m 275 #[.val (.long p1), .second, .val (.int p2), .val (.int p3), .val (.int p4), .val (.long p5), .second, .val (.int kk83), .val (.int sg84), .val (.int ax85), .val (.int un), .val (.long uq86), .second, .val (.long r087), .second, .val (.ref b143), .unset, .unset, .unset, .unset, .unset, .unset, .unset, .unset, .unset, .unset, .unset] [(.long uq86), (.int (8 : Int32)), (.ref b143)]))
    refine own_go (fun t k => XT.lload X209.here hx rfl (hb hby at_275) rfl k) ?_
    show own_End p e below s _ _ _ (T209.setTop (mkF m 277 #[.val (.long p1), .second, .val (.int p2), .val (.int p3), .val (.int p4), .val (.long p5), .second, .val (.int kk83), .val (.int sg84), .val (.int ax85), .val (.int un), .val (.long uq86), .second, .val (.long r087), .second, .val (.ref b143), .unset, .unset, .unset, .unset, .unset, .unset, .unset, .unset, .unset, .unset, .unset] [(.long r087), (.long uq86), (.int (8 : Int32)), (.ref b143)]))
    refine own_go (fun t k => XS.bipush X209.here hx rfl (hb hby at_277) k) ?_
    show own_End p e below s _ _ _ (T209.setTop (mkF m 279 #[.val (.long p1), .second, .val (.int p2), .val (.int p3), .val (.int p4), .val (.long p5), .second, .val (.int kk83), .val (.int sg84), .val (.int ax85), .val (.int un), .val (.long uq86), .second, .val (.long r087), .second, .val (.ref b143), .unset, .unset, .unset, .unset, .unset, .unset, .unset, .unset, .unset, .unset, .unset] [(.int (13 : Int32)), (.long r087), (.long uq86), (.int (8 : Int32)), (.ref b143)]))
    obtain ⟨v211, T211, L211, X211, hQ211, st211⟩ := own_callS X209 hx hZ (y := (⟨"com/example/ordinate/ordinate/sql/NumbersParseIntegerPinLaw", "digit", "(JJI)C"⟩ : MethodName)) 2 hown (hw _ (List.mem_of_getElem? (i := 3) rfl)) (hw _ (List.mem_of_getElem? (i := 4) rfl)) (hw _ (List.mem_of_getElem? (i := 5) rfl)) (hw _ (List.mem_of_getElem? (i := 6) rfl)) (by decide) (rm1_1 l Z a0 hw [] uq86 r087 (13 : Int32) h209 n0 Z209 (Nn / 10) 12 hu (by decide) (by decide)) e209 (pc := 279) (Ls := #[.val (.long p1), .second, .val (.int p2), .val (.int p3), .val (.int p4), .val (.long p5), .second, .val (.int kk83), .val (.int sg84), .val (.int ax85), .val (.int un), .val (.long uq86), .second, .val (.long r087), .second, .val (.ref b143), .unset, .unset, .unset, .unset, .unset, .unset, .unset, .unset, .unset, .unset, .unset]) [(.long uq86), (.long r087), (.int (13 : Int32))] [(.int (8 : Int32)), (.ref b143)] (by rw [hml]; rfl) rfl rfl (lenOf pd_JJI_C rfl) (Nat.le_of_eq rfl) (hb hby at_279) (by decide) (by decide) (by decide) (by decide)
    obtain ⟨h212, e212⟩ : ∃ z, T211.heap = z := ⟨_, rfl⟩
    rw [e212] at hQ211
    obtain ⟨d13, rfl, hd13, Nd13, Kd13⟩ := hQ211
    have Ne13 := Fr.app N209 Nd13
    have Z212 : n0 ≤ h212.size := Nat.le_trans Z209 Kd13.1
    have f213 := F209.keep Kd13 nin0
    refine own_go st211 ?_
    show own_End p e below s _ _ _ (T211.setTop (mkF m 282 #[.val (.long p1), .second, .val (.int p2), .val (.int p3), .val (.int p4), .val (.long p5), .second, .val (.int kk83), .val (.int sg84), .val (.int ax85), .val (.int un), .val (.long uq86), .second, .val (.long r087), .second, .val (.ref b143), .unset, .unset, .unset, .unset, .unset, .unset, .unset, .unset, .unset, .unset, .unset] [(.int d13), (.int (8 : Int32)), (.ref b143)]))
    obtain ⟨T214, h214, X214, e214, W214, F214, st214⟩ := own_fstC X211 hx hZ e212 f213 (j := (8 : Int32)) (x := d13) 8 (by decide) (by decide) (pc := 282) (Ls := #[.val (.long p1), .second, .val (.int p2), .val (.int p3), .val (.int p4), .val (.long p5), .second, .val (.int kk83), .val (.int sg84), .val (.int ax85), .val (.int un), .val (.long uq86), .second, .val (.long r087), .second, .val (.ref b143), .unset, .unset, .unset, .unset, .unset, .unset, .unset, .unset, .unset, .unset, .unset]) (rest := []) (hb hby at_282)
    have N214 := Fr.snoc X214 Ne13 nb143
    have Z214 : n0 ≤ h214.size := by rw [W214.size]; exact Z212
    refine own_go st214 ?_
    show own_End p e below s _ _ _ (T214.setTop (mkF m 283 #[.val (.long p1), .second, .val (.int p2), .val (.int p3), .val (.int p4), .val (.long p5), .second, .val (.int kk83), .val (.int sg84), .val (.int ax85), .val (.int un), .val (.long uq86), .second, .val (.long r087), .second, .val (.ref b143), .unset, .unset, .unset, .unset, .unset, .unset, .unset, .unset, .unset, .unset, .unset] []))
    refine own_go (fun t k => XS.aload X214.here hx rfl (hb hby at_283) rfl rfl k) ?_
    show own_End p e below s _ _ _ (T214.setTop (mkF m 285 #[.val (.long p1), .second, .val (.int p2), .val (.int p3), .val (.int p4), .val (.long p5), .second, .val (.int kk83), .val (.int sg84), .val (.int ax85), .val (.int un), .val (.long uq86), .second, .val (.long r087), .second, .val (.ref b143), .unset, .unset, .unset, .unset, .unset, .unset, .unset, .unset, .unset, .unset, .unset] [(.ref b143)]))
    refine own_go (fun t k => XS.bipush X214.here hx rfl (hb hby at_285) k) ?_
    show own_End p e below s _ _ _ (T214.setTop (mkF m 287 #[.val (.long p1), .second, .val (.int p2), .val (.int p3), .val (.int p4), .val (.long p5), .second, .val (.int kk83), .val (.int sg84), .val (.int ax85), .val (.int un), .val (.long uq86), .second, .val (.long r087), .second, .val (.ref b143), .unset, .unset, .unset, .unset, .unset, .unset, .unset, .unset, .unset, .unset, .unset] [(.int (7 : Int32)), (.ref b143)]))
    refine own_go (fun t k => XT.lload X214.here hx rfl (hb hby at_287) rfl k) ?_
    show own_End p e below s _ _ _ (T214.setTop (mkF m 289 #[.val (.long p1), .second, .val (.int p2), .val (.int p3), .val (.int p4), .val (.long p5), .second, .val (.int kk83), .val (.int sg84), .val (.int ax85), .val (.int un), .val (.long uq86), .second, .val (.long r087), .second, .val (.ref b143), .unset, .unset, .unset, .unset, .unset, .unset, .unset, .unset, .unset, .unset, .unset] [(.long uq86), (.int (7 : Int32)), (.ref b143)]))
    refine own_go (fun t k => XT.lload X214.here hx rfl (hb hby at_289) rfl k) ?_
    show own_End p e below s _ _ _ (T214.setTop (mkF m 291 #[.val (.long p1), .second, .val (.int p2), .val (.int p3), .val (.int p4), .val (.long p5), .second, .val (.int kk83), .val (.int sg84), .val (.int ax85), .val (.int un), .val (.long uq86), .second, .val (.long r087), .second, .val (.ref b143), .unset, .unset, .unset, .unset, .unset, .unset, .unset, .unset, .unset, .unset, .unset] [(.long r087), (.long uq86), (.int (7 : Int32)), (.ref b143)]))
    refine own_go (fun t k => XS.bipush X214.here hx rfl (hb hby at_291) k) ?_
    show own_End p e below s _ _ _ (T214.setTop (mkF m 293 #[.val (.long p1), .second, .val (.int p2), .val (.int p3), .val (.int p4), .val (.long p5), .second, .val (.int kk83), .val (.int sg84), .val (.int ax85), .val (.int un), .val (.long uq86), .second, .val (.long r087), .second, .val (.ref b143), .unset, .unset, .unset, .unset, .unset, .unset, .unset, .unset, .unset, .unset, .unset] [(.int (14 : Int32)), (.long r087), (.long uq86), (.int (7 : Int32)), (.ref b143)]))
    obtain ⟨v216, T216, L216, X216, hQ216, st216⟩ := own_callS X214 hx hZ (y := (⟨"com/example/ordinate/ordinate/sql/NumbersParseIntegerPinLaw", "digit", "(JJI)C"⟩ : MethodName)) 2 hown (hw _ (List.mem_of_getElem? (i := 3) rfl)) (hw _ (List.mem_of_getElem? (i := 4) rfl)) (hw _ (List.mem_of_getElem? (i := 5) rfl)) (hw _ (List.mem_of_getElem? (i := 6) rfl)) (by decide) (rm1_1 l Z a0 hw [] uq86 r087 (14 : Int32) h214 n0 Z214 (Nn / 10) 13 hu (by decide) (by decide)) e214 (pc := 293) (Ls := #[.val (.long p1), .second, .val (.int p2), .val (.int p3), .val (.int p4), .val (.long p5), .second, .val (.int kk83), .val (.int sg84), .val (.int ax85), .val (.int un), .val (.long uq86), .second, .val (.long r087), .second, .val (.ref b143), .unset, .unset, .unset, .unset, .unset, .unset, .unset, .unset, .unset, .unset, .unset]) [(.long uq86), (.long r087), (.int (14 : Int32))] [(.int (7 : Int32)), (.ref b143)] (by rw [hml]; rfl) rfl rfl (lenOf pd_JJI_C rfl) (Nat.le_of_eq rfl) (hb hby at_293) (by decide) (by decide) (by decide) (by decide)
    obtain ⟨h217, e217⟩ : ∃ z, T216.heap = z := ⟨_, rfl⟩
    rw [e217] at hQ216
    obtain ⟨d14, rfl, hd14, Nd14, Kd14⟩ := hQ216
    have Ne14 := Fr.app N214 Nd14
    have Z217 : n0 ≤ h217.size := Nat.le_trans Z214 Kd14.1
    have f218 := F214.keep Kd14 nin0
    refine own_go st216 ?_
    show own_End p e below s _ _ _ (T216.setTop (mkF m 296 #[.val (.long p1), .second, .val (.int p2), .val (.int p3), .val (.int p4), .val (.long p5), .second, .val (.int kk83), .val (.int sg84), .val (.int ax85), .val (.int un), .val (.long uq86), .second, .val (.long r087), .second, .val (.ref b143), .unset, .unset, .unset, .unset, .unset, .unset, .unset, .unset, .unset, .unset, .unset] [(.int d14), (.int (7 : Int32)), (.ref b143)]))
    obtain ⟨T219, h219, X219, e219, W219, F219, st219⟩ := own_fstC X216 hx hZ e217 f218 (j := (7 : Int32)) (x := d14) 7 (by decide) (by decide) (pc := 296) (Ls := #[.val (.long p1), .second, .val (.int p2), .val (.int p3), .val (.int p4), .val (.long p5), .second, .val (.int kk83), .val (.int sg84), .val (.int ax85), .val (.int un), .val (.long uq86), .second, .val (.long r087), .second, .val (.ref b143), .unset, .unset, .unset, .unset, .unset, .unset, .unset, .unset, .unset, .unset, .unset]) (rest := []) (hb hby at_296)
    have N219 := Fr.snoc X219 Ne14 nb143
    have Z219 : n0 ≤ h219.size := by rw [W219.size]; exact Z217
    refine own_go st219 ?_
    show own_End p e below s _ _ _ (T219.setTop (mkF m 297 #[.val (.long p1), .second, .val (.int p2), .val (.int p3), .val (.int p4), .val (.long p5), .second, .val (.int kk83), .val (.int sg84), .val (.int ax85), .val (.int un), .val (.long uq86), .second, .val (.long r087), .second, .val (.ref b143), .unset, .unset, .unset, .unset, .unset, .unset, .unset, .unset, .unset, .unset, .unset] []))
    refine own_go (fun t k => XS.aload X219.here hx rfl (hb hby at_297) rfl rfl k) ?_
    show own_End p e below s _ _ _ (T219.setTop (mkF m 299 #[.val (.long p1), .second, .val (.int p2), .val (.int p3), .val (.int p4), .val (.long p5), .second, .val (.int kk83), .val (.int sg84), .val (.int ax85), .val (.int un), .val (.long uq86), .second, .val (.long r087), .second, .val (.ref b143), .unset, .unset, .unset, .unset, .unset, .unset, .unset, .unset, .unset, .unset, .unset] [(.ref b143)]))
    refine own_go (fun t k => XS.bipush X219.here hx rfl (hb hby at_299) k) ?_
    show own_End p e below s _ _ _ (T219.setTop (mkF m 301 #[.val (.long p1), .second, .val (.int p2), .val (.int p3), .val (.int p4), .val (.long p5), .second, .val (.int kk83), .val (.int sg84), .val (.int ax85), .val (.int un), .val (.long uq86), .second, .val (.long r087), .second, .val (.ref b143), .unset, .unset, .unset, .unset, .unset, .unset, .unset, .unset, .unset, .unset, .unset] [(.int (6 : Int32)), (.ref b143)]))
    refine own_go (fun t k => XT.lload X219.here hx rfl (hb hby at_301) rfl k) ?_
    show own_End p e below s _ _ _ (T219.setTop (mkF m 303 #[.val (.long p1), .second, .val (.int p2), .val (.int p3), .val (.int p4), .val (.long p5), .second, .val (.int kk83), .val (.int sg84), .val (.int ax85), .val (.int un), .val (.long uq86), .second, .val (.long r087), .second, .val (.ref b143), .unset, .unset, .unset, .unset, .unset, .unset, .unset, .unset, .unset, .unset, .unset] [(.long uq86), (.int (6 : Int32)), (.ref b143)]))
    refine own_go (fun t k => XT.lload X219.here hx rfl (hb hby at_303) rfl k) ?_
    show own_End p e below s _ _ _ (T219.setTop (mkF m 305 #[.val (.long p1), .second, .val (.int p2), .val (.int p3), .val (.int p4), .val (.long p5), .second, .val (.int kk83), .val (.int sg84), .val (.int ax85), .val (.int un), .val (.long uq86), .second, .val (.long r087), .second, .val (.ref b143), .unset, .unset, .unset, .unset, .unset, .unset, .unset, .unset, .unset, .unset, .unset] [(.long r087), (.long uq86), (.int (6 : Int32)), (.ref b143)]))
    refine own_go (fun t k => XS.bipush X219.here hx rfl (hb hby at_305) k) ?_
    show own_End p e below s _ _ _ (T219.setTop (mkF m 307 #[.val (.long p1), .second, .val (.int p2), .val (.int p3), .val (.int p4), .val (.long p5), .second, .val (.int kk83), .val (.int sg84), .val (.int ax85), .val (.int un), .val (.long uq86), .second, .val (.long r087), .second, .val (.ref b143), .unset, .unset, .unset, .unset, .unset, .unset, .unset, .unset, .unset, .unset, .unset] [(.int (15 : Int32)), (.long r087), (.long uq86), (.int (6 : Int32)), (.ref b143)]))
    obtain ⟨v221, T221, L221, X221, hQ221, st221⟩ := own_callS X219 hx hZ (y := (⟨"com/example/ordinate/ordinate/sql/NumbersParseIntegerPinLaw", "digit", "(JJI)C"⟩ : MethodName)) 2 hown (hw _ (List.mem_of_getElem? (i := 3) rfl)) (hw _ (List.mem_of_getElem? (i := 4) rfl)) (hw _ (List.mem_of_getElem? (i := 5) rfl)) (hw _ (List.mem_of_getElem? (i := 6) rfl)) (by decide) (rm1_1 l Z a0 hw [] uq86 r087 (15 : Int32) h219 n0 Z219 (Nn / 10) 14 hu (by decide) (by decide)) e219 (pc := 307) (Ls := #[.val (.long p1), .second, .val (.int p2), .val (.int p3), .val (.int p4), .val (.long p5), .second, .val (.int kk83), .val (.int sg84), .val (.int ax85), .val (.int un), .val (.long uq86), .second, .val (.long r087), .second, .val (.ref b143), .unset, .unset, .unset, .unset, .unset, .unset, .unset, .unset, .unset, .unset, .unset]) [(.long uq86), (.long r087), (.int (15 : Int32))] [(.int (6 : Int32)), (.ref b143)] (by rw [hml]; rfl) rfl rfl (lenOf pd_JJI_C rfl) (Nat.le_of_eq rfl) (hb hby at_307) (by decide) (by decide) (by decide) (by decide)
    obtain ⟨h222, e222⟩ : ∃ z, T221.heap = z := ⟨_, rfl⟩
    rw [e222] at hQ221
    obtain ⟨d15, rfl, hd15, Nd15, Kd15⟩ := hQ221
    have Ne15 := Fr.app N219 Nd15
    have Z222 : n0 ≤ h222.size := Nat.le_trans Z219 Kd15.1
    have f223 := F219.keep Kd15 nin0
    refine own_go st221 ?_
    show own_End p e below s _ _ _ (T221.setTop (mkF m 310 #[.val (.long p1), .second, .val (.int p2), .val (.int p3), .val (.int p4), .val (.long p5), .second, .val (.int kk83), .val (.int sg84), .val (.int ax85), .val (.int un), .val (.long uq86), .second, .val (.long r087), .second, .val (.ref b143), .unset, .unset, .unset, .unset, .unset, .unset, .unset, .unset, .unset, .unset, .unset] [(.int d15), (.int (6 : Int32)), (.ref b143)]))
    obtain ⟨T224, h224, X224, e224, W224, F224, st224⟩ := own_fstC X221 hx hZ e222 f223 (j := (6 : Int32)) (x := d15) 6 (by decide) (by decide) (pc := 310) (Ls := #[.val (.long p1), .second, .val (.int p2), .val (.int p3), .val (.int p4), .val (.long p5), .second, .val (.int kk83), .val (.int sg84), .val (.int ax85), .val (.int un), .val (.long uq86), .second, .val (.long r087), .second, .val (.ref b143), .unset, .unset, .unset, .unset, .unset, .unset, .unset, .unset, .unset, .unset, .unset]) (rest := []) (hb hby at_310)
    have N224 := Fr.snoc X224 Ne15 nb143
    have Z224 : n0 ≤ h224.size := by rw [W224.size]; exact Z222
    refine own_go st224 ?_
    show own_End p e below s _ _ _ (T224.setTop (mkF m 311 #[.val (.long p1), .second, .val (.int p2), .val (.int p3), .val (.int p4), .val (.long p5), .second, .val (.int kk83), .val (.int sg84), .val (.int ax85), .val (.int un), .val (.long uq86), .second, .val (.long r087), .second, .val (.ref b143), .unset, .unset, .unset, .unset, .unset, .unset, .unset, .unset, .unset, .unset, .unset] []))
    refine own_go (fun t k => XS.aload X224.here hx rfl (hb hby at_311) rfl rfl k) ?_
    show own_End p e below s _ _ _ (T224.setTop (mkF m 313 #[.val (.long p1), .second, .val (.int p2), .val (.int p3), .val (.int p4), .val (.long p5), .second, .val (.int kk83), .val (.int sg84), .val (.int ax85), .val (.int un), .val (.long uq86), .second, .val (.long r087), .second, .val (.ref b143), .unset, .unset, .unset, .unset, .unset, .unset, .unset, .unset, .unset, .unset, .unset] [(.ref b143)]))
    refine own_go (fun t k => XS.iconst X224.here hx rfl (hb hby at_313) k) ?_
    show own_End p e below s _ _ _ (T224.setTop (mkF m 314 #[.val (.long p1), .second, .val (.int p2), .val (.int p3), .val (.int p4), .val (.long p5), .second, .val (.int kk83), .val (.int sg84), .val (.int ax85), .val (.int un), .val (.long uq86), .second, .val (.long r087), .second, .val (.ref b143), .unset, .unset, .unset, .unset, .unset, .unset, .unset, .unset, .unset, .unset, .unset] [(.int (5 : Int32)), (.ref b143)]))
    refine own_go (fun t k => XT.lload X224.here hx rfl (hb hby at_314) rfl k) ?_
    show own_End p e below s _ _ _ (T224.setTop (mkF m 316 #[.val (.long p1), .second, .val (.int p2), .val (.int p3), .val (.int p4), .val (.long p5), .second, .val (.int kk83), .val (.int sg84), .val (.int ax85), .val (.int un), .val (.long uq86), .second, .val (.long r087), .second, .val (.ref b143), .unset, .unset, .unset, .unset, .unset, .unset, .unset, .unset, .unset, .unset, .unset] [(.long uq86), (.int (5 : Int32)), (.ref b143)]))
    refine own_go (fun t k => XT.lload X224.here hx rfl (hb hby at_316) rfl k) ?_
    show own_End p e below s _ _ _ (T224.setTop (mkF m 318 #[.val (.long p1), .second, .val (.int p2), .val (.int p3), .val (.int p4), .val (.long p5), .second, .val (.int kk83), .val (.int sg84), .val (.int ax85), .val (.int un), .val (.long uq86), .second, .val (.long r087), .second, .val (.ref b143), .unset, .unset, .unset, .unset, .unset, .unset, .unset, .unset, .unset, .unset, .unset] [(.long r087), (.long uq86), (.int (5 : Int32)), (.ref b143)]))
    refine own_go (fun t k => XS.bipush X224.here hx rfl (hb hby at_318) k) ?_
    show own_End p e below s _ _ _ (T224.setTop (mkF m 320 #[.val (.long p1), .second, .val (.int p2), .val (.int p3), .val (.int p4), .val (.long p5), .second, .val (.int kk83), .val (.int sg84), .val (.int ax85), .val (.int un), .val (.long uq86), .second, .val (.long r087), .second, .val (.ref b143), .unset, .unset, .unset, .unset, .unset, .unset, .unset, .unset, .unset, .unset, .unset] [(.int (16 : Int32)), (.long r087), (.long uq86), (.int (5 : Int32)), (.ref b143)]))
    obtain ⟨v226, T226, L226, X226, hQ226, st226⟩ := own_callS X224 hx hZ (y := (⟨"com/example/ordinate/ordinate/sql/NumbersParseIntegerPinLaw", "digit", "(JJI)C"⟩ : MethodName)) 2 hown (hw _ (List.mem_of_getElem? (i := 3) rfl)) (hw _ (List.mem_of_getElem? (i := 4) rfl)) (hw _ (List.mem_of_getElem? (i := 5) rfl)) (hw _ (List.mem_of_getElem? (i := 6) rfl)) (by decide) (rm1_1 l Z a0 hw [] uq86 r087 (16 : Int32) h224 n0 Z224 (Nn / 10) 15 hu (by decide) (by decide)) e224 (pc := 320) (Ls := #[.val (.long p1), .second, .val (.int p2), .val (.int p3), .val (.int p4), .val (.long p5), .second, .val (.int kk83), .val (.int sg84), .val (.int ax85), .val (.int un), .val (.long uq86), .second, .val (.long r087), .second, .val (.ref b143), .unset, .unset, .unset, .unset, .unset, .unset, .unset, .unset, .unset, .unset, .unset]) [(.long uq86), (.long r087), (.int (16 : Int32))] [(.int (5 : Int32)), (.ref b143)] (by rw [hml]; rfl) rfl rfl (lenOf pd_JJI_C rfl) (Nat.le_of_eq rfl) (hb hby at_320) (by decide) (by decide) (by decide) (by decide)
    obtain ⟨h227, e227⟩ : ∃ z, T226.heap = z := ⟨_, rfl⟩
    rw [e227] at hQ226
    obtain ⟨d16, rfl, hd16, Nd16, Kd16⟩ := hQ226
    have Ne16 := Fr.app N224 Nd16
    have Z227 : n0 ≤ h227.size := Nat.le_trans Z224 Kd16.1
    have f228 := F224.keep Kd16 nin0
    refine own_go st226 ?_
    show own_End p e below s _ _ _ (T226.setTop (mkF m 323 #[.val (.long p1), .second, .val (.int p2), .val (.int p3), .val (.int p4), .val (.long p5), .second, .val (.int kk83), .val (.int sg84), .val (.int ax85), .val (.int un), .val (.long uq86), .second, .val (.long r087), .second, .val (.ref b143), .unset, .unset, .unset, .unset, .unset, .unset, .unset, .unset, .unset, .unset, .unset] [(.int d16), (.int (5 : Int32)), (.ref b143)]))
    obtain ⟨T229, h229, X229, e229, W229, F229, st229⟩ := own_fstC X226 hx hZ e227 f228 (j := (5 : Int32)) (x := d16) 5 (by decide) (by decide) (pc := 323) (Ls := #[.val (.long p1), .second, .val (.int p2), .val (.int p3), .val (.int p4), .val (.long p5), .second, .val (.int kk83), .val (.int sg84), .val (.int ax85), .val (.int un), .val (.long uq86), .second, .val (.long r087), .second, .val (.ref b143), .unset, .unset, .unset, .unset, .unset, .unset, .unset, .unset, .unset, .unset, .unset]) (rest := []) (hb hby at_323)
    have N229 := Fr.snoc X229 Ne16 nb143
    have Z229 : n0 ≤ h229.size := by rw [W229.size]; exact Z227
    refine own_go st229 ?_
    show own_End p e below s _ _ _ (T229.setTop (mkF m 324 #[.val (.long p1), .second, .val (.int p2), .val (.int p3), .val (.int p4), .val (.long p5), .second, .val (.int kk83), .val (.int sg84), .val (.int ax85), .val (.int un), .val (.long uq86), .second, .val (.long r087), .second, .val (.ref b143), .unset, .unset, .unset, .unset, .unset, .unset, .unset, .unset, .unset, .unset, .unset] []))
    refine own_go (fun t k => XS.aload X229.here hx rfl (hb hby at_324) rfl rfl k) ?_
    show own_End p e below s _ _ _ (T229.setTop (mkF m 326 #[.val (.long p1), .second, .val (.int p2), .val (.int p3), .val (.int p4), .val (.long p5), .second, .val (.int kk83), .val (.int sg84), .val (.int ax85), .val (.int un), .val (.long uq86), .second, .val (.long r087), .second, .val (.ref b143), .unset, .unset, .unset, .unset, .unset, .unset, .unset, .unset, .unset, .unset, .unset] [(.ref b143)]))
    refine own_go (fun t k => XS.iconst X229.here hx rfl (hb hby at_326) k) ?_
    show own_End p e below s _ _ _ (T229.setTop (mkF m 327 #[.val (.long p1), .second, .val (.int p2), .val (.int p3), .val (.int p4), .val (.long p5), .second, .val (.int kk83), .val (.int sg84), .val (.int ax85), .val (.int un), .val (.long uq86), .second, .val (.long r087), .second, .val (.ref b143), .unset, .unset, .unset, .unset, .unset, .unset, .unset, .unset, .unset, .unset, .unset] [(.int (4 : Int32)), (.ref b143)]))
    refine own_go (fun t k => XT.lload X229.here hx rfl (hb hby at_327) rfl k) ?_
    show own_End p e below s _ _ _ (T229.setTop (mkF m 329 #[.val (.long p1), .second, .val (.int p2), .val (.int p3), .val (.int p4), .val (.long p5), .second, .val (.int kk83), .val (.int sg84), .val (.int ax85), .val (.int un), .val (.long uq86), .second, .val (.long r087), .second, .val (.ref b143), .unset, .unset, .unset, .unset, .unset, .unset, .unset, .unset, .unset, .unset, .unset] [(.long uq86), (.int (4 : Int32)), (.ref b143)]))
    refine own_go (fun t k => XT.lload X229.here hx rfl (hb hby at_329) rfl k) ?_
    show own_End p e below s _ _ _ (T229.setTop (mkF m 331 #[.val (.long p1), .second, .val (.int p2), .val (.int p3), .val (.int p4), .val (.long p5), .second, .val (.int kk83), .val (.int sg84), .val (.int ax85), .val (.int un), .val (.long uq86), .second, .val (.long r087), .second, .val (.ref b143), .unset, .unset, .unset, .unset, .unset, .unset, .unset, .unset, .unset, .unset, .unset] [(.long r087), (.long uq86), (.int (4 : Int32)), (.ref b143)]))
    refine own_go (fun t k => XS.bipush X229.here hx rfl (hb hby at_331) k) ?_
    show own_End p e below s _ _ _ (T229.setTop (mkF m 333 #[.val (.long p1), .second, .val (.int p2), .val (.int p3), .val (.int p4), .val (.long p5), .second, .val (.int kk83), .val (.int sg84), .val (.int ax85), .val (.int un), .val (.long uq86), .second, .val (.long r087), .second, .val (.ref b143), .unset, .unset, .unset, .unset, .unset, .unset, .unset, .unset, .unset, .unset, .unset] [(.int (17 : Int32)), (.long r087), (.long uq86), (.int (4 : Int32)), (.ref b143)]))
    obtain ⟨v231, T231, L231, X231, hQ231, st231⟩ := own_callS X229 hx hZ (y := (⟨"com/example/ordinate/ordinate/sql/NumbersParseIntegerPinLaw", "digit", "(JJI)C"⟩ : MethodName)) 2 hown (hw _ (List.mem_of_getElem? (i := 3) rfl)) (hw _ (List.mem_of_getElem? (i := 4) rfl)) (hw _ (List.mem_of_getElem? (i := 5) rfl)) (hw _ (List.mem_of_getElem? (i := 6) rfl)) (by decide) (rm1_1 l Z a0 hw [] uq86 r087 (17 : Int32) h229 n0 Z229 (Nn / 10) 16 hu (by decide) (by decide)) e229 (pc := 333) (Ls := #[.val (.long p1), .second, .val (.int p2), .val (.int p3), .val (.int p4), .val (.long p5), .second, .val (.int kk83), .val (.int sg84), .val (.int ax85), .val (.int un), .val (.long uq86), .second, .val (.long r087), .second, .val (.ref b143), .unset, .unset, .unset, .unset, .unset, .unset, .unset, .unset, .unset, .unset, .unset]) [(.long uq86), (.long r087), (.int (17 : Int32))] [(.int (4 : Int32)), (.ref b143)] (by rw [hml]; rfl) rfl rfl (lenOf pd_JJI_C rfl) (Nat.le_of_eq rfl) (hb hby at_333) (by decide) (by decide) (by decide) (by decide)
    obtain ⟨h232, e232⟩ : ∃ z, T231.heap = z := ⟨_, rfl⟩
    rw [e232] at hQ231
    obtain ⟨d17, rfl, hd17, Nd17, Kd17⟩ := hQ231
    have Ne17 := Fr.app N229 Nd17
    have Z232 : n0 ≤ h232.size := Nat.le_trans Z229 Kd17.1
    have f233 := F229.keep Kd17 nin0
    refine own_go st231 ?_
    show own_End p e below s _ _ _ (T231.setTop (mkF m 336 #[.val (.long p1), .second, .val (.int p2), .val (.int p3), .val (.int p4), .val (.long p5), .second, .val (.int kk83), .val (.int sg84), .val (.int ax85), .val (.int un), .val (.long uq86), .second, .val (.long r087), .second, .val (.ref b143), .unset, .unset, .unset, .unset, .unset, .unset, .unset, .unset, .unset, .unset, .unset] [(.int d17), (.int (4 : Int32)), (.ref b143)]))
    obtain ⟨T234, h234, X234, e234, W234, F234, st234⟩ := own_fstC X231 hx hZ e232 f233 (j := (4 : Int32)) (x := d17) 4 (by decide) (by decide) (pc := 336) (Ls := #[.val (.long p1), .second, .val (.int p2), .val (.int p3), .val (.int p4), .val (.long p5), .second, .val (.int kk83), .val (.int sg84), .val (.int ax85), .val (.int un), .val (.long uq86), .second, .val (.long r087), .second, .val (.ref b143), .unset, .unset, .unset, .unset, .unset, .unset, .unset, .unset, .unset, .unset, .unset]) (rest := []) (hb hby at_336)
    have N234 := Fr.snoc X234 Ne17 nb143
    have Z234 : n0 ≤ h234.size := by rw [W234.size]; exact Z232
    refine own_go st234 ?_
    show own_End p e below s _ _ _ (T234.setTop (mkF m 337 #[.val (.long p1), .second, .val (.int p2), .val (.int p3), .val (.int p4), .val (.long p5), .second, .val (.int kk83), .val (.int sg84), .val (.int ax85), .val (.int un), .val (.long uq86), .second, .val (.long r087), .second, .val (.ref b143), .unset, .unset, .unset, .unset, .unset, .unset, .unset, .unset, .unset, .unset, .unset] []))
    refine own_go (fun t k => XS.aload X234.here hx rfl (hb hby at_337) rfl rfl k) ?_
    show own_End p e below s _ _ _ (T234.setTop (mkF m 339 #[.val (.long p1), .second, .val (.int p2), .val (.int p3), .val (.int p4), .val (.long p5), .second, .val (.int kk83), .val (.int sg84), .val (.int ax85), .val (.int un), .val (.long uq86), .second, .val (.long r087), .second, .val (.ref b143), .unset, .unset, .unset, .unset, .unset, .unset, .unset, .unset, .unset, .unset, .unset] [(.ref b143)]))
    refine own_go (fun t k => XS.iconst X234.here hx rfl (hb hby at_339) k) ?_
    show own_End p e below s _ _ _ (T234.setTop (mkF m 340 #[.val (.long p1), .second, .val (.int p2), .val (.int p3), .val (.int p4), .val (.long p5), .second, .val (.int kk83), .val (.int sg84), .val (.int ax85), .val (.int un), .val (.long uq86), .second, .val (.long r087), .second, .val (.ref b143), .unset, .unset, .unset, .unset, .unset, .unset, .unset, .unset, .unset, .unset, .unset] [(.int (3 : Int32)), (.ref b143)]))
    refine own_go (fun t k => XT.lload X234.here hx rfl (hb hby at_340) rfl k) ?_
    show own_End p e below s _ _ _ (T234.setTop (mkF m 342 #[.val (.long p1), .second, .val (.int p2), .val (.int p3), .val (.int p4), .val (.long p5), .second, .val (.int kk83), .val (.int sg84), .val (.int ax85), .val (.int un), .val (.long uq86), .second, .val (.long r087), .second, .val (.ref b143), .unset, .unset, .unset, .unset, .unset, .unset, .unset, .unset, .unset, .unset, .unset] [(.long uq86), (.int (3 : Int32)), (.ref b143)]))
    refine own_go (fun t k => XT.lload X234.here hx rfl (hb hby at_342) rfl k) ?_
    show own_End p e below s _ _ _ (T234.setTop (mkF m 344 #[.val (.long p1), .second, .val (.int p2), .val (.int p3), .val (.int p4), .val (.long p5), .second, .val (.int kk83), .val (.int sg84), .val (.int ax85), .val (.int un), .val (.long uq86), .second, .val (.long r087), .second, .val (.ref b143), .unset, .unset, .unset, .unset, .unset, .unset, .unset, .unset, .unset, .unset, .unset] [(.long r087), (.long uq86), (.int (3 : Int32)), (.ref b143)]))
    refine own_go (fun t k => XS.bipush X234.here hx rfl (hb hby at_344) k) ?_
    show own_End p e below s _ _ _ (T234.setTop (mkF m 346 #[.val (.long p1), .second, .val (.int p2), .val (.int p3), .val (.int p4), .val (.long p5), .second, .val (.int kk83), .val (.int sg84), .val (.int ax85), .val (.int un), .val (.long uq86), .second, .val (.long r087), .second, .val (.ref b143), .unset, .unset, .unset, .unset, .unset, .unset, .unset, .unset, .unset, .unset, .unset] [(.int (18 : Int32)), (.long r087), (.long uq86), (.int (3 : Int32)), (.ref b143)]))
    obtain ⟨v236, T236, L236, X236, hQ236, st236⟩ := own_callS X234 hx hZ (y := (⟨"com/example/ordinate/ordinate/sql/NumbersParseIntegerPinLaw", "digit", "(JJI)C"⟩ : MethodName)) 2 hown (hw _ (List.mem_of_getElem? (i := 3) rfl)) (hw _ (List.mem_of_getElem? (i := 4) rfl)) (hw _ (List.mem_of_getElem? (i := 5) rfl)) (hw _ (List.mem_of_getElem? (i := 6) rfl)) (by decide) (rm1_1 l Z a0 hw [] uq86 r087 (18 : Int32) h234 n0 Z234 (Nn / 10) 17 hu (by decide) (by decide)) e234 (pc := 346) (Ls := #[.val (.long p1), .second, .val (.int p2), .val (.int p3), .val (.int p4), .val (.long p5), .second, .val (.int kk83), .val (.int sg84), .val (.int ax85), .val (.int un), .val (.long uq86), .second, .val (.long r087), .second, .val (.ref b143), .unset, .unset, .unset, .unset, .unset, .unset, .unset, .unset, .unset, .unset, .unset]) [(.long uq86), (.long r087), (.int (18 : Int32))] [(.int (3 : Int32)), (.ref b143)] (by rw [hml]; rfl) rfl rfl (lenOf pd_JJI_C rfl) (Nat.le_of_eq rfl) (hb hby at_346) (by decide) (by decide) (by decide) (by decide)
    obtain ⟨h237, e237⟩ : ∃ z, T236.heap = z := ⟨_, rfl⟩
    rw [e237] at hQ236
    obtain ⟨d18, rfl, hd18, Nd18, Kd18⟩ := hQ236
    have Ne18 := Fr.app N234 Nd18
    have Z237 : n0 ≤ h237.size := Nat.le_trans Z234 Kd18.1
    have f238 := F234.keep Kd18 nin0
    refine own_go st236 ?_
    show own_End p e below s _ _ _ (T236.setTop (mkF m 349 #[.val (.long p1), .second, .val (.int p2), .val (.int p3), .val (.int p4), .val (.long p5), .second, .val (.int kk83), .val (.int sg84), .val (.int ax85), .val (.int un), .val (.long uq86), .second, .val (.long r087), .second, .val (.ref b143), .unset, .unset, .unset, .unset, .unset, .unset, .unset, .unset, .unset, .unset, .unset] [(.int d18), (.int (3 : Int32)), (.ref b143)]))
    obtain ⟨T239, h239, X239, e239, W239, F239, st239⟩ := own_fstC X236 hx hZ e237 f238 (j := (3 : Int32)) (x := d18) 3 (by decide) (by decide) (pc := 349) (Ls := #[.val (.long p1), .second, .val (.int p2), .val (.int p3), .val (.int p4), .val (.long p5), .second, .val (.int kk83), .val (.int sg84), .val (.int ax85), .val (.int un), .val (.long uq86), .second, .val (.long r087), .second, .val (.ref b143), .unset, .unset, .unset, .unset, .unset, .unset, .unset, .unset, .unset, .unset, .unset]) (rest := []) (hb hby at_349)
    have N239 := Fr.snoc X239 Ne18 nb143
    have Z239 : n0 ≤ h239.size := by rw [W239.size]; exact Z237
    refine own_go st239 ?_
    show own_End p e below s _ _ _ (T239.setTop (mkF m 350 #[.val (.long p1), .second, .val (.int p2), .val (.int p3), .val (.int p4), .val (.long p5), .second, .val (.int kk83), .val (.int sg84), .val (.int ax85), .val (.int un), .val (.long uq86), .second, .val (.long r087), .second, .val (.ref b143), .unset, .unset, .unset, .unset, .unset, .unset, .unset, .unset, .unset, .unset, .unset] []))
    refine own_go (fun t k => XS.aload X239.here hx rfl (hb hby at_350) rfl rfl k) ?_
    show own_End p e below s _ _ _ (T239.setTop (mkF m 352 #[.val (.long p1), .second, .val (.int p2), .val (.int p3), .val (.int p4), .val (.long p5), .second, .val (.int kk83), .val (.int sg84), .val (.int ax85), .val (.int un), .val (.long uq86), .second, .val (.long r087), .second, .val (.ref b143), .unset, .unset, .unset, .unset, .unset, .unset, .unset, .unset, .unset, .unset, .unset] [(.ref b143)]))
    refine own_go (fun t k => XS.iconst X239.here hx rfl (hb hby at_352) k) ?_
    show own_End p e below s _ _ _ (T239.setTop (mkF m 353 #[.val (.long p1), .second, .val (.int p2), .val (.int p3), .val (.int p4), .val (.long p5), .second, .val (.int kk83), .val (.int sg84), .val (.int ax85), .val (.int un), .val (.long uq86), .second, .val (.long r087), .second, .val (.ref b143), .unset, .unset, .unset, .unset, .unset, .unset, .unset, .unset, .unset, .unset, .unset] [(.int (2 : Int32)), (.ref b143)]))
    refine own_go (fun t k => XT.lload X239.here hx rfl (hb hby at_353) rfl k) ?_
    show own_End p e below s _ _ _ (T239.setTop (mkF m 355 #[.val (.long p1), .second, .val (.int p2), .val (.int p3), .val (.int p4), .val (.long p5), .second, .val (.int kk83), .val (.int sg84), .val (.int ax85), .val (.int un), .val (.long uq86), .second, .val (.long r087), .second, .val (.ref b143), .unset, .unset, .unset, .unset, .unset, .unset, .unset, .unset, .unset, .unset, .unset] [(.long uq86), (.int (2 : Int32)), (.ref b143)]))
    refine own_go (fun t k => XT.lload X239.here hx rfl (hb hby at_355) rfl k) ?_
    show own_End p e below s _ _ _ (T239.setTop (mkF m 357 #[.val (.long p1), .second, .val (.int p2), .val (.int p3), .val (.int p4), .val (.long p5), .second, .val (.int kk83), .val (.int sg84), .val (.int ax85), .val (.int un), .val (.long uq86), .second, .val (.long r087), .second, .val (.ref b143), .unset, .unset, .unset, .unset, .unset, .unset, .unset, .unset, .unset, .unset, .unset] [(.long r087), (.long uq86), (.int (2 : Int32)), (.ref b143)]))
    refine own_go (fun t k => XS.bipush X239.here hx rfl (hb hby at_357) k) ?_
    show own_End p e below s _ _ _ (T239.setTop (mkF m 359 #[.val (.long p1), .second, .val (.int p2), .val (.int p3), .val (.int p4), .val (.long p5), .second, .val (.int kk83), .val (.int sg84), .val (.int ax85), .val (.int un), .val (.long uq86), .second, .val (.long r087), .second, .val (.ref b143), .unset, .unset, .unset, .unset, .unset, .unset, .unset, .unset, .unset, .unset, .unset] [(.int (19 : Int32)), (.long r087), (.long uq86), (.int (2 : Int32)), (.ref b143)]))
    obtain ⟨v241, T241, L241, X241, hQ241, st241⟩ := own_callS X239 hx hZ (y := (⟨"com/example/ordinate/ordinate/sql/NumbersParseIntegerPinLaw", "digit", "(JJI)C"⟩ : MethodName)) 2 hown (hw _ (List.mem_of_getElem? (i := 3) rfl)) (hw _ (List.mem_of_getElem? (i := 4) rfl)) (hw _ (List.mem_of_getElem? (i := 5) rfl)) (hw _ (List.mem_of_getElem? (i := 6) rfl)) (by decide) (rm1_1 l Z a0 hw [] uq86 r087 (19 : Int32) h239 n0 Z239 (Nn / 10) 18 hu (by decide) (by decide)) e239 (pc := 359) (Ls := #[.val (.long p1), .second, .val (.int p2), .val (.int p3), .val (.int p4), .val (.long p5), .second, .val (.int kk83), .val (.int sg84), .val (.int ax85), .val (.int un), .val (.long uq86), .second, .val (.long r087), .second, .val (.ref b143), .unset, .unset, .unset, .unset, .unset, .unset, .unset, .unset, .unset, .unset, .unset]) [(.long uq86), (.long r087), (.int (19 : Int32))] [(.int (2 : Int32)), (.ref b143)] (by rw [hml]; rfl) rfl rfl (lenOf pd_JJI_C rfl) (Nat.le_of_eq rfl) (hb hby at_359) (by decide) (by decide) (by decide) (by decide)
    obtain ⟨h242, e242⟩ : ∃ z, T241.heap = z := ⟨_, rfl⟩
    rw [e242] at hQ241
    obtain ⟨d19, rfl, hd19, Nd19, Kd19⟩ := hQ241
    have Ne19 := Fr.app N239 Nd19
    have Z242 : n0 ≤ h242.size := Nat.le_trans Z239 Kd19.1
    have f243 := F239.keep Kd19 nin0
    refine own_go st241 ?_
    show own_End p e below s _ _ _ (T241.setTop (mkF m 362 #[.val (.long p1), .second, .val (.int p2), .val (.int p3), .val (.int p4), .val (.long p5), .second, .val (.int kk83), .val (.int sg84), .val (.int ax85), .val (.int un), .val (.long uq86), .second, .val (.long r087), .second, .val (.ref b143), .unset, .unset, .unset, .unset, .unset, .unset, .unset, .unset, .unset, .unset, .unset] [(.int d19), (.int (2 : Int32)), (.ref b143)]))
    obtain ⟨T244, h244, X244, e244, W244, F244, st244⟩ := own_fstC X241 hx hZ e242 f243 (j := (2 : Int32)) (x := d19) 2 (by decide) (by decide) (pc := 362) (Ls := #[.val (.long p1), .second, .val (.int p2), .val (.int p3), .val (.int p4), .val (.long p5), .second, .val (.int kk83), .val (.int sg84), .val (.int ax85), .val (.int un), .val (.long uq86), .second, .val (.long r087), .second, .val (.ref b143), .unset, .unset, .unset, .unset, .unset, .unset, .unset, .unset, .unset, .unset, .unset]) (rest := []) (hb hby at_362)
    have N244 := Fr.snoc X244 Ne19 nb143
    have Z244 : n0 ≤ h244.size := by rw [W244.size]; exact Z242
    refine own_go st244 ?_
    show own_End p e below s _ _ _ (T244.setTop (mkF m 363 #[.val (.long p1), .second, .val (.int p2), .val (.int p3), .val (.int p4), .val (.long p5), .second, .val (.int kk83), .val (.int sg84), .val (.int ax85), .val (.int un), .val (.long uq86), .second, .val (.long r087), .second, .val (.ref b143), .unset, .unset, .unset, .unset, .unset, .unset, .unset, .unset, .unset, .unset, .unset] []))
    obtain ⟨gg, hgg⟩ : ∃ z : Nat → Int32, z = (fun i => if i = 0 then nar .char ((p3 &&& (255 : Int32)).toUInt32.toUInt16.toUInt32.toInt32) else if i = 22 then nar .char (((XT.ushr p3 (8 : Int32)) &&& (255 : Int32)).toUInt32.toUInt16.toUInt32.toInt32) else if i = 21 then nar .char d0 else if i = 20 then nar .char d1 else if i = 19 then nar .char d2 else if i = 18 then nar .char d3 else if i = 17 then nar .char d4 else if i = 16 then nar .char d5 else if i = 15 then nar .char d6 else if i = 14 then nar .char d7 else if i = 13 then nar .char d8 else if i = 12 then nar .char d9 else if i = 11 then nar .char d10 else if i = 10 then nar .char d11 else if i = 9 then nar .char d12 else if i = 8 then nar .char d13 else if i = 7 then nar .char d14 else if i = 6 then nar .char d15 else if i = 5 then nar .char d16 else if i = 4 then nar .char d17 else if i = 3 then nar .char d18 else if i = 2 then nar .char d19 else (0 : Int32)) := ⟨_, rfl⟩
    have Fg : own_F Z h244 b143 k143 .char 23 (fun i => .int (gg i)) := own_F.cong F244 (fun i hi => by rw [hgg]; match i, hi with | 0, _ => rfl | 1, _ => rfl | 2, _ => rfl | 3, _ => rfl | 4, _ => rfl | 5, _ => rfl | 6, _ => rfl | 7, _ => rfl | 8, _ => rfl | 9, _ => rfl | 10, _ => rfl | 11, _ => rfl | 12, _ => rfl | 13, _ => rfl | 14, _ => rfl | 15, _ => rfl | 16, _ => rfl | 17, _ => rfl | 18, _ => rfl | 19, _ => rfl | 20, _ => rfl | 21, _ => rfl | 22, _ => rfl | _ + 23, hq => exact absurd hq (by omega))
    have hg20 : ∀ j, j < 20 → (gg (21 - j)).toInt = 48 + ((Nn / 10 ^ j % 10 : Nat) : Int) := by
      intro j hj; rw [hgg]
      match j, hj with
      | 0, _ => exact (own_dd hd0).trans (by rw [Nat.pow_zero, Nat.div_one])
      | 1, _ => exact (own_dd hd1).trans (by rw [own_dj])
      | 2, _ => exact (own_dd hd2).trans (by rw [own_dj])
      | 3, _ => exact (own_dd hd3).trans (by rw [own_dj])
      | 4, _ => exact (own_dd hd4).trans (by rw [own_dj])
      | 5, _ => exact (own_dd hd5).trans (by rw [own_dj])
      | 6, _ => exact (own_dd hd6).trans (by rw [own_dj])
      | 7, _ => exact (own_dd hd7).trans (by rw [own_dj])
      | 8, _ => exact (own_dd hd8).trans (by rw [own_dj])
      | 9, _ => exact (own_dd hd9).trans (by rw [own_dj])
      | 10, _ => exact (own_dd hd10).trans (by rw [own_dj])
      | 11, _ => exact (own_dd hd11).trans (by rw [own_dj])
      | 12, _ => exact (own_dd hd12).trans (by rw [own_dj])
      | 13, _ => exact (own_dd hd13).trans (by rw [own_dj])
      | 14, _ => exact (own_dd hd14).trans (by rw [own_dj])
      | 15, _ => exact (own_dd hd15).trans (by rw [own_dj])
      | 16, _ => exact (own_dd hd16).trans (by rw [own_dj])
      | 17, _ => exact (own_dd hd17).trans (by rw [own_dj])
      | 18, _ => exact (own_dd hd18).trans (by rw [own_dj])
      | 19, _ => exact (own_dd hd19).trans (by rw [own_dj])
      | _ + 20, hq => exact absurd hq (by omega)
    exact J363 T244 _ h244 b143 k143 gg (X244.more (by decide) (by decide)) e244 N244 Z244 nb143 Fg hg20
  intro J42
  show own_End p e below s _ _ _ (s0.setTop (mkF m 34 #[.val (.long p1), .second, .val (.int p2), .val (.int p3), .val (.int p4), .val (.long p5), .second, .val (.int kk83), .val (.int sg84), .val (.int ax85), .unset, .unset, .unset, .unset, .unset, .unset, .unset, .unset, .unset, .unset, .unset, .unset, .unset, .unset, .unset, .unset, .unset] [(.int ((XT.ushr p2 (9 : Int32)) &&& (1 : Int32)))]))
  by_cases qu : ((XT.ushr p2 (9 : Int32)) &&& (1 : Int32)).toInt = 0
  ·
    refine own_go (fun t k => XS.ifYes X0.here hx rfl (pc0 := 34) (pc' := 41) rfl (hb hby at_34) rfl (own_0 (own_eqY (k := 0) rfl qu)) (by decide) (by decide) k) ?_
    show own_End p e below s _ _ _ (s0.setTop (mkF m 41 #[.val (.long p1), .second, .val (.int p2), .val (.int p3), .val (.int p4), .val (.long p5), .second, .val (.int kk83), .val (.int sg84), .val (.int ax85), .unset, .unset, .unset, .unset, .unset, .unset, .unset, .unset, .unset, .unset, .unset, .unset, .unset, .unset, .unset, .unset, .unset] []))
    refine own_go (fun t k => XS.iconst X0.here hx rfl (hb hby at_41) k) ?_
    show own_End p e below s _ _ _ (s0.setTop (mkF m 42 #[.val (.long p1), .second, .val (.int p2), .val (.int p3), .val (.int p4), .val (.long p5), .second, .val (.int kk83), .val (.int sg84), .val (.int ax85), .unset, .unset, .unset, .unset, .unset, .unset, .unset, .unset, .unset, .unset, .unset, .unset, .unset, .unset, .unset, .unset, .unset] [(.int (0 : Int32))]))
    exact J42 _
  refine own_go (fun t k => XS.ifNo X0.here hx rfl (hb hby at_34) rfl (own_0 (own_eqN (k := 0) rfl qu)) k) ?_
  show own_End p e below s _ _ _ (s0.setTop (mkF m 37 #[.val (.long p1), .second, .val (.int p2), .val (.int p3), .val (.int p4), .val (.long p5), .second, .val (.int kk83), .val (.int sg84), .val (.int ax85), .unset, .unset, .unset, .unset, .unset, .unset, .unset, .unset, .unset, .unset, .unset, .unset, .unset, .unset, .unset, .unset, .unset] []))
  refine own_go (fun t k => XS.iconst X0.here hx rfl (hb hby at_37) k) ?_
  show own_End p e below s _ _ _ (s0.setTop (mkF m 38 #[.val (.long p1), .second, .val (.int p2), .val (.int p3), .val (.int p4), .val (.long p5), .second, .val (.int kk83), .val (.int sg84), .val (.int ax85), .unset, .unset, .unset, .unset, .unset, .unset, .unset, .unset, .unset, .unset, .unset, .unset, .unset, .unset, .unset, .unset, .unset] [(.int (1 : Int32))]))
  refine own_go (fun t k => XS.goto X0.here hx rfl (pc0 := 38) (pc' := 42) rfl (hb hby at_38) (by decide) (by decide) k) ?_
  show own_End p e below s _ _ _ (s0.setTop (mkF m 42 #[.val (.long p1), .second, .val (.int p2), .val (.int p3), .val (.int p4), .val (.long p5), .second, .val (.int kk83), .val (.int sg84), .val (.int ax85), .unset, .unset, .unset, .unset, .unset, .unset, .unset, .unset, .unset, .unset, .unset, .unset, .unset, .unset, .unset, .unset, .unset] [(.int (1 : Int32))]))
  exact J42 _
set_option maxRecDepth 65536 in
set_option maxHeartbeats 40000000 in
theorem comes_1 {Post : Tables → Env → Array Value → State → Outcome → State → Prop} (hpost : ∀ tb e args s v u, (limb_1_1.after args s (.returned v) u = true ∧ limb_1_2.after args s (.returned v) u = true ∧ True) → FrameEnd s (.returned v) u (Jvm.fieldLocs frame_1_writes args s ++ Jvm.arrayLocs frame_1_arrays args s ++ Jvm.staticLocs frame_1_statics s) 56 896 → Post tb e args s (.returned v) u) :
    ArmFor flags0 classFile x code maxLocals ret World_1 tables_1 room_1 Calls_1 rest_1 Pre_1 Post := by
  intro l hfl _ _ p e ha hc hk s m args below hf hA hF happ hP
  obtain ⟨hcalls, hrest, hpre⟩ := hP
  obtain ⟨-, -, -, hnamed, -, -, -, hat⟩ := (Spec.applies_iff hf).mp happ
  obtain ⟨hg, hn⟩ := and_e (Cond.before_iff.mp (show (Jvm.Cond.and given_1 narrow_1).before args s = true from hpre))
  obtain ⟨g0, r0⟩ := and_e hg
  obtain ⟨g1, r1⟩ := and_e r0
  obtain ⟨g2, r2⟩ := and_e r1
  obtain ⟨g3, r3⟩ := and_e r2
  obtain ⟨g4, r4⟩ := and_e r3
  obtain ⟨w0, w1, w2, w3, w4, rfl⟩ : ∃ w0 w1 w2 w3 w4 : Value, args = #[w0, w1, w2, w3, w4] := by
    have hs : args.size = 5 := by simpa [Cond.value, given_1] using g0
    obtain ⟨L⟩ := args
    match L, hs with
    | [w0, w1, w2, w3, w4], _ => exact ⟨w0, w1, w2, w3, w4, rfl⟩
  have hw := fun d (hd : d ∈ tables_1) => atoms_spec (ws := Jvm.Cond.code x code maxLocals ret :: tables_1) hat d (List.mem_cons_of_mem _ hd)
  have hfit : Fit s := fun {y c} hc i hi => by
    obtain ⟨ha, rfl⟩ := Array.getElem?_eq_some_iff.mp hc
    have q := List.all_eq_true.mp ((Array.all_eq_true_iff_forall_mem.mp hF) _ (Array.getElem_mem ha)) i (List.mem_range.mpr hi)
    simpa [Array.getElem?_eq_getElem hi] using q
  obtain ⟨i0, ei0⟩ := isL_v g1
  obtain rfl : w0 = (.long i0) := Option.some.inj ei0
  obtain ⟨i1, ei1⟩ := is_v g2
  obtain rfl : w1 = (.int i1) := Option.some.inj ei1
  obtain ⟨i2, ei2⟩ := is_v g3
  obtain rfl : w2 = (.int i2) := Option.some.inj ei2
  obtain ⟨i3, ei3⟩ := is_v g4
  obtain rfl : w3 = (.int i3) := Option.some.inj ei3
  obtain ⟨i4, ei4⟩ := isL_v r4
  obtain rfl : w4 = (.long i4) := Option.some.inj ei4
  obtain ⟨n, o, h1, h2, h3, _, L, rfl, ⟨rfl, N⟩, hq⟩ := rm0 l s _ hw tables_1 i0 i1 i2 i3 i4 s.heap s.heap.size (Nat.le_refl _)  p e ha hc hk s m _ below hf ((Spec.applies_iff_loose hf).mp happ).1 ⟨rfl, State.Warmed39.refl s, rfl⟩ trivial
  refine ⟨n, _, h1, h2, h3, hpost _ _ _ _ _ _ ⟨Cond.after_iff.mpr rfl, Cond.after_iff.mpr (eq_i res_at (Term.int_eval (1)) rfl), trivial⟩ ⟨hq.1, hq.2.1, (hq.2.2.sift fun y hy => Or.inr (N y hy)).mono (by decide) (by decide)⟩⟩
theorem main_1_1 : Claimed_1_1 := comes_1 fun _ _ _ _ _ _ h hF => ⟨h.1, hF⟩
theorem main_1_2 : Claimed_1_2 := comes_1 fun _ _ _ _ _ _ h hF => ⟨h.2.1, hF⟩
end Jvm.Pilot.@@N@@
namespace Jvm.Pilot.@@N@@
open Jvm Jvm.ClassFile Sem Op Lib Jvm.Free Jvm.Stand Jvm.Pilot.@@N@@.Jvm.D
/-! MADE BY PROGRAM (witnessworld.py) out of the Statement's table words and the real class files: 13 classes; the members and pool entries that the words name. The judged class is class 1, her method 3. -/
namespace start1
open Jvm.ClassFile
def u (s : String) : CpInfo := .utf8 (stringToUtf16 s)
/-- a pool by its gaps: so many unusable entries, then the entry; so many at the end -/
def gap : Nat → List CpInfo → List CpInfo
  | 0, r => r
  | n + 1, r => .unusable :: gap n r
def poolList (es : List (Nat × CpInfo)) (last : Nat) : List CpInfo := es.foldr (fun e r => gap e.1 (e.2 :: r)) (gap last [])
def pool (es : List (Nat × CpInfo)) (last : Nat) : Array CpInfo := ⟨poolList es last⟩
def fileOf (pool : Array CpInfo) (this : Nat) (attrs : Array Attribute := #[]) (ms : Array MethodInfo := #[]) (fl : Nat := 33) (sup : Nat := 0) (ifs : Array Nat := #[]) (fds : Array FieldInfo := #[]) : ClassFile where
  minorVersion := 0
  majorVersion := 65
  constantPool := pool
  accessFlags := fl
  thisClass := this
  superClass := sup
  interfaces := ifs
  fields := fds
  methods := ms
  attributes := attrs
def plain (name : String) (sup : Option ClassId) : Class where
  name := name
  kind := .ordinary
  loader := none
  accessFlags := 33
  super := sup
  interfaces := #[]
  cf := none
  fields := #[]
  methods := #[]
  instanceTypes := #[]
  staticTypes := #[]
  resolved := #[]
  callSites := []
  init := .initialized
  statics := none
  mirror := none

def pool0 : Array CpInfo := pool [(5, u "<init>"), (0, u "()V"), (1, .class_ 10), (1, u "java/lang/Object")] 113

def k0m0 : Method := { name := "<init>", desc := "()V", sig := { parameters := [], returnType := none }, accessFlags := 1, code := none }
/-- java/lang/Object -/
def k0 : Class := { plain "java/lang/Object" none with
  accessFlags := 33
  interfaces := #[]
  cf := some (fileOf pool0 8 #[] #[{ accessFlags := 1, nameIndex := 5, descriptorIndex := 6, attributes := #[] }] 33 0 #[] #[])
  fields := #[]
  methods := #[k0m0]
  instanceTypes := #[]
  staticTypes := #[]
  resolved := Array.replicate 124 none
  statics := none }

def pool1 : Array CpInfo := pool [(2, .class_ 4), (1, u "java/lang/Object"), (0, u "<init>"), (0, u "()V"), (0, .long 10), (1, .long 100), (1, .long 1000), (1, .long 10000), (1, .long 100000), (1, .long 1000000), (1, .long 10000000), (1, .long 100000000), (1, .long 1000000000), (1, .long 10000000000), (1, .long 100000000000), (1, .long 1000000000000), (1, .long 10000000000000), (1, .long 100000000000000), (1, .long 1000000000000000), (1, .long 10000000000000000), (1, .long 100000000000000000), (1, .long 1000000000000000000), (1, .methodref 44 45), (0, .class_ 46), (0, .nameAndType 47 48), (0, u "com/example/ordinate/ordinate/sql/NumbersParseIntegerPinLaw"), (0, u "pow10"), (0, u "(I)J"), (0, .long 48), (1, .long 5), (1, .methodref 44 54), (0, .nameAndType 55 56), (0, u "digit"), (0, u "(JJI)C"), (0, .integer 65535), (2, .long 9223372036854775808), (1, .methodref 63 64), (0, .class_ 65), (0, .nameAndType 66 67), (0, u "com/example/ordinate/ordinate/sql/Numbers"), (0, u "parseInteger"), (0, u "([CII[JI)Z"), (0, .long 18446744073709551615), (1, .long 7), (4, u "law"), (0, u "(JIIIJ)Z")] 6

def k1m0 : Method := { name := "<init>", desc := "()V", sig := { parameters := [], returnType := none }, accessFlags := 2, code := none }
def k1c1 : Code := { maxStack := 5, maxLocals := 2, code := method_2_code, exceptionTable := #[], attributes := #[] }
def k1m1 : Method := { name := "pow10", desc := "(I)J", sig := { parameters := [.int], returnType := some .long }, accessFlags := 10, code := some k1c1 }
def k1c2 : Code := { maxStack := 4, maxLocals := 7, code := method_3_code, exceptionTable := #[], attributes := #[] }
def k1m2 : Method := { name := "digit", desc := "(JJI)C", sig := { parameters := [.long, .long, .int], returnType := some .char }, accessFlags := 10, code := some k1c2 }
def k1c3 : Code := { maxStack := 7, maxLocals := 27, code := code, exceptionTable := #[], attributes := #[] }
def k1m3 : Method := { name := "law", desc := "(JIIIJ)Z", sig := { parameters := [.long, .int, .int, .int, .long], returnType := some .boolean }, accessFlags := 9, code := some k1c3 }
/-- com/example/ordinate/ordinate/sql/NumbersParseIntegerPinLaw -/
def k1 : Class := { plain "com/example/ordinate/ordinate/sql/NumbersParseIntegerPinLaw" (some 0) with
  accessFlags := 49
  interfaces := #[]
  cf := some (fileOf pool1 44 #[] #[{ accessFlags := 2, nameIndex := 5, descriptorIndex := 6, attributes := #[] }, { accessFlags := 10, nameIndex := 47, descriptorIndex := 48, attributes := #[] }, { accessFlags := 10, nameIndex := 55, descriptorIndex := 56, attributes := #[] }, { accessFlags := 9, nameIndex := 75, descriptorIndex := 76, attributes := #[] }] 49 2 #[] #[])
  fields := #[]
  methods := #[k1m0, k1m1, k1m2, k1m3]
  instanceTypes := #[]
  staticTypes := #[]
  resolved := Array.replicate 83 none
  statics := none }

def pool2 : Array CpInfo := pool [(2, .class_ 4), (1, u "java/lang/Object"), (0, u "<init>"), (0, u "()V"), (7, .class_ 16), (1, u "com/example/ordinate/ordinate/sql/Numbers"), (0, u "parseInteger"), (0, u "([CII[JI)Z"), (2, .long 9223372036854775808), (1, .long 10), (22, u "POWERS_OF_TEN"), (0, u "[D"), (57, u "EXACT_BELOW"), (0, u "J"), (1, u "LONG_DIGITS"), (0, u "I"), (1, u "GREATEST_EXPONENT")] 14

def k2m0 : Method := { name := "<init>", desc := "()V", sig := { parameters := [], returnType := none }, accessFlags := 2, code := none }
def k2c1 : Code := { maxStack := 6, maxLocals := 10, code := prog_211_method_4_code, exceptionTable := #[], attributes := #[] }
def k2m1 : Method := { name := "parseInteger", desc := "([CII[JI)Z", sig := { parameters := [(.array .char), .int, .int, (.array .long), .int], returnType := some .boolean }, accessFlags := 8, code := some k2c1 }
/-- com/example/ordinate/ordinate/sql/Numbers -/
def k2 : Class := { plain "com/example/ordinate/ordinate/sql/Numbers" (some 0) with
  accessFlags := 48
  interfaces := #[]
  cf := some (fileOf pool2 14 #[] #[{ accessFlags := 2, nameIndex := 5, descriptorIndex := 6, attributes := #[] }, { accessFlags := 8, nameIndex := 17, descriptorIndex := 18, attributes := #[] }] 48 2 #[] #[{ accessFlags := 26, nameIndex := 105, descriptorIndex := 106, attributes := #[] }, { accessFlags := 26, nameIndex := 46, descriptorIndex := 47, attributes := #[] }, { accessFlags := 26, nameIndex := 108, descriptorIndex := 109, attributes := #[] }, { accessFlags := 26, nameIndex := 111, descriptorIndex := 109, attributes := #[] }])
  fields := #[{ name := "EXACT_BELOW", type := .long, accessFlags := 26, slot := 0, constantValue := 0 }, { name := "POWERS_OF_TEN", type := (.array .double), accessFlags := 26, slot := 1, constantValue := 0 }, { name := "LONG_DIGITS", type := .int, accessFlags := 26, slot := 2, constantValue := 0 }, { name := "GREATEST_EXPONENT", type := .int, accessFlags := 26, slot := 3, constantValue := 0 }]
  methods := #[k2m0, k2m1]
  instanceTypes := #[]
  staticTypes := #[.long, (.array .double), .int, .int]
  resolved := Array.replicate 126 none
  statics := none }

def pool3 : Array CpInfo := pool [(1, u "java/lang/Cloneable"), (0, .class_ 1), (0, u "java/lang/Object"), (0, .class_ 3)] 3

/-- java/lang/Cloneable -/
def k3 : Class := { plain "java/lang/Cloneable" (some 0) with
  accessFlags := 1537
  interfaces := #[]
  cf := some (fileOf pool3 2 #[] #[] 1537 4 #[] #[])
  fields := #[]
  methods := #[]
  instanceTypes := #[]
  staticTypes := #[]
  resolved := Array.replicate 8 none
  statics := none }

def pool4 : Array CpInfo := pool [(1, u "java/io/Serializable"), (0, .class_ 1), (0, u "java/lang/Object"), (0, .class_ 3)] 3

/-- java/io/Serializable -/
def k4 : Class := { plain "java/io/Serializable" (some 0) with
  accessFlags := 1537
  interfaces := #[]
  cf := some (fileOf pool4 2 #[] #[] 1537 4 #[] #[])
  fields := #[]
  methods := #[]
  instanceTypes := #[]
  staticTypes := #[]
  resolved := Array.replicate 8 none
  statics := none }

/-- the primitive byte -/
def k5 : Class := { plain "byte" none with kind := .primitive 'B', accessFlags := 0x411 }
/-- [B -/
def k6 : Class := { plain "[B" (some 0) with kind := .array 5 .byte, interfaces := #[3, 4], accessFlags := 1041 }

/-- the primitive char -/
def k7 : Class := { plain "char" none with kind := .primitive 'C', accessFlags := 0x411 }
/-- [C -/
def k8 : Class := { plain "[C" (some 0) with kind := .array 7 .char, interfaces := #[3, 4], accessFlags := 1041 }

/-- the primitive int -/
def k9 : Class := { plain "int" none with kind := .primitive 'I', accessFlags := 0x411 }
/-- [I -/
def k10 : Class := { plain "[I" (some 0) with kind := .array 9 .int, interfaces := #[3, 4], accessFlags := 1041 }

/-- the primitive long -/
def k11 : Class := { plain "long" none with kind := .primitive 'J', accessFlags := 0x411 }
/-- [J -/
def k12 : Class := { plain "[J" (some 0) with kind := .array 11 .long, interfaces := #[3, 4], accessFlags := 1041 }

def heap : Heap := #[]
def classes : Array Class := #[k0, k1, k2, k3, k4, k5, k6, k7, k8, k9, k10, k11, k12]
def interned : List (Array UInt16 × Addr) := []
def slotsUsed : Nat := 0
def theMethod : MethodId := ⟨1, 3⟩
def args0 : Array Value := #[.long 5, .int 3, .int 7, .int 4, .long 2]
def aboutOver (below : List Frame) : State where
  vm := { classes := classes, interned := interned.toArray }
  heap := heap
  slotsUsed := slotsUsed
  threads := #[{ frames := .invoking theMethod args0 :: below }]
def below0 : List Frame := [.native { method := ⟨0, 0⟩, args := #[] }]
def about1 : State := aboutOver below0
def p0 : Program := .bare "" "" ""
def e0 : Env := launch0.env 0 0 0
theorem w_frames : about1.frames = Frame.invoking theMethod args0 :: below0 := rfl
set_option maxRecDepth 65536 in
theorem w_args : argsFit about1.vm theMethod args0 = true := by decide +kernel
set_option maxRecDepth 65536 in
theorem w_heap : heapFits about1 = true := by decide +kernel
set_option maxRecDepth 65536 in
theorem w_runnable : about1.curStatus? = some .runnable := by decide +kernel
set_option maxRecDepth 65536 in
theorem w_alone : about1.alone = true := by decide +kernel
set_option maxRecDepth 65536 in
theorem w_named : about1.methodNamed? x = some theMethod := by decide +kernel
set_option maxRecDepth 65536 in
theorem w_hears : about1.hears theMethod below0 = true := by decide +kernel
set_option maxRecDepth 65536 in
theorem w_ripe : about1.ripe theMethod args0 below0 = true := by decide +kernel
theorem w_running : about1.status = .running := rfl
set_option maxRecDepth 65536 in
theorem w_room : about1.hasRoom e0.platform room_1 = true :=
  launch0.hasRoom_least _ room_1 (by decide +kernel) (by decide +kernel) (by decide +kernel) (by decide +kernel) (by decide +kernel) (by decide +kernel)
theorem allAtoms_all (ts : List Jvm.Cond) (a : Array Jvm.Value) (st : Jvm.State) : (allAtoms ts).before a st = ts.all (fun c => c.before a st) := by
  induction ts with
  | nil => rfl
  | cons c t ih =>
    show (Jvm.Cond.and c (allAtoms t)).before a st = _
    rw [Jvm.Cond.before_and, ih, List.all_cons]
def words1 : List Jvm.Cond := Jvm.Cond.code x code maxLocals ret :: tables_1
/-- a 'code' word, met by the world's own term for the bytes: nothing is compared byte by byte -/
theorem code_word {y : MethodName} {bytes : ByteArray} {mx : Nat} {rt : Option FieldType} {a : Array Value} {s : State} {m : MethodId} {meth : Method} {c : Code} (h1 : s.methodNamed? y = some m) (h2 : s.vm.method? m = some meth) (h3 : meth.code = some c) (h4 : c.code = bytes)
    (h5 : (c.maxLocals == mx && c.exceptionTable.isEmpty && decide (c.maxStack ≤ mostOperands) && decide (meth.sig.returnType = rt) && !meth.locks && decide (parseMethodDescriptor y.desc = some meth.sig)) = true) : (Jvm.Cond.code y bytes mx rt).before a s = true := by
  simp only [Bool.and_eq_true, beq_iff_eq, Bool.not_eq_true', decide_eq_true_eq] at h5
  obtain ⟨⟨⟨⟨⟨g1, g2⟩, g3⟩, g4⟩, g5⟩, g6⟩ := h5
  simp [Cond.before, Cond.holds, Cond.value, h1, h2, h3, h4, g1, g2, g3, g4, g5, g6]
def isCode : Jvm.Cond → Bool
  | .code _ _ _ _ => true
  | _ => false
theorem all_split {L : List Jvm.Cond} {P : Jvm.Cond → Bool} (h1 : L.all (fun c => isCode c || P c) = true) (h2 : ∀ c ∈ L.filter isCode, P c = true) : L.all P = true := by
  refine List.all_eq_true.mpr fun c hc => ?_
  have h := List.all_eq_true.mp h1 c hc
  rcases Bool.eq_false_or_eq_true (isCode c) with hi | hi
  · exact h2 c (List.mem_filter.mpr ⟨hc, hi⟩)
  · simpa [hi] using h
set_option maxRecDepth 65536 in
theorem w_c0 : (Jvm.Cond.code x code maxLocals ret).before args0 about1 = true := code_word (m := ⟨1, 3⟩) (meth := k1m3) (c := k1c3) (by decide +kernel) rfl rfl rfl (by decide +kernel)
set_option maxRecDepth 65536 in
theorem w_c1 : (Jvm.Cond.code ({ cls := "com/example/ordinate/ordinate/sql/NumbersParseIntegerPinLaw", name := "digit", desc := "(JJI)C" } : Jvm.MethodName) method_3_code (7 : Nat) (Option.some Jvm.ClassFile.FieldType.char)).before args0 about1 = true := code_word (m := ⟨1, 2⟩) (meth := k1m2) (c := k1c2) (by decide +kernel) rfl rfl rfl (by decide +kernel)
set_option maxRecDepth 65536 in
theorem w_c2 : (Jvm.Cond.code ({ cls := "com/example/ordinate/ordinate/sql/NumbersParseIntegerPinLaw", name := "pow10", desc := "(I)J" } : Jvm.MethodName) method_2_code (2 : Nat) (Option.some Jvm.ClassFile.FieldType.long)).before args0 about1 = true := code_word (m := ⟨1, 1⟩) (meth := k1m1) (c := k1c1) (by decide +kernel) rfl rfl rfl (by decide +kernel)
set_option maxRecDepth 65536 in
theorem w_c3 : (Jvm.Cond.code ({ cls := "com/example/ordinate/ordinate/sql/Numbers", name := "parseInteger", desc := "([CII[JI)Z" } : Jvm.MethodName) prog_211_method_4_code (10 : Nat) (Option.some Jvm.ClassFile.FieldType.boolean)).before args0 about1 = true := code_word (m := ⟨2, 1⟩) (meth := k2m1) (c := k2c1) (by decide +kernel) rfl rfl rfl (by decide +kernel)
def codes1 : List Jvm.Cond := [Jvm.Cond.code x code maxLocals ret, Jvm.Cond.code ({ cls := "com/example/ordinate/ordinate/sql/NumbersParseIntegerPinLaw", name := "digit", desc := "(JJI)C" } : Jvm.MethodName) method_3_code (7 : Nat) (Option.some Jvm.ClassFile.FieldType.char), Jvm.Cond.code ({ cls := "com/example/ordinate/ordinate/sql/NumbersParseIntegerPinLaw", name := "pow10", desc := "(I)J" } : Jvm.MethodName) method_2_code (2 : Nat) (Option.some Jvm.ClassFile.FieldType.long), Jvm.Cond.code ({ cls := "com/example/ordinate/ordinate/sql/Numbers", name := "parseInteger", desc := "([CII[JI)Z" } : Jvm.MethodName) prog_211_method_4_code (10 : Nat) (Option.some Jvm.ClassFile.FieldType.boolean)]
set_option maxRecDepth 65536 in
theorem codes_eq : words1.filter isCode = codes1 := rfl
theorem w_codes : ∀ c ∈ words1.filter isCode, c.before args0 about1 = true := by
  rw [codes_eq]
  intro c hc
  simp only [codes1, List.mem_cons, List.not_mem_nil, or_false] at hc
  rcases hc with rfl | rfl | rfl | rfl
  · exact w_c0
  · exact w_c1
  · exact w_c2
  · exact w_c3
set_option maxRecDepth 65536 in
theorem w_t1 : (words1.take 24).all (fun c => isCode c || c.before args0 about1) = true := by decide +kernel
set_option maxRecDepth 65536 in
theorem w_t2 : (words1.drop 24).all (fun c => isCode c || c.before args0 about1) = true := by decide +kernel
theorem w_tables : (allAtoms (Jvm.Cond.code x code maxLocals ret :: tables_1)).before args0 about1 = true := by
  rw [allAtoms_all]
  show words1.all (fun c => c.before args0 about1) = true
  refine all_split ?_ w_codes
  rw [← List.take_append_drop 24 words1, List.all_append, w_t1, w_t2]
  rfl
set_option maxRecDepth 65536 in
theorem w_case : (Jvm.Cond.and given_1 narrow_1).before args0 about1 = true := by decide +kernel
theorem w_applies : (headSpec (Jvm.Cond.code x code maxLocals ret :: tables_1) room_1).applies x e0.platform about1 = true :=
  (Spec.applies_iff w_frames).mpr ⟨w_running, w_runnable, w_alone, w_named, w_hears, w_ripe, w_room, w_tables⟩
theorem atStart : AtStart classFile x code maxLocals ret World_1 tables_1 room_1 Calls_1 rest_1 Pre_1 launch0 p0 e0 about1 theMethod args0 below0 :=
  ⟨lists_1, trivial, launch0.admits_env _ _ _, launch0.least_env, fairChoices_fair.cas, fairChoices_fair.clock, w_frames, w_args, w_heap, w_applies, trivial, trivial, w_case⟩
end start1
theorem witness_1 : WitnessClaimed_1 := ⟨start1.p0, start1.e0, start1.about1, start1.theMethod, start1.args0, start1.below0, start1.atStart⟩
end Jvm.Pilot.@@N@@
