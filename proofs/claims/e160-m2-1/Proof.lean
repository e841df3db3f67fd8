import JvmDerived
import JvmDerived.Pilot.@@N@@Statement
import JvmDerived.Pilot.@@N@@Code
set_option linter.unusedVariables false
set_option linter.unusedSimpArgs false
namespace Jvm.Pilot.@@N@@
open Jvm Jvm.ClassFile Sem Op Lib Jvm.Free Jvm.Stand Jvm.LawKit Jvm.RoadKit Bundle Jvm.Pilot.@@N@@.Jvm.D
/-! own kit, part 1: what a walk still owes, as a predicate on the state it stands at -/
section Own
variable {p : Program} {l : Launch} {e : Env} {R : Room} {s : State} {m : MethodId} {args : Array Value} {below : List Frame} {meth : Method} {c : Code} {T : State} {locs : List Loc} {cells slots : Nat} {Z : State} {a0 : Array Value} {h : Heap} {Q : Option Value → Heap → List Loc → Prop} {kc ks : Nat}
def own_End (p : Program) (e : Env) (below : List Frame) (s : State) (Q : Option Value → Heap → List Loc → Prop) (kc ks : Nat) (A : State) : Prop :=
  ∃ s₂ o, Steps p.tables e below A s₂ ∧ s₂.status = .running ∧ Ended s₂ below o ∧ ∃ v L, o = .returned v ∧ Q v s₂.heap L ∧ FrameEnd s o s₂ L kc ks
theorem own_go {A B : State} (h : ∀ t, Steps p.tables e below B t → Steps p.tables e below A t) (k : own_End p e below s Q kc ks B) : own_End p e below s Q kc ks A := by
  obtain ⟨s₂, o, h1, r⟩ := k
  exact ⟨s₂, o, h _ h1, r⟩
/-- a word on 'what is owed' is shown first and used behind -/
theorem own_join {A : State} (F : (State → Prop) → Prop) (h1 : F (own_End p e below s Q kc ks)) (h2 : F (own_End p e below s Q kc ks) → own_End p e below s Q kc ks A) : own_End p e below s Q kc ks A := h2 h1
abbrev own_Met (l : Launch) (y : MethodName) (bytes : ByteArray) (maxL : Nat) (rt : Option FieldType) (ws : List Jvm.Cond) (rm : Room) (as' : Array Value) (Z : State) (h0 : Heap) (Q : Option Value → Heap → List Loc → Prop) : Prop :=
  MetFree l y (head1 (Jvm.Cond.code y bytes maxL rt :: ws) rm) (fun a U => a = as' ∧ Z.Warmed39 U.vm ∧ U.heap = h0) (fun _ _ _ _ _ => True) (fun _ U o U' => ∃ v L, o = .returned v ∧ Q v U'.heap L ∧ FrameEnd U o U' L rm.cells rm.slots)
theorem own_body {y : MethodName} {bytes : ByteArray} {maxL : Nat} {rt : Option FieldType} {ws : List Jvm.Cond} {rm : Room} {as' : Array Value} {h0 : Heap} (pn : plainFor y = true)
    (body : ∀ (p : Program) (e : Env) (s : State) (m : MethodId) (below : List Frame) (meth : Method) (c : Code) (s₁ : State), Stand p l e rm s m as' below meth c s₁ [] 0 0 → p.tables.exec = Jvm.exec → c.code = bytes → c.maxLocals = maxL → meth.sig.returnType = rt → meth.locks = false → s.vm.findClass y.cls = some m.cls → meth.name = y.name → Z.Warmed39 s.vm → s₁.heap = h0 → own_End p e below s Q rm.cells rm.slots (s₁.setTop (entryFrame m as' maxL))) :
    own_Met l y bytes maxL rt ws rm as' Z h0 Q := by
  refine MetFree.of_bodySF pn hisR ?_
  intro p e s m args below meth c s₁ Bd hml0 hP hK
  obtain ⟨rfl, hZ, hh⟩ := hP
  exact body p e s m below meth c s₁ (Stand.of_body Bd) Bd.exec Bd.bytes hml0 Bd.returns Bd.notSynchronized (findClass_of_methodNamed Bd.named) (name_of_methodNamed Bd.named Bd.method).1 hZ (by rw [← hh, Bd.state]; rfl)
theorem own_retN (X : Stand p l e R s m args below meth c T locs cells slots) (hx : p.tables.exec = Jvm.exec) {t : FieldType} (hret : meth.sig.returnType = some t) (hlk : meth.locks = false) (ht : t = .boolean ∨ t = .byte ∨ t = .char ∨ t = .short) {pc : Nat} {Ls : Array Slot} {z : Int32} {rest : List Value} (hd : decode c.code pc = .ok (.ireturn, 1)) (hq : Q (some (.int (nar t z))) T.heap locs) (h1 : cells ≤ kc) (h2 : slots ≤ ks) :
    own_End p e below s Q kc ks (T.setTop (mkF m pc Ls (.int z :: rest))) := by
  obtain ⟨fs, hr, hrun, hended, hW, hsame⟩ := X.leave (v := some (.int (nar t z))) (fun h => by rw [hret] at h; cases h) hlk
  exact ⟨_, _, retN X hx hret ht hd hr, hrun, hended, _, _, rfl, hq, ⟨_, rfl⟩, hW, hsame.mono h1 h2⟩
theorem own_retI (X : Stand p l e R s m args below meth c T locs cells slots) (hx : p.tables.exec = Jvm.exec) (hret : meth.sig.returnType = some .int) (hlk : meth.locks = false) {pc : Nat} {Ls : Array Slot} {z : Int32} {rest : List Value} (hd : decode c.code pc = .ok (.ireturn, 1)) (hq : Q (some (.int z)) T.heap locs) (h1 : cells ≤ kc) (h2 : slots ≤ ks) :
    own_End p e below s Q kc ks (T.setTop (mkF m pc Ls (.int z :: rest))) := by
  obtain ⟨fs, hr, hrun, hended, hW, hsame⟩ := X.leave (v := some (.int z)) (fun h => by rw [hret] at h; cases h) hlk
  exact ⟨_, _, retOut X hx hret rfl (Or.inl ⟨rfl, Or.inl rfl, z, rfl⟩) hd hr, hrun, hended, _, _, rfl, hq, ⟨_, rfl⟩, hW, hsame.mono h1 h2⟩
theorem own_retJ (X : Stand p l e R s m args below meth c T locs cells slots) (hx : p.tables.exec = Jvm.exec) (hret : meth.sig.returnType = some .long) (hlk : meth.locks = false) {pc : Nat} {Ls : Array Slot} {z : Int64} {rest : List Value} (hd : decode c.code pc = .ok (.lreturn, 1)) (hq : Q (some (.long z)) T.heap locs) (h1 : cells ≤ kc) (h2 : slots ≤ ks) :
    own_End p e below s Q kc ks (T.setTop (mkF m pc Ls (.long z :: rest))) := by
  obtain ⟨fs, hr, hrun, hended, hW, hsame⟩ := X.leave (v := some (.long z)) (fun h => by rw [hret] at h; cases h) hlk
  exact ⟨_, _, retOut X hx hret rfl (Or.inr (Or.inl ⟨rfl, rfl, z, rfl⟩)) hd hr, hrun, hended, _, _, rfl, hq, ⟨_, rfl⟩, hW, hsame.mono h1 h2⟩
theorem own_retA (X : Stand p l e R s m args below meth c T locs cells slots) (hx : p.tables.exec = Jvm.exec) {t : FieldType} (ht : t.isReference = true) (hret : meth.sig.returnType = some t) (hlk : meth.locks = false) {pc : Nat} {Ls : Array Slot} {b : Addr} (hd : decode c.code pc = .ok (.areturn, 1)) (hq : Q (some (.ref b)) T.heap locs) (h1 : cells ≤ kc) (h2 : slots ≤ ks) :
    own_End p e below s Q kc ks (T.setTop (mkF m pc Ls [.ref b])) := by
  obtain ⟨fs, hr, hrun, hended, hW, hsame⟩ := X.leave (v := some (.ref b)) (fun h => by rw [hret] at h; cases h) hlk
  exact ⟨_, _, X.areturnOut hx rfl hret ht hd hr, hrun, hended, _, _, rfl, hq, ⟨_, rfl⟩, hW, hsame.mono h1 h2⟩
theorem own_ret (X : Stand p l e R s m args below meth c T locs cells slots) (hx : p.tables.exec = Jvm.exec) (hret : meth.sig.returnType = none) (hlk : meth.locks = false) {pc : Nat} {Ls : Array Slot} (hd : decode c.code pc = .ok (.return_, 1)) (hq : Q none T.heap locs) (h1 : cells ≤ kc) (h2 : slots ≤ ks) :
    own_End p e below s Q kc ks (T.setTop (mkF m pc Ls [])) := by
  obtain ⟨fs, hr, hrun, hended, hW, hsame⟩ := X.leave (v := none) (fun _ => rfl) hlk
  exact ⟨_, _, X.returnOut hx hret hd hr, hrun, hended, _, _, rfl, hq, ⟨_, rfl⟩, hW, hsame.mono h1 h2⟩
/-! own kit, part 2: calls by a callee's contract -/
theorem own_callS (X : Stand p l e R s m args below meth c T locs cells slots) (hx : p.tables.exec = Jvm.exec) (hZ : Z.Warmed39 s.vm) {own : String} {index : Nat} {y : MethodName} {bytes : ByteArray} {maxL : Nat} {rt : Option FieldType} {rm : Room} {as' : Array Value} {Qc : Option Value → Heap → List Loc → Prop} (W : Nat)
    (hown : s.vm.findClass own = some m.cls) (w1 : (Cond.methodLink own index y).before a0 Z = true) (w2 : (Cond.static y).before a0 Z = true) (w3 : (Cond.initialized y.cls).before a0 Z = true) (w4 : (Cond.code y bytes maxL rt).before a0 Z = true)
    (hy : y.cls ≠ "java/lang/invoke/MethodHandle" ∧ y.cls ≠ "java/lang/invoke/VarHandle") (hM : own_Met l y bytes maxL rt [] rm as' Z h Qc) (eT : T.heap = h)
    {pc : Nat} {Ls : Array Slot} {st : List Value} (argsL rest : List Value) (hsize : Ls.size = c.maxLocals) (hst : st = argsL.reverse ++ rest) (has : argsL.toArray = as') (hlen : ∀ sig, parseMethodDescriptor y.desc = some sig → argsL.length = sig.parameters.length)
    (hW : (rest.map fun v => v.category).sum ≤ W) (hd : decode c.code pc = .ok (.invokestatic index, 3)) (hf : rm.frames + 1 ≤ R.frames) (hl : W + (maxL + 11) + rm.locals ≤ R.locals) (hc : cells + rm.cells ≤ R.cells) (hs : slots + rm.slots ≤ R.slots) :
    ∃ v T' L, Stand p l e R s m args below meth c T' (locs ++ L) (cells + rm.cells) (slots + rm.slots) ∧ Qc v T'.heap L ∧ ∀ t, Steps p.tables e below (T'.setTop (mkF m (pc + 3) Ls (v.toList ++ rest))) t → Steps p.tables e below (T.setTop (mkF m pc Ls st)) t := by
  obtain ⟨v, vm1, ⟨T', L', k', n'⟩, -, X', ⟨L, hQ, l1, y1, z1⟩, st'⟩ := Jvm.LawKit.callS X hx (y := y) hown (mvT hZ w1) (mvT hZ w2) (mvT hZ w3) (mvT hZ w4) hy (backOf (W := W) hM hZ w4 w3 hf hl) (g := mkF m pc Ls st) rfl hsize (argsL := argsL) (rest := rest) hlen hst (by show 2 * 0 + _ ≤ _; omega) hd (fun _ _ => ⟨has, eT, hc, hs⟩)
  dsimp only [Pt.U, Pt.locs, Pt.cells, Pt.slots] at X' l1 y1 z1 st' hQ
  subst l1 y1 z1
  exact ⟨v, T', L, X', hQ, st'⟩
theorem own_callV (X : Stand p l e R s m args below meth c T locs cells slots) (hx : p.tables.exec = Jvm.exec) (hZ : Z.Warmed39 s.vm) {own C : String} {index : Nat} {y : MethodName} {bytes : ByteArray} {maxL : Nat} {rt : Option FieldType} {rm : Room} {as' : Array Value} {Qc : Option Value → Heap → List Loc → Prop} (W : Nat)
    (hown : s.vm.findClass own = some m.cls) (w1 : (Cond.methodLink own index y).before a0 Z = true) (w2 : (Cond.declares y).before a0 Z = true) (w3 : (Cond.selects C y y).before a0 Z = true) (w4 : (Cond.instanceMethod y).before a0 Z = true) (w5 : (Cond.initialized y.cls).before a0 Z = true) (w6 : (Cond.code y bytes maxL rt).before a0 Z = true)
    (hy : y.cls ≠ "java/lang/invoke/MethodHandle" ∧ y.cls ≠ "java/lang/invoke/VarHandle") (hM : own_Met l y bytes maxL rt [] rm as' Z h Qc) (eT : T.heap = h) {b : Addr} (E : Exa Z h b C)
    {pc : Nat} {Ls : Array Slot} {st : List Value} (argsL rest : List Value) (hsize : Ls.size = c.maxLocals) (hst : st = argsL.reverse ++ .ref b :: rest) (has : (.ref b :: argsL).toArray = as') (hlen : ∀ sig, parseMethodDescriptor y.desc = some sig → argsL.length = sig.parameters.length)
    (hW : (rest.map fun v => v.category).sum ≤ W) (hd : decode c.code pc = .ok (.invokevirtual index, 3)) (hf : rm.frames + 1 ≤ R.frames) (hl : W + (maxL + 11) + rm.locals ≤ R.locals) (hc : cells + rm.cells ≤ R.cells) (hs : slots + rm.slots ≤ R.slots) :
    ∃ v T' L, Stand p l e R s m args below meth c T' (locs ++ L) (cells + rm.cells) (slots + rm.slots) ∧ Qc v T'.heap L ∧ ∀ t, Steps p.tables e below (T'.setTop (mkF m (pc + 3) Ls (v.toList ++ rest))) t → Steps p.tables e below (T.setTop (mkF m pc Ls st)) t := by
  obtain ⟨cq, kq, q1, q2, q3⟩ := isOf hZ eT E
  obtain ⟨v, vm1, ⟨T', L', k', n'⟩, -, X', ⟨L, hQ, l1, y1, z1⟩, st'⟩ := X.virtualBack hx (y := y) (z := y) hown (mvT hZ w1) (mvT hZ w2) (notFace_of_selects (args := #[]) (mvT hZ w3)) (mvT hZ w3) (mvT hZ w4) hy (backOf (W := W) hM hZ w6 w5 hf hl) q1 q3 (g := mkF m pc Ls st) rfl hsize (Steps.refl _) (argsL := argsL) (rest := rest) hlen hst (by show 2 * 0 + _ ≤ _; omega) hd (fun _ _ => ⟨has, eT, hc, hs⟩)
  dsimp only [Pt.U, Pt.locs, Pt.cells, Pt.slots] at X' l1 y1 z1 st' hQ
  subst l1 y1 z1
  exact ⟨v, T', L, X', hQ, fun t k => st'.trans k⟩
theorem own_callI (X : Stand p l e R s m args below meth c T locs cells slots) (hx : p.tables.exec = Jvm.exec) (hZ : Z.Warmed39 s.vm) {own : String} {index : Nat} {y : MethodName} {bytes : ByteArray} {maxL : Nat} {rm : Room} {as' : Array Value} {Qc : Option Value → Heap → List Loc → Prop} (W : Nat) (hi : y.name = "<init>")
    (hown : s.vm.findClass own = some m.cls) (w1 : (Cond.methodLink own index y).before a0 Z = true) (w4 : (Cond.instanceMethod y).before a0 Z = true) (w5 : (Cond.initialized y.cls).before a0 Z = true) (w6 : (Cond.code y bytes maxL none).before a0 Z = true)
    (hy : y.cls ≠ "java/lang/invoke/MethodHandle" ∧ y.cls ≠ "java/lang/invoke/VarHandle") (hM : own_Met l y bytes maxL none [] rm as' Z h Qc) (eT : T.heap = h) {b : Addr}
    {pc : Nat} {Ls : Array Slot} {st : List Value} (argsL rest : List Value) (hsize : Ls.size = c.maxLocals) (hst : st = argsL.reverse ++ .ref b :: rest) (has : (.ref b :: argsL).toArray = as') (hlen : ∀ sig, parseMethodDescriptor y.desc = some sig → argsL.length = sig.parameters.length)
    (hW : (rest.map fun v => v.category).sum ≤ W) (hd : decode c.code pc = .ok (.invokespecial index, 3)) (hf : rm.frames + 1 ≤ R.frames) (hl : W + (maxL + 11) + rm.locals ≤ R.locals) (hc : cells + rm.cells ≤ R.cells) (hs : slots + rm.slots ≤ R.slots) :
    ∃ v T' L, Stand p l e R s m args below meth c T' (locs ++ L) (cells + rm.cells) (slots + rm.slots) ∧ Qc v T'.heap L ∧ ∀ t, Steps p.tables e below (T'.setTop (mkF m (pc + 3) Ls (v.toList ++ rest))) t → Steps p.tables e below (T.setTop (mkF m pc Ls st)) t := by
  obtain ⟨v, vm1, ⟨T', L', k', n'⟩, -, X', ⟨L, hQ, l1, y1, z1⟩, st'⟩ := X.specialBack hx (y := y) hi hown (mvT hZ w1) (mvT hZ w4) (mvT hZ w6) hy (backOf (W := W) hM hZ w6 w5 hf hl) (g := mkF m pc Ls st) rfl hsize (Steps.refl _) (a := b) (argsL := argsL) (rest := rest) hlen hst (by show 2 * 0 + _ ≤ _; omega) hd (fun _ _ => ⟨has, eT, hc, hs⟩)
  dsimp only [Pt.U, Pt.locs, Pt.cells, Pt.slots] at X' l1 y1 z1 st' hQ
  subst l1 y1 z1
  exact ⟨v, T', L, X', hQ, fun t k => st'.trans k⟩
/-! own kit, part 3: comparisons, said of the numbers -/
theorem own_ltY {x y : Int32} {k : Int} (hy : y.toInt = k) (q : x.toInt < k) : if_icmp.holds .lt x y = true := (tlt (Int32.lt_iff_toInt_lt.mpr (by omega))).1
theorem own_ltN {x y : Int32} {k : Int} (hy : y.toInt = k) (q : ¬ x.toInt < k) : if_icmp.holds .lt x y = false := (flt (fun z => q (by have := Int32.lt_iff_toInt_lt.mp z; omega))).1
theorem own_geY {x y : Int32} {k : Int} (hy : y.toInt = k) (q : k ≤ x.toInt) : if_icmp.holds .ge x y = true := (flt (fun z => by have := Int32.lt_iff_toInt_lt.mp z; omega)).2.1
theorem own_geN {x y : Int32} {k : Int} (hy : y.toInt = k) (q : ¬ k ≤ x.toInt) : if_icmp.holds .ge x y = false := (tlt (Int32.lt_iff_toInt_lt.mpr (by omega))).2.1
theorem own_gtY {x y : Int32} {k : Int} (hy : y.toInt = k) (q : k < x.toInt) : if_icmp.holds .gt x y = true := (tlt (x := y) (y := x) (Int32.lt_iff_toInt_lt.mpr (by omega))).2.2.1
theorem own_gtN {x y : Int32} {k : Int} (hy : y.toInt = k) (q : ¬ k < x.toInt) : if_icmp.holds .gt x y = false := (flt (x := y) (y := x) (fun z => q (by have := Int32.lt_iff_toInt_lt.mp z; omega))).2.2.1
theorem own_leY {x y : Int32} {k : Int} (hy : y.toInt = k) (q : x.toInt ≤ k) : if_icmp.holds .le x y = true := (flt (x := y) (y := x) (fun z => by have := Int32.lt_iff_toInt_lt.mp z; omega)).2.2.2
theorem own_leN {x y : Int32} {k : Int} (hy : y.toInt = k) (q : ¬ x.toInt ≤ k) : if_icmp.holds .le x y = false := (tlt (x := y) (y := x) (Int32.lt_iff_toInt_lt.mpr (by omega))).2.2.2
theorem own_eqY {x y : Int32} {k : Int} (hy : y.toInt = k) (q : x.toInt = k) : if_icmp.holds .eq x y = true := (teq (Int32.toInt_inj.mp (by omega))).1
theorem own_eqN {x y : Int32} {k : Int} (hy : y.toInt = k) (q : ¬ x.toInt = k) : if_icmp.holds .eq x y = false := (feq (fun z => q (by rw [z]; exact hy))).1
theorem own_neY {x y : Int32} {k : Int} (hy : y.toInt = k) (q : ¬ x.toInt = k) : if_icmp.holds .ne x y = true := (feq (fun z => q (by rw [z]; exact hy))).2
theorem own_neN {x y : Int32} {k : Int} (hy : y.toInt = k) (q : ¬ ¬ x.toInt = k) : if_icmp.holds .ne x y = false := (teq (Int32.toInt_inj.mp (by omega))).2
theorem own_0 {cd : ClassFile.Cond} {x : Int32} {b : Bool} (q : if_icmp.holds cd x 0 = b) : ifCond.holds cd x = b := (if0 cd x).trans q
theorem own_cmp (x y : Int64) : (x.toInt < y.toInt ∧ XT.cmpL x y = -1) ∨ (x.toInt = y.toInt ∧ XT.cmpL x y = 0) ∨ (y.toInt < x.toInt ∧ XT.cmpL x y = 1) := by
  unfold XT.cmpL
  by_cases h1 : y < x
  · exact Or.inr (Or.inr ⟨Int64.lt_iff_toInt_lt.mp h1, if_pos h1⟩)
  · by_cases h2 : x = y
    · exact Or.inr (Or.inl ⟨by rw [h2], by rw [if_neg h1, if_pos h2]⟩)
    · refine Or.inl ⟨?_, by rw [if_neg h1, if_neg h2]⟩
      have q1 : ¬ y.toInt < x.toInt := fun z => h1 (Int64.lt_iff_toInt_lt.mpr z)
      have q2 : ¬ x.toInt = y.toInt := fun z => h2 (Int64.toInt_inj.mp z)
      omega
theorem own_lltY {x y : Int64} {k : Int} (hy : y.toInt = k) (q : x.toInt < k) : ifCond.holds .lt (XT.cmpL x y) = true := by rcases own_cmp x y with ⟨h, e⟩ | ⟨h, e⟩ | ⟨h, e⟩ <;> first | (exfalso; omega) | (rw [e]; decide)
theorem own_lltN {x y : Int64} {k : Int} (hy : y.toInt = k) (q : ¬ x.toInt < k) : ifCond.holds .lt (XT.cmpL x y) = false := by rcases own_cmp x y with ⟨h, e⟩ | ⟨h, e⟩ | ⟨h, e⟩ <;> first | (exfalso; omega) | (rw [e]; decide)
theorem own_lgeY {x y : Int64} {k : Int} (hy : y.toInt = k) (q : k ≤ x.toInt) : ifCond.holds .ge (XT.cmpL x y) = true := by rcases own_cmp x y with ⟨h, e⟩ | ⟨h, e⟩ | ⟨h, e⟩ <;> first | (exfalso; omega) | (rw [e]; decide)
theorem own_lgeN {x y : Int64} {k : Int} (hy : y.toInt = k) (q : ¬ k ≤ x.toInt) : ifCond.holds .ge (XT.cmpL x y) = false := by rcases own_cmp x y with ⟨h, e⟩ | ⟨h, e⟩ | ⟨h, e⟩ <;> first | (exfalso; omega) | (rw [e]; decide)
theorem own_lgtY {x y : Int64} {k : Int} (hy : y.toInt = k) (q : k < x.toInt) : ifCond.holds .gt (XT.cmpL x y) = true := by rcases own_cmp x y with ⟨h, e⟩ | ⟨h, e⟩ | ⟨h, e⟩ <;> first | (exfalso; omega) | (rw [e]; decide)
theorem own_lgtN {x y : Int64} {k : Int} (hy : y.toInt = k) (q : ¬ k < x.toInt) : ifCond.holds .gt (XT.cmpL x y) = false := by rcases own_cmp x y with ⟨h, e⟩ | ⟨h, e⟩ | ⟨h, e⟩ <;> first | (exfalso; omega) | (rw [e]; decide)
theorem own_lleY {x y : Int64} {k : Int} (hy : y.toInt = k) (q : x.toInt ≤ k) : ifCond.holds .le (XT.cmpL x y) = true := by rcases own_cmp x y with ⟨h, e⟩ | ⟨h, e⟩ | ⟨h, e⟩ <;> first | (exfalso; omega) | (rw [e]; decide)
theorem own_lleN {x y : Int64} {k : Int} (hy : y.toInt = k) (q : ¬ x.toInt ≤ k) : ifCond.holds .le (XT.cmpL x y) = false := by rcases own_cmp x y with ⟨h, e⟩ | ⟨h, e⟩ | ⟨h, e⟩ <;> first | (exfalso; omega) | (rw [e]; decide)
theorem own_leqY {x y : Int64} {k : Int} (hy : y.toInt = k) (q : x.toInt = k) : ifCond.holds .eq (XT.cmpL x y) = true := by rcases own_cmp x y with ⟨h, e⟩ | ⟨h, e⟩ | ⟨h, e⟩ <;> first | (exfalso; omega) | (rw [e]; decide)
theorem own_leqN {x y : Int64} {k : Int} (hy : y.toInt = k) (q : ¬ x.toInt = k) : ifCond.holds .eq (XT.cmpL x y) = false := by rcases own_cmp x y with ⟨h, e⟩ | ⟨h, e⟩ | ⟨h, e⟩ <;> first | (exfalso; omega) | (rw [e]; decide)
theorem own_lneY {x y : Int64} {k : Int} (hy : y.toInt = k) (q : ¬ x.toInt = k) : ifCond.holds .ne (XT.cmpL x y) = true := by rcases own_cmp x y with ⟨h, e⟩ | ⟨h, e⟩ | ⟨h, e⟩ <;> first | (exfalso; omega) | (rw [e]; decide)
theorem own_lneN {x y : Int64} {k : Int} (hy : y.toInt = k) (q : ¬ ¬ x.toInt = k) : ifCond.holds .ne (XT.cmpL x y) = false := by rcases own_cmp x y with ⟨h, e⟩ | ⟨h, e⟩ | ⟨h, e⟩ <;> first | (exfalso; omega) | (rw [e]; decide)
theorem own_yes {P : Prop} [Decidable P] (q : P) : (some (Value.int (nar .boolean 1)) : Option Value) = some (.int (if P then 1 else 0)) := by rw [if_pos q]; rfl
theorem own_no {P : Prop} [Decidable P] (q : ¬ P) : (some (Value.int (nar .boolean 0)) : Option Value) = some (.int (if P then 1 else 0)) := by rw [if_neg q]; rfl
theorem own_nyes {P : Prop} [Decidable P] (q : P) : (some (Value.int (nar .boolean 0)) : Option Value) = some (.int (if P then 0 else 1)) := by rw [if_pos q]; rfl
theorem own_nno {P : Prop} [Decidable P] (q : ¬ P) : (some (Value.int (nar .boolean 1)) : Option Value) = some (.int (if P then 0 else 1)) := by rw [if_neg q]; rfl
theorem own_bneY {P : Prop} [Decidable P] (q : P) : ifCond.holds .ne (if P then (1 : Int32) else 0) = true := by rw [if_pos q]; rfl
theorem own_bneN {P : Prop} [Decidable P] (q : ¬ P) : ifCond.holds .ne (if P then (1 : Int32) else 0) = false := by rw [if_neg q]; rfl
theorem own_beqY {P : Prop} [Decidable P] (q : ¬ P) : ifCond.holds .eq (if P then (1 : Int32) else 0) = true := by rw [if_neg q]; rfl
theorem own_beqN {P : Prop} [Decidable P] (q : ¬ ¬ P) : ifCond.holds .eq (if P then (1 : Int32) else 0) = false := by rw [if_pos (Decidable.not_not.mp q)]; rfl
/-! own kit, part 4: an array of which only the kind, the length and 'its places hold values of the kind' is kept -/
def own_A (Z : State) (h : Heap) (a : Addr) (ty : FieldType) (n : Nat) : Prop := ∃ c : Cell, Arr Z h a c ty ∧ c.slots.size = n ∧ ∀ i, i < n → ∃ v, c.slots[i]? = some v ∧ fits ty v = true
theorem own_A.lt {a : Addr} {ty : FieldType} {n : Nat} (A : own_A Z h a ty n) : a < h.size := by obtain ⟨c, A, -⟩ := A; exact A.lt
theorem own_A.of {h' : Heap} {a : Addr} {ty : FieldType} {n : Int32} {k : ClassId} {j : Nat} (A : Arr Z h a (newA k ty n) ty) (q : ¬ n < 0) (hn : n.toNatClampNeg = j) : own_A Z h a ty j := by
  obtain ⟨c, A, -, S, -, H, G⟩ := Arv.new A q
  exact ⟨c, A, S.trans hn, fun i hi => ⟨_, H i (by omega), G i (by omega)⟩⟩
theorem own_A.ext {h' : Heap} {a : Addr} {ty : FieldType} {n : Nat} (A : own_A Z h a ty n) (E : Ext h h') : own_A Z h' a ty n := by obtain ⟨c, A, r⟩ := A; exact ⟨c, A.ext E, r⟩
theorem own_A.other {h' : Heap} {a b : Addr} {ty : FieldType} {n sl : Nat} {v : Value} (A : own_A Z h a ty n) (W : Wr h h' b sl v) (q : a ≠ b) : own_A Z h' a ty n := by obtain ⟨c, A, r⟩ := A; exact ⟨c, A.other W q, r⟩
theorem own_A.set {h' : Heap} {a : Addr} {ty : FieldType} {n j : Nat} {v : Value} (A : own_A Z h a ty n) (W : Wr h h' a j v) (hv : fits ty v = true) : own_A Z h' a ty n := by
  obtain ⟨c, A, S, H⟩ := A
  refine ⟨_, A.same W, by rw [sz_set]; exact S, fun i hi => ?_⟩
  by_cases hij : i = j
  · subst hij
    exact ⟨v, by simp [Cell.setSlot, S, hi], hv⟩
  · obtain ⟨w, h1, h2⟩ := H i hi
    refine ⟨w, ?_, h2⟩
    simp only [Cell.setSlot]
    rw [Array.getElem?_setIfInBounds_ne (fun z => hij z.symm)]
    exact h1
theorem own_inb {c : Cell} {n : Nat} {j : Int32} (S : c.slots.size = n) (h1 : 0 ≤ j.toInt) (h2 : j.toInt < n) : ¬ (j < 0 ∨ c.slots.size ≤ j.toNatClampNeg) := by
  have h3 : ¬ j < 0 := fun z => by have := Int32.lt_iff_toInt_lt.mp z; have e : (0 : Int32).toInt = 0 := rfl; omega
  have := nat_of h3
  rintro (z | z)
  · exact h3 z
  · omega
theorem own_stI (X : Stand p l e R s m args below meth c T locs cells slots) (hx : p.tables.exec = Jvm.exec) (hZ : Z.Warmed39 s.vm) (eT : T.heap = h) {a : Addr} {n : Nat} (A : own_A Z h a .int n) {j x : Int32} (h1 : 0 ≤ j.toInt) (h2 : j.toInt < n) {pc : Nat} {Ls : Array Slot} {rest : List Value} (hd : decode c.code pc = .ok (.iastore, 1)) :
    ∃ T' h', Stand p l e R s m args below meth c T' (locs ++ [⟨a, j.toNatClampNeg⟩]) cells slots ∧ T'.heap = h' ∧ Wr h h' a j.toNatClampNeg (.int x) ∧ own_A Z h' a .int n ∧ ∀ t, Steps p.tables e below (T'.setTop (mkF m (pc + 1) Ls rest)) t → Steps p.tables e below (T.setTop (mkF m pc Ls (.int x :: .int j :: .ref a :: rest))) t := by
  have A0 := A
  obtain ⟨cl, A1, S, H⟩ := A
  obtain ⟨T', h', X', e', W, st⟩ := stI X hx hZ eT A1 (j := j) (x := x) (own_inb S h1 h2) (g := mkF m pc Ls (.int x :: .int j :: .ref a :: rest)) rfl rfl hd
  exact ⟨T', h', X', e', W, A0.set W rfl, st⟩
theorem own_stJ (X : Stand p l e R s m args below meth c T locs cells slots) (hx : p.tables.exec = Jvm.exec) (hZ : Z.Warmed39 s.vm) (eT : T.heap = h) {a : Addr} {n : Nat} (A : own_A Z h a .long n) {j : Int32} {x : Int64} (h1 : 0 ≤ j.toInt) (h2 : j.toInt < n) {pc : Nat} {Ls : Array Slot} {rest : List Value} (hd : decode c.code pc = .ok (.lastore, 1)) :
    ∃ T' h', Stand p l e R s m args below meth c T' (locs ++ [⟨a, j.toNatClampNeg⟩]) cells slots ∧ T'.heap = h' ∧ Wr h h' a j.toNatClampNeg (.long x) ∧ own_A Z h' a .long n ∧ ∀ t, Steps p.tables e below (T'.setTop (mkF m (pc + 1) Ls rest)) t → Steps p.tables e below (T.setTop (mkF m pc Ls (.long x :: .int j :: .ref a :: rest))) t := by
  have A0 := A
  obtain ⟨cl, A1, S, H⟩ := A
  obtain ⟨T', h', X', e', W, st⟩ := stJ X hx hZ eT A1 (j := j) (x := x) (own_inb S h1 h2) (g := mkF m pc Ls (.long x :: .int j :: .ref a :: rest)) rfl rfl hd
  exact ⟨T', h', X', e', W, A0.set W rfl, st⟩
theorem own_ldI (X : Stand p l e R s m args below meth c T locs cells slots) (hx : p.tables.exec = Jvm.exec) (hZ : Z.Warmed39 s.vm) (eT : T.heap = h) {a : Addr} {n : Nat} (A : own_A Z h a .int n) {j : Int32} (h1 : 0 ≤ j.toInt) (h2 : j.toInt < n) {pc : Nat} {Ls : Array Slot} {rest : List Value} (hd : decode c.code pc = .ok (.iaload, 1)) :
    ∃ x : Int32, ∀ t, Steps p.tables e below (T.setTop (mkF m (pc + 1) Ls (.int x :: rest))) t → Steps p.tables e below (T.setTop (mkF m pc Ls (.int j :: .ref a :: rest))) t := by
  obtain ⟨cl, A1, S, H⟩ := A
  have hin := own_inb S h1 h2
  obtain ⟨v, g1, g2⟩ := H j.toNatClampNeg (by rw [← S]; exact Nat.lt_of_not_le fun q => hin (Or.inr q))
  obtain ⟨x, rfl⟩ := fit_I g2 (Or.inl rfl)
  exact ⟨x, fun t k => X.iaload hx (by rw [eT]; exact A1.1) (State.isArrayOf_alike hZ.alike A1.2.1) A1.2.2 hin g1 (g := mkF m pc Ls (.int j :: .ref a :: rest)) rfl rfl hd t k⟩
theorem own_ldJ (X : Stand p l e R s m args below meth c T locs cells slots) (hx : p.tables.exec = Jvm.exec) (hZ : Z.Warmed39 s.vm) (eT : T.heap = h) {a : Addr} {n : Nat} (A : own_A Z h a .long n) {j : Int32} (h1 : 0 ≤ j.toInt) (h2 : j.toInt < n) {pc : Nat} {Ls : Array Slot} {rest : List Value} (hd : decode c.code pc = .ok (.laload, 1)) :
    ∃ x : Int64, ∀ t, Steps p.tables e below (T.setTop (mkF m (pc + 1) Ls (.long x :: rest))) t → Steps p.tables e below (T.setTop (mkF m pc Ls (.int j :: .ref a :: rest))) t := by
  obtain ⟨cl, A1, S, H⟩ := A
  have hin := own_inb S h1 h2
  obtain ⟨v, g1, g2⟩ := H j.toNatClampNeg (by rw [← S]; exact Nat.lt_of_not_le fun q => hin (Or.inr q))
  obtain ⟨x, rfl⟩ := fit_J g2
  exact ⟨x, fun t k => X.laload hx (by rw [eT]; exact A1.1) (State.isArrayOf_alike hZ.alike A1.2.1) A1.2.2 hin g1 (g := mkF m pc Ls (.int j :: .ref a :: rest)) rfl rfl hd t k⟩
theorem own_len (X : Stand p l e R s m args below meth c T locs cells slots) (hx : p.tables.exec = Jvm.exec) (hZ : Z.Warmed39 s.vm) (eT : T.heap = h) {a : Addr} {n : Nat} {ty : FieldType} (A : own_A Z h a ty n) {pc : Nat} {Ls : Array Slot} {rest : List Value} (hd : decode c.code pc = .ok (.arraylength, 1)) :
    ∀ t, Steps p.tables e below (T.setTop (mkF m (pc + 1) Ls (.int n.toInt32 :: rest))) t → Steps p.tables e below (T.setTop (mkF m pc Ls (.ref a :: rest))) t := by
  obtain ⟨cl, A1, S, H⟩ := A
  subst S
  exact fun t k => X.arraylength hx (by rw [eT]; exact A1.1) (State.isArrayOf_alike hZ.alike A1.2.1) (g := mkF m pc Ls (.ref a :: rest)) rfl rfl hd t k
/-! own kit, part 5: an array by the function that tells what its places hold -/
def own_F (Z : State) (h : Heap) (a : Addr) (k : ClassId) (ty : FieldType) (n : Nat) (f : Nat → Value) : Prop := ∃ c : Cell, Arr Z h a c ty ∧ c.cls = k ∧ c.slots.size = n ∧ ∀ i, i < n → c.slots[i]? = some (f i)
def own_up (f : Nat → Value) (j : Nat) (v : Value) : Nat → Value := fun i => if i = j then v else f i
section F
variable {h' : Heap} {a b : Addr} {k : ClassId} {ty : FieldType} {n : Nat} {f : Nat → Value} {j x : Int32} {y : Int64} {i : Nat} {v : Value} {pc : Nat} {Ls : Array Slot} {rest : List Value}
theorem own_F.cong {g : Nat → Value} (F : own_F Z h a k ty n f) (q : ∀ i, i < n → f i = g i) : own_F Z h a k ty n g := by obtain ⟨c, A, r1, r2, r3⟩ := F; exact ⟨c, A, r1, r2, fun i hi => by rw [← q i hi]; exact r3 i hi⟩
theorem own_F.lt (F : own_F Z h a k ty n f) : a < h.size := by obtain ⟨c, A, -⟩ := F; exact A.lt
theorem own_F.ext (F : own_F Z h a k ty n f) (E : Ext h h') : own_F Z h' a k ty n f := by obtain ⟨c, A, r⟩ := F; exact ⟨c, A.ext E, r⟩
theorem own_F.other {sl : Nat} (F : own_F Z h a k ty n f) (W : Wr h h' b sl v) (q : a ≠ b) : own_F Z h' a k ty n f := by obtain ⟨c, A, r⟩ := F; exact ⟨c, A.other W q, r⟩
theorem own_F.keep {ws : List Addr} (F : own_F Z h a k ty n f) (K : Keep h h' ws) (q : a ∉ ws) : own_F Z h' a k ty n f := by obtain ⟨c, A, r⟩ := F; exact ⟨c, ⟨K.2.1 a c A.1 q, A.2⟩, r⟩
theorem own_F.new {z : Int32} (A : Arr Z h a (newA k ty z) ty) (q : ¬ z < 0) (hn : z.toNatClampNeg = n) : own_F Z h a k ty n (fun _ => defaultValue ty) := by
  refine ⟨_, A, rfl, (sz_new _ _ _).trans hn, fun i hi => ?_⟩
  simp [newA, hn, hi]
theorem own_F.set (F : own_F Z h a k ty n f) (W : Wr h h' a i v) : own_F Z h' a k ty n (own_up f i v) := by
  obtain ⟨c, A, q, S, H⟩ := F
  refine ⟨_, A.same W, q, by rw [sz_set]; exact S, fun j hj => ?_⟩
  unfold own_up
  by_cases hij : j = i
  · subst hij
    rw [if_pos rfl]; simp [Cell.setSlot, S, hj]
  · rw [if_neg hij]
    simp only [Cell.setSlot]
    rw [Array.getElem?_setIfInBounds_ne (fun z => hij z.symm)]
    exact H j hj
theorem own_nat (hj : j.toInt = i) : j.toNatClampNeg = i ∧ ¬ j < 0 := by
  have h3 : ¬ j < 0 := fun z => by have := Int32.lt_iff_toInt_lt.mp z; have e : (0 : Int32).toInt = 0 := rfl; omega
  have := nat_of h3
  exact ⟨by omega, h3⟩
theorem own_in {c : Cell} (S : c.slots.size = n) (hj : j.toInt = i) (hi : i < n) : ¬ (j < 0 ∨ c.slots.size ≤ j.toNatClampNeg) := by
  obtain ⟨e1, e2⟩ := own_nat hj
  rintro (z | z)
  · exact e2 z
  · omega
theorem own_fstI (X : Stand p l e R s m args below meth c T locs cells slots) (hx : p.tables.exec = Jvm.exec) (hZ : Z.Warmed39 s.vm) (eT : T.heap = h) (F : own_F Z h a k .int n f) (i : Nat) (hj : j.toInt = i) (hi : i < n) (hd : decode c.code pc = .ok (.iastore, 1)) :
    ∃ T' h', Stand p l e R s m args below meth c T' (locs ++ [⟨a, i⟩]) cells slots ∧ T'.heap = h' ∧ Wr h h' a i (.int x) ∧ own_F Z h' a k .int n (own_up f i (.int x)) ∧ ∀ t, Steps p.tables e below (T'.setTop (mkF m (pc + 1) Ls rest)) t → Steps p.tables e below (T.setTop (mkF m pc Ls (.int x :: .int j :: .ref a :: rest))) t := by
  have F0 := F
  obtain ⟨cl, A, q, S, H⟩ := F
  obtain ⟨T', h', X', e', W, st⟩ := stI X hx hZ eT A (j := j) (x := x) (own_in S hj hi) (g := mkF m pc Ls (.int x :: .int j :: .ref a :: rest)) rfl rfl hd
  rw [(own_nat hj).1] at X' W
  exact ⟨T', h', X', e', W, F0.set W, st⟩
theorem own_fstJ (X : Stand p l e R s m args below meth c T locs cells slots) (hx : p.tables.exec = Jvm.exec) (hZ : Z.Warmed39 s.vm) (eT : T.heap = h) (F : own_F Z h a k .long n f) (i : Nat) (hj : j.toInt = i) (hi : i < n) (hd : decode c.code pc = .ok (.lastore, 1)) :
    ∃ T' h', Stand p l e R s m args below meth c T' (locs ++ [⟨a, i⟩]) cells slots ∧ T'.heap = h' ∧ Wr h h' a i (.long y) ∧ own_F Z h' a k .long n (own_up f i (.long y)) ∧ ∀ t, Steps p.tables e below (T'.setTop (mkF m (pc + 1) Ls rest)) t → Steps p.tables e below (T.setTop (mkF m pc Ls (.long y :: .int j :: .ref a :: rest))) t := by
  have F0 := F
  obtain ⟨cl, A, q, S, H⟩ := F
  obtain ⟨T', h', X', e', W, st⟩ := stJ X hx hZ eT A (j := j) (x := y) (own_in S hj hi) (g := mkF m pc Ls (.long y :: .int j :: .ref a :: rest)) rfl rfl hd
  rw [(own_nat hj).1] at X' W
  exact ⟨T', h', X', e', W, F0.set W, st⟩
theorem own_fstC (X : Stand p l e R s m args below meth c T locs cells slots) (hx : p.tables.exec = Jvm.exec) (hZ : Z.Warmed39 s.vm) (eT : T.heap = h) (F : own_F Z h a k .char n f) (i : Nat) (hj : j.toInt = i) (hi : i < n) (hd : decode c.code pc = .ok (.castore, 1)) :
    ∃ T' h', Stand p l e R s m args below meth c T' (locs ++ [⟨a, i⟩]) cells slots ∧ T'.heap = h' ∧ Wr h h' a i (.int (nar .char x)) ∧ own_F Z h' a k .char n (own_up f i (.int (nar .char x))) ∧ ∀ t, Steps p.tables e below (T'.setTop (mkF m (pc + 1) Ls rest)) t → Steps p.tables e below (T.setTop (mkF m pc Ls (.int x :: .int j :: .ref a :: rest))) t := by
  have F0 := F
  obtain ⟨cl, A, q, S, H⟩ := F
  obtain ⟨T', h', X', e', W, st⟩ := stC X hx hZ eT A (j := j) (x := x) (own_in S hj hi) (g := mkF m pc Ls (.int x :: .int j :: .ref a :: rest)) rfl rfl hd
  rw [(own_nat hj).1] at X' W
  exact ⟨T', h', X', e', W, F0.set W, st⟩
theorem own_fstZ (X : Stand p l e R s m args below meth c T locs cells slots) (hx : p.tables.exec = Jvm.exec) (hZ : Z.Warmed39 s.vm) (eT : T.heap = h) (F : own_F Z h a k .boolean n f) (i : Nat) (hj : j.toInt = i) (hi : i < n) (hd : decode c.code pc = .ok (.bastore, 1)) :
    ∃ T' h', Stand p l e R s m args below meth c T' (locs ++ [⟨a, i⟩]) cells slots ∧ T'.heap = h' ∧ Wr h h' a i (.int (nar .boolean x)) ∧ own_F Z h' a k .boolean n (own_up f i (.int (nar .boolean x))) ∧ ∀ t, Steps p.tables e below (T'.setTop (mkF m (pc + 1) Ls rest)) t → Steps p.tables e below (T.setTop (mkF m pc Ls (.int x :: .int j :: .ref a :: rest))) t := by
  have F0 := F
  obtain ⟨cl, A, q, S, H⟩ := F
  obtain ⟨T', h', X', e', W, st⟩ := stZ X hx hZ eT A (j := j) (x := x) (own_in S hj hi) (g := mkF m pc Ls (.int x :: .int j :: .ref a :: rest)) rfl rfl hd
  rw [(own_nat hj).1] at X' W
  exact ⟨T', h', X', e', W, F0.set W, st⟩
theorem own_fstA (X : Stand p l e R s m args below meth c T locs cells slots) (hx : p.tables.exec = Jvm.exec) (hZ : Z.Warmed39 s.vm) (eT : T.heap = h) (F : own_F Z h a k ty n f) (hty : ty.isReference = true) (O : Sto Z h a v) (i : Nat) (hj : j.toInt = i) (hi : i < n) (hd : decode c.code pc = .ok (.aastore, 1)) :
    ∃ T' h', Stand p l e R s m args below meth c T' (locs ++ [⟨a, i⟩]) cells slots ∧ T'.heap = h' ∧ Wr h h' a i v ∧ own_F Z h' a k ty n (own_up f i v) ∧ ∀ t, Steps p.tables e below (T'.setTop (mkF m (pc + 1) Ls rest)) t → Steps p.tables e below (T.setTop (mkF m pc Ls (v :: .int j :: .ref a :: rest))) t := by
  have F0 := F
  obtain ⟨cl, A, q, S, H⟩ := F
  obtain ⟨T', h', X', e', W, st⟩ := stR X hx hZ eT A (j := j) (v := v) (own_in S hj hi) hty O (g := mkF m pc Ls (v :: .int j :: .ref a :: rest)) rfl rfl hd
  rw [(own_nat hj).1] at X' W
  exact ⟨T', h', X', e', W, F0.set W, st⟩
theorem own_fldI (X : Stand p l e R s m args below meth c T locs cells slots) (hx : p.tables.exec = Jvm.exec) (hZ : Z.Warmed39 s.vm) (eT : T.heap = h) (F : own_F Z h a k .int n f) (i : Nat) (hj : j.toInt = i) (hi : i < n) (hv : f i = v) (hd : decode c.code pc = .ok (.iaload, 1)) :
    ∀ t, Steps p.tables e below (T.setTop (mkF m (pc + 1) Ls (v :: rest))) t → Steps p.tables e below (T.setTop (mkF m pc Ls (.int j :: .ref a :: rest))) t := by
  obtain ⟨cl, A, q, S, H⟩ := F
  exact fun t kk => X.iaload hx (by rw [eT]; exact A.1) (State.isArrayOf_alike hZ.alike A.2.1) A.2.2 (own_in S hj hi) (by rw [(own_nat hj).1, ← hv]; exact H i hi) (g := mkF m pc Ls (.int j :: .ref a :: rest)) rfl rfl hd t kk
theorem own_fldJ (X : Stand p l e R s m args below meth c T locs cells slots) (hx : p.tables.exec = Jvm.exec) (hZ : Z.Warmed39 s.vm) (eT : T.heap = h) (F : own_F Z h a k .long n f) (i : Nat) (hj : j.toInt = i) (hi : i < n) (hv : f i = v) (hd : decode c.code pc = .ok (.laload, 1)) :
    ∀ t, Steps p.tables e below (T.setTop (mkF m (pc + 1) Ls (v :: rest))) t → Steps p.tables e below (T.setTop (mkF m pc Ls (.int j :: .ref a :: rest))) t := by
  obtain ⟨cl, A, q, S, H⟩ := F
  exact fun t kk => X.laload hx (by rw [eT]; exact A.1) (State.isArrayOf_alike hZ.alike A.2.1) A.2.2 (own_in S hj hi) (by rw [(own_nat hj).1, ← hv]; exact H i hi) (g := mkF m pc Ls (.int j :: .ref a :: rest)) rfl rfl hd t kk
theorem own_fldC (X : Stand p l e R s m args below meth c T locs cells slots) (hx : p.tables.exec = Jvm.exec) (hZ : Z.Warmed39 s.vm) (eT : T.heap = h) (F : own_F Z h a k .char n f) (i : Nat) (hj : j.toInt = i) (hi : i < n) (hv : f i = v) (hd : decode c.code pc = .ok (.caload, 1)) :
    ∀ t, Steps p.tables e below (T.setTop (mkF m (pc + 1) Ls (v :: rest))) t → Steps p.tables e below (T.setTop (mkF m pc Ls (.int j :: .ref a :: rest))) t := by
  obtain ⟨cl, A, q, S, H⟩ := F
  exact fun t kk => X.caload hx (by rw [eT]; exact A.1) (State.isArrayOf_alike hZ.alike A.2.1) A.2.2 (own_in S hj hi) (by rw [(own_nat hj).1, ← hv]; exact H i hi) (g := mkF m pc Ls (.int j :: .ref a :: rest)) rfl rfl hd t kk
theorem own_fldZ (X : Stand p l e R s m args below meth c T locs cells slots) (hx : p.tables.exec = Jvm.exec) (hZ : Z.Warmed39 s.vm) (eT : T.heap = h) (F : own_F Z h a k .boolean n f) (i : Nat) (hj : j.toInt = i) (hi : i < n) (hv : f i = v) (hd : decode c.code pc = .ok (.baload, 1)) :
    ∀ t, Steps p.tables e below (T.setTop (mkF m (pc + 1) Ls (v :: rest))) t → Steps p.tables e below (T.setTop (mkF m pc Ls (.int j :: .ref a :: rest))) t := by
  obtain ⟨cl, A, q, S, H⟩ := F
  exact fun t kk => X.baloadBooleans hx (by rw [eT]; exact A.1) (State.isArrayOf_alike hZ.alike A.2.1) A.2.2 (own_in S hj hi) (by rw [(own_nat hj).1, ← hv]; exact H i hi) (g := mkF m pc Ls (.int j :: .ref a :: rest)) rfl rfl hd t kk
theorem own_fldA (X : Stand p l e R s m args below meth c T locs cells slots) (hx : p.tables.exec = Jvm.exec) (hZ : Z.Warmed39 s.vm) (eT : T.heap = h) (F : own_F Z h a k ty n f) (hty : ty.isReference = true) (i : Nat) (hj : j.toInt = i) (hi : i < n) (hv : f i = v) (hd : decode c.code pc = .ok (.aaload, 1)) :
    ∀ t, Steps p.tables e below (T.setTop (mkF m (pc + 1) Ls (v :: rest))) t → Steps p.tables e below (T.setTop (mkF m pc Ls (.int j :: .ref a :: rest))) t := by
  obtain ⟨cl, A, q, S, H⟩ := F
  exact fun t kk => X.aaload hx (by rw [eT]; exact A.1) (State.isArrayOf_alike hZ.alike A.2.1) hty A.2.2 (own_in S hj hi) (by rw [(own_nat hj).1, ← hv]; exact H i hi) (g := mkF m pc Ls (.int j :: .ref a :: rest)) rfl rfl hd t kk
theorem own_flen (X : Stand p l e R s m args below meth c T locs cells slots) (hx : p.tables.exec = Jvm.exec) (hZ : Z.Warmed39 s.vm) (eT : T.heap = h) (F : own_F Z h a k ty n f) (hd : decode c.code pc = .ok (.arraylength, 1)) :
    ∀ t, Steps p.tables e below (T.setTop (mkF m (pc + 1) Ls (.int n.toInt32 :: rest))) t → Steps p.tables e below (T.setTop (mkF m pc Ls (.ref a :: rest))) t := by
  obtain ⟨cl, A, q, S, H⟩ := F
  subst S
  exact fun t kk => X.arraylength hx (by rw [eT]; exact A.1) (State.isArrayOf_alike hZ.alike A.2.1) (g := mkF m pc Ls (.ref a :: rest)) rfl rfl hd t kk
theorem own_F.sto {ty : FieldType} {y : Addr} {C : String} (F : own_F Z h a k (.array ty) n f) (O : OvrA Z k ty C) (E : Exa Z h y C) : Sto Z h a (.ref y) := by
  obtain ⟨c, A, q, -⟩ := F
  exact Sto.ofVA A q O (Ins.self E)
theorem own_up_eq : own_up f i v i = v := if_pos rfl
theorem own_up_ne {j : Nat} (q : j ≠ i) : own_up f i v j = f j := if_neg q
end F
end Own
theorem d1_0 : decode prog_98_method_1_code 0 = .ok (.aload_n 0, 1) := by decide +kernel
theorem d1_1 : decode prog_98_method_1_code 1 = .ok (.invokespecial 1, 3) := by decide +kernel
theorem d1_4 : decode prog_98_method_1_code 4 = .ok (.aload_n 0, 1) := by decide +kernel
theorem d1_5 : decode prog_98_method_1_code 5 = .ok (.iconst 4, 1) := by decide +kernel
theorem d1_6 : decode prog_98_method_1_code 6 = .ok (.anewarray 7, 3) := by decide +kernel
theorem d1_9 : decode prog_98_method_1_code 9 = .ok (.putfield 9, 3) := by decide +kernel
theorem d1_12 : decode prog_98_method_1_code 12 = .ok (.aload_n 0, 1) := by decide +kernel
theorem d1_13 : decode prog_98_method_1_code 13 = .ok (.iconst 4, 1) := by decide +kernel
theorem d1_14 : decode prog_98_method_1_code 14 = .ok (.newarray .int, 2) := by decide +kernel
theorem d1_16 : decode prog_98_method_1_code 16 = .ok (.putfield 15, 3) := by decide +kernel
theorem d1_19 : decode prog_98_method_1_code 19 = .ok (.aload_n 0, 1) := by decide +kernel
theorem d1_20 : decode prog_98_method_1_code 20 = .ok (.iconst 4, 1) := by decide +kernel
theorem d1_21 : decode prog_98_method_1_code 21 = .ok (.newarray .int, 2) := by decide +kernel
theorem d1_23 : decode prog_98_method_1_code 23 = .ok (.putfield 18, 3) := by decide +kernel
theorem d1_26 : decode prog_98_method_1_code 26 = .ok (.aload_n 0, 1) := by decide +kernel
theorem d1_27 : decode prog_98_method_1_code 27 = .ok (.iconst 4, 1) := by decide +kernel
theorem d1_28 : decode prog_98_method_1_code 28 = .ok (.anewarray 21, 3) := by decide +kernel
theorem d1_31 : decode prog_98_method_1_code 31 = .ok (.putfield 23, 3) := by decide +kernel
theorem d1_34 : decode prog_98_method_1_code 34 = .ok (.aload_n 0, 1) := by decide +kernel
theorem d1_35 : decode prog_98_method_1_code 35 = .ok (.iconst 4, 1) := by decide +kernel
theorem d1_36 : decode prog_98_method_1_code 36 = .ok (.anewarray 7, 3) := by decide +kernel
theorem d1_39 : decode prog_98_method_1_code 39 = .ok (.putfield 27, 3) := by decide +kernel
theorem d1_42 : decode prog_98_method_1_code 42 = .ok (.aload_n 0, 1) := by decide +kernel
theorem d1_43 : decode prog_98_method_1_code 43 = .ok (.iconst 4, 1) := by decide +kernel
theorem d1_44 : decode prog_98_method_1_code 44 = .ok (.newarray .int, 2) := by decide +kernel
theorem d1_46 : decode prog_98_method_1_code 46 = .ok (.putfield 30, 3) := by decide +kernel
theorem d1_49 : decode prog_98_method_1_code 49 = .ok (.aload_n 0, 1) := by decide +kernel
theorem d1_50 : decode prog_98_method_1_code 50 = .ok (.iconst 4, 1) := by decide +kernel
theorem d1_51 : decode prog_98_method_1_code 51 = .ok (.newarray .int, 2) := by decide +kernel
theorem d1_53 : decode prog_98_method_1_code 53 = .ok (.putfield 33, 3) := by decide +kernel
theorem d1_56 : decode prog_98_method_1_code 56 = .ok (.aload_n 0, 1) := by decide +kernel
theorem d1_57 : decode prog_98_method_1_code 57 = .ok (.iconst 4, 1) := by decide +kernel
theorem d1_58 : decode prog_98_method_1_code 58 = .ok (.anewarray 21, 3) := by decide +kernel
theorem d1_61 : decode prog_98_method_1_code 61 = .ok (.putfield 36, 3) := by decide +kernel
theorem d1_64 : decode prog_98_method_1_code 64 = .ok (.return_, 1) := by decide +kernel
theorem d3_0 : decode prog_98_method_2_code 0 = .ok (.aload_n 0, 1) := by decide +kernel
theorem d3_1 : decode prog_98_method_2_code 1 = .ok (.getfield 39, 3) := by decide +kernel
theorem d3_4 : decode prog_98_method_2_code 4 = .ok (.aload_n 0, 1) := by decide +kernel
theorem d3_5 : decode prog_98_method_2_code 5 = .ok (.getfield 9, 3) := by decide +kernel
theorem d3_8 : decode prog_98_method_2_code 8 = .ok (.arraylength, 1) := by decide +kernel
theorem d3_9 : decode prog_98_method_2_code 9 = .ok (.if_icmp .ne 129, 3) := by decide +kernel
theorem d3_138 : decode prog_98_method_2_code 138 = .ok (.aload_n 0, 1) := by decide +kernel
theorem d3_139 : decode prog_98_method_2_code 139 = .ok (.getfield 9, 3) := by decide +kernel
theorem d3_142 : decode prog_98_method_2_code 142 = .ok (.aload_n 0, 1) := by decide +kernel
theorem d3_143 : decode prog_98_method_2_code 143 = .ok (.getfield 39, 3) := by decide +kernel
theorem d3_146 : decode prog_98_method_2_code 146 = .ok (.aload_n 1, 1) := by decide +kernel
theorem d3_147 : decode prog_98_method_2_code 147 = .ok (.aastore, 1) := by decide +kernel
theorem d3_148 : decode prog_98_method_2_code 148 = .ok (.aload_n 0, 1) := by decide +kernel
theorem d3_149 : decode prog_98_method_2_code 149 = .ok (.getfield 15, 3) := by decide +kernel
theorem d3_152 : decode prog_98_method_2_code 152 = .ok (.aload_n 0, 1) := by decide +kernel
theorem d3_153 : decode prog_98_method_2_code 153 = .ok (.getfield 39, 3) := by decide +kernel
theorem d3_156 : decode prog_98_method_2_code 156 = .ok (.iload_n 3, 1) := by decide +kernel
theorem d3_157 : decode prog_98_method_2_code 157 = .ok (.iastore, 1) := by decide +kernel
theorem d3_158 : decode prog_98_method_2_code 158 = .ok (.aload_n 0, 1) := by decide +kernel
theorem d3_159 : decode prog_98_method_2_code 159 = .ok (.getfield 18, 3) := by decide +kernel
theorem d3_162 : decode prog_98_method_2_code 162 = .ok (.aload_n 0, 1) := by decide +kernel
theorem d3_163 : decode prog_98_method_2_code 163 = .ok (.getfield 39, 3) := by decide +kernel
theorem d3_166 : decode prog_98_method_2_code 166 = .ok (.iload 4, 2) := by decide +kernel
theorem d3_168 : decode prog_98_method_2_code 168 = .ok (.iastore, 1) := by decide +kernel
theorem d3_169 : decode prog_98_method_2_code 169 = .ok (.aload_n 0, 1) := by decide +kernel
theorem d3_170 : decode prog_98_method_2_code 170 = .ok (.getfield 23, 3) := by decide +kernel
theorem d3_173 : decode prog_98_method_2_code 173 = .ok (.aload_n 0, 1) := by decide +kernel
theorem d3_174 : decode prog_98_method_2_code 174 = .ok (.getfield 39, 3) := by decide +kernel
theorem d3_177 : decode prog_98_method_2_code 177 = .ok (.aload_n 2, 1) := by decide +kernel
theorem d3_178 : decode prog_98_method_2_code 178 = .ok (.aastore, 1) := by decide +kernel
theorem d3_179 : decode prog_98_method_2_code 179 = .ok (.aload_n 0, 1) := by decide +kernel
theorem d3_180 : decode prog_98_method_2_code 180 = .ok (.getfield 27, 3) := by decide +kernel
theorem d3_183 : decode prog_98_method_2_code 183 = .ok (.aload_n 0, 1) := by decide +kernel
theorem d3_184 : decode prog_98_method_2_code 184 = .ok (.getfield 39, 3) := by decide +kernel
theorem d3_187 : decode prog_98_method_2_code 187 = .ok (.aload 5, 2) := by decide +kernel
theorem d3_189 : decode prog_98_method_2_code 189 = .ok (.aastore, 1) := by decide +kernel
theorem d3_190 : decode prog_98_method_2_code 190 = .ok (.aload_n 0, 1) := by decide +kernel
theorem d3_191 : decode prog_98_method_2_code 191 = .ok (.getfield 30, 3) := by decide +kernel
theorem d3_194 : decode prog_98_method_2_code 194 = .ok (.aload_n 0, 1) := by decide +kernel
theorem d3_195 : decode prog_98_method_2_code 195 = .ok (.getfield 39, 3) := by decide +kernel
theorem d3_198 : decode prog_98_method_2_code 198 = .ok (.iload 7, 2) := by decide +kernel
theorem d3_200 : decode prog_98_method_2_code 200 = .ok (.iastore, 1) := by decide +kernel
theorem d3_201 : decode prog_98_method_2_code 201 = .ok (.aload_n 0, 1) := by decide +kernel
theorem d3_202 : decode prog_98_method_2_code 202 = .ok (.getfield 33, 3) := by decide +kernel
theorem d3_205 : decode prog_98_method_2_code 205 = .ok (.aload_n 0, 1) := by decide +kernel
theorem d3_206 : decode prog_98_method_2_code 206 = .ok (.getfield 39, 3) := by decide +kernel
theorem d3_209 : decode prog_98_method_2_code 209 = .ok (.iload 8, 2) := by decide +kernel
theorem d3_211 : decode prog_98_method_2_code 211 = .ok (.iastore, 1) := by decide +kernel
theorem d3_212 : decode prog_98_method_2_code 212 = .ok (.aload_n 0, 1) := by decide +kernel
theorem d3_213 : decode prog_98_method_2_code 213 = .ok (.getfield 36, 3) := by decide +kernel
theorem d3_216 : decode prog_98_method_2_code 216 = .ok (.aload_n 0, 1) := by decide +kernel
theorem d3_217 : decode prog_98_method_2_code 217 = .ok (.getfield 39, 3) := by decide +kernel
theorem d3_220 : decode prog_98_method_2_code 220 = .ok (.aload 6, 2) := by decide +kernel
theorem d3_222 : decode prog_98_method_2_code 222 = .ok (.aastore, 1) := by decide +kernel
theorem d3_223 : decode prog_98_method_2_code 223 = .ok (.aload_n 0, 1) := by decide +kernel
theorem d3_224 : decode prog_98_method_2_code 224 = .ok (.dup, 1) := by decide +kernel
theorem d3_225 : decode prog_98_method_2_code 225 = .ok (.getfield 39, 3) := by decide +kernel
theorem d3_228 : decode prog_98_method_2_code 228 = .ok (.iconst 1, 1) := by decide +kernel
theorem d3_229 : decode prog_98_method_2_code 229 = .ok (.iadd, 1) := by decide +kernel
theorem d3_230 : decode prog_98_method_2_code 230 = .ok (.putfield 39, 3) := by decide +kernel
theorem d3_233 : decode prog_98_method_2_code 233 = .ok (.aload_n 0, 1) := by decide +kernel
theorem d3_234 : decode prog_98_method_2_code 234 = .ok (.aload_n 0, 1) := by decide +kernel
theorem d3_235 : decode prog_98_method_2_code 235 = .ok (.getfield 60, 3) := by decide +kernel
theorem d3_238 : decode prog_98_method_2_code 238 = .ok (.iload 4, 2) := by decide +kernel
theorem d3_240 : decode prog_98_method_2_code 240 = .ok (.iload_n 3, 1) := by decide +kernel
theorem d3_241 : decode prog_98_method_2_code 241 = .ok (.isub, 1) := by decide +kernel
theorem d3_242 : decode prog_98_method_2_code 242 = .ok (.invokestatic 63, 3) := by decide +kernel
theorem d3_245 : decode prog_98_method_2_code 245 = .ok (.putfield 60, 3) := by decide +kernel
theorem d3_248 : decode prog_98_method_2_code 248 = .ok (.return_, 1) := by decide +kernel
theorem d4_0 : decode jdk_29_method_24_code 0 = .ok (.iload_n 0, 1) := by decide +kernel
theorem d4_1 : decode jdk_29_method_24_code 1 = .ok (.iload_n 1, 1) := by decide +kernel
theorem d4_2 : decode jdk_29_method_24_code 2 = .ok (.iadd, 1) := by decide +kernel
theorem d4_3 : decode jdk_29_method_24_code 3 = .ok (.istore_n 2, 1) := by decide +kernel
theorem d4_4 : decode jdk_29_method_24_code 4 = .ok (.iload_n 0, 1) := by decide +kernel
theorem d4_5 : decode jdk_29_method_24_code 5 = .ok (.iload_n 2, 1) := by decide +kernel
theorem d4_6 : decode jdk_29_method_24_code 6 = .ok (.ixor, 1) := by decide +kernel
theorem d4_7 : decode jdk_29_method_24_code 7 = .ok (.iload_n 1, 1) := by decide +kernel
theorem d4_8 : decode jdk_29_method_24_code 8 = .ok (.iload_n 2, 1) := by decide +kernel
theorem d4_9 : decode jdk_29_method_24_code 9 = .ok (.ixor, 1) := by decide +kernel
theorem d4_10 : decode jdk_29_method_24_code 10 = .ok (.iand, 1) := by decide +kernel
theorem d4_11 : decode jdk_29_method_24_code 11 = .ok (.ifCond .ge 13, 3) := by decide +kernel
theorem d4_24 : decode jdk_29_method_24_code 24 = .ok (.iload_n 2, 1) := by decide +kernel
theorem d4_25 : decode jdk_29_method_24_code 25 = .ok (.ireturn, 1) := by decide +kernel
theorem d5_0 : decode prog_98_method_11_code 0 = .ok (.aload_n 0, 1) := by decide +kernel
theorem d5_1 : decode prog_98_method_11_code 1 = .ok (.getfield 33, 3) := by decide +kernel
theorem d5_4 : decode prog_98_method_11_code 4 = .ok (.iload_n 1, 1) := by decide +kernel
theorem d5_5 : decode prog_98_method_11_code 5 = .ok (.iaload, 1) := by decide +kernel
theorem d5_6 : decode prog_98_method_11_code 6 = .ok (.aload_n 0, 1) := by decide +kernel
theorem d5_7 : decode prog_98_method_11_code 7 = .ok (.getfield 30, 3) := by decide +kernel
theorem d5_10 : decode prog_98_method_11_code 10 = .ok (.iload_n 1, 1) := by decide +kernel
theorem d5_11 : decode prog_98_method_11_code 11 = .ok (.iaload, 1) := by decide +kernel
theorem d5_12 : decode prog_98_method_11_code 12 = .ok (.isub, 1) := by decide +kernel
theorem d5_13 : decode prog_98_method_11_code 13 = .ok (.istore 4, 2) := by decide +kernel
theorem d5_15 : decode prog_98_method_11_code 15 = .ok (.aload_n 0, 1) := by decide +kernel
theorem d5_16 : decode prog_98_method_11_code 16 = .ok (.getfield 15, 3) := by decide +kernel
theorem d5_19 : decode prog_98_method_11_code 19 = .ok (.iload_n 1, 1) := by decide +kernel
theorem d5_20 : decode prog_98_method_11_code 20 = .ok (.iaload, 1) := by decide +kernel
theorem d5_21 : decode prog_98_method_11_code 21 = .ok (.lload_n 2, 1) := by decide +kernel
theorem d5_22 : decode prog_98_method_11_code 22 = .ok (.iload 4, 2) := by decide +kernel
theorem d5_24 : decode prog_98_method_11_code 24 = .ok (.i2l, 1) := by decide +kernel
theorem d5_25 : decode prog_98_method_11_code 25 = .ok (.ldiv, 1) := by decide +kernel
theorem d5_26 : decode prog_98_method_11_code 26 = .ok (.l2i, 1) := by decide +kernel
theorem d5_27 : decode prog_98_method_11_code 27 = .ok (.iadd, 1) := by decide +kernel
theorem d5_28 : decode prog_98_method_11_code 28 = .ok (.istore 5, 2) := by decide +kernel
theorem d5_30 : decode prog_98_method_11_code 30 = .ok (.aload_n 0, 1) := by decide +kernel
theorem d5_31 : decode prog_98_method_11_code 31 = .ok (.getfield 30, 3) := by decide +kernel
theorem d5_34 : decode prog_98_method_11_code 34 = .ok (.iload_n 1, 1) := by decide +kernel
theorem d5_35 : decode prog_98_method_11_code 35 = .ok (.iaload, 1) := by decide +kernel
theorem d5_36 : decode prog_98_method_11_code 36 = .ok (.lload_n 2, 1) := by decide +kernel
theorem d5_37 : decode prog_98_method_11_code 37 = .ok (.iload 4, 2) := by decide +kernel
theorem d5_39 : decode prog_98_method_11_code 39 = .ok (.i2l, 1) := by decide +kernel
theorem d5_40 : decode prog_98_method_11_code 40 = .ok (.lrem, 1) := by decide +kernel
theorem d5_41 : decode prog_98_method_11_code 41 = .ok (.l2i, 1) := by decide +kernel
theorem d5_42 : decode prog_98_method_11_code 42 = .ok (.iadd, 1) := by decide +kernel
theorem d5_43 : decode prog_98_method_11_code 43 = .ok (.istore 6, 2) := by decide +kernel
theorem d5_45 : decode prog_98_method_11_code 45 = .ok (.aload_n 0, 1) := by decide +kernel
theorem d5_46 : decode prog_98_method_11_code 46 = .ok (.getfield 23, 3) := by decide +kernel
theorem d5_49 : decode prog_98_method_11_code 49 = .ok (.iload_n 1, 1) := by decide +kernel
theorem d5_50 : decode prog_98_method_11_code 50 = .ok (.aaload, 1) := by decide +kernel
theorem d5_51 : decode prog_98_method_11_code 51 = .ok (.iload 5, 2) := by decide +kernel
theorem d5_53 : decode prog_98_method_11_code 53 = .ok (.iconst 1, 1) := by decide +kernel
theorem d5_54 : decode prog_98_method_11_code 54 = .ok (.iadd, 1) := by decide +kernel
theorem d5_55 : decode prog_98_method_11_code 55 = .ok (.laload, 1) := by decide +kernel
theorem d5_56 : decode prog_98_method_11_code 56 = .ok (.aload_n 0, 1) := by decide +kernel
theorem d5_57 : decode prog_98_method_11_code 57 = .ok (.getfield 23, 3) := by decide +kernel
theorem d5_60 : decode prog_98_method_11_code 60 = .ok (.iload_n 1, 1) := by decide +kernel
theorem d5_61 : decode prog_98_method_11_code 61 = .ok (.aaload, 1) := by decide +kernel
theorem d5_62 : decode prog_98_method_11_code 62 = .ok (.iload 5, 2) := by decide +kernel
theorem d5_64 : decode prog_98_method_11_code 64 = .ok (.laload, 1) := by decide +kernel
theorem d5_65 : decode prog_98_method_11_code 65 = .ok (.lsub, 1) := by decide +kernel
theorem d5_66 : decode prog_98_method_11_code 66 = .ok (.aload_n 0, 1) := by decide +kernel
theorem d5_67 : decode prog_98_method_11_code 67 = .ok (.getfield 36, 3) := by decide +kernel
theorem d5_70 : decode prog_98_method_11_code 70 = .ok (.iload_n 1, 1) := by decide +kernel
theorem d5_71 : decode prog_98_method_11_code 71 = .ok (.aaload, 1) := by decide +kernel
theorem d5_72 : decode prog_98_method_11_code 72 = .ok (.iload 6, 2) := by decide +kernel
theorem d5_74 : decode prog_98_method_11_code 74 = .ok (.iconst 1, 1) := by decide +kernel
theorem d5_75 : decode prog_98_method_11_code 75 = .ok (.iadd, 1) := by decide +kernel
theorem d5_76 : decode prog_98_method_11_code 76 = .ok (.laload, 1) := by decide +kernel
theorem d5_77 : decode prog_98_method_11_code 77 = .ok (.aload_n 0, 1) := by decide +kernel
theorem d5_78 : decode prog_98_method_11_code 78 = .ok (.getfield 36, 3) := by decide +kernel
theorem d5_81 : decode prog_98_method_11_code 81 = .ok (.iload_n 1, 1) := by decide +kernel
theorem d5_82 : decode prog_98_method_11_code 82 = .ok (.aaload, 1) := by decide +kernel
theorem d5_83 : decode prog_98_method_11_code 83 = .ok (.iload 6, 2) := by decide +kernel
theorem d5_85 : decode prog_98_method_11_code 85 = .ok (.laload, 1) := by decide +kernel
theorem d5_86 : decode prog_98_method_11_code 86 = .ok (.lsub, 1) := by decide +kernel
theorem d5_87 : decode prog_98_method_11_code 87 = .ok (.lmul, 1) := by decide +kernel
theorem d5_88 : decode prog_98_method_11_code 88 = .ok (.lreturn, 1) := by decide +kernel
theorem pd_II_I : parseMethodDescriptor "(II)I" = some ⟨[.int, .int], some .int⟩ := by decide +kernel
theorem pd_IJ_J : parseMethodDescriptor "(IJ)J" = some ⟨[.int, .long], some .long⟩ := by decide +kernel
theorem pd__V : parseMethodDescriptor "()V" = some ⟨[], none⟩ := by decide +kernel
theorem pd_aIaJIIaIaJII_V : parseMethodDescriptor "([I[JII[I[JII)V" = some ⟨[(.array .int), (.array .long), .int, .int, (.array .int), (.array .long), .int, .int], none⟩ := by decide +kernel
theorem pn_PairBlocks : plainName "com/example/ordinate/ordinate/core/PairBlocks" = true := by first | (simp [plainName, overriddenIn]; done) | decide +kernel
theorem pn_PairBlocksWeightOfPinLaw : plainName "com/example/ordinate/ordinate/core/PairBlocksWeightOfPinLaw" = true := by first | (simp [plainName, overriddenIn]; done) | decide +kernel
def own_s4 (a b c : Int64) (i : Nat) : Int64 := if i = 0 then 0 else if i = 1 then a else if i = 2 then a + b else a + b + c
def own_v3 (a b c : Int64) (i : Nat) : Int64 := if i = 0 then a else if i = 1 then b else c
theorem own_cancelL (x y : Int64) : (x + y) - x = y := by
  apply Int64.toInt_inj.mp; have h1 := c_lsub (x + y) x; have h2 := c_ladd x y; have := rng64 y; have := rng64 ((x + y) - x); omega
theorem own_cancel (x y : Int32) : (x + y) - x = y := by
  apply Int32.toInt_inj.mp; have h1 := c_isub (x + y) x; have h2 := c_iadd x y; have := rng32 y; have := rng32 ((x + y) - x); omega
theorem own_diff (a b c : Int64) (n : Nat) (hn : n < 3) : own_s4 a b c (n + 1) - own_s4 a b c n = own_v3 a b c n := by
  match n, hn with
  | 0, _ => show a - 0 = a; exact Int64.sub_zero _
  | 1, _ => exact own_cancelL a b
  | 2, _ => exact own_cancelL (a + b) c
theorem own_prod {r w : Int32} (h1 : 1 ≤ r.toInt) (h2 : r.toInt ≤ 3) (h3 : 1 ≤ w.toInt) (h4 : w.toInt ≤ 3) : (r.toInt64 * w.toInt64).toInt = r.toInt * w.toInt := by
  have e := c_lmul r.toInt64 w.toInt64
  rw [c_i2l, c_i2l] at e
  have g := rng64 (r.toInt64 * w.toInt64)
  rcases (show r.toInt = 1 ∨ r.toInt = 2 ∨ r.toInt = 3 by omega) with q | q | q <;> rcases (show w.toInt = 1 ∨ w.toInt = 2 ∨ w.toInt = 3 by omega) with u | u | u <;> rw [q, u] at e ⊢ <;> omega
/-- i below r * w: i / w below r, i % w below w, as the code reckons them -/
theorem own_rc {i : Int64} {r w : Int32} (h1 : 1 ≤ r.toInt) (h2 : r.toInt ≤ 3) (h3 : 1 ≤ w.toInt) (h4 : w.toInt ≤ 3) (h5 : 0 ≤ i.toInt) (h6 : i.toInt < r.toInt * w.toInt) :
    ∃ q u : Nat, (i / w.toInt64).toInt32.toInt = q ∧ (q : Int) < r.toInt ∧ (i - (i / w.toInt64) * w.toInt64).toInt32.toInt = u ∧ (u : Int) < w.toInt := by
  have hw : w.toInt64.toInt = w.toInt := c_i2l w
  have e1 := (c_ldiv i w.toInt64 w.toInt hw (fun z => by have := congrArg Int64.toInt z; rw [hw] at this; have e0 : (-1 : Int64).toInt = -1 := (by decide); omega)).1 h5
  have e2 := (c_lrem i w.toInt64 w.toInt hw).1 h5
  have l1 := c_l2i (i / w.toInt64)
  have l2 := c_l2i (i - (i / w.toInt64) * w.toInt64)
  have g1 := rng32 (i / w.toInt64).toInt32
  have g2 := rng32 (i - (i / w.toInt64) * w.toInt64).toInt32
  rw [e1] at l1
  rw [e2] at l2
  generalize (i / w.toInt64).toInt32 = A at *
  generalize (i - (i / w.toInt64) * w.toInt64).toInt32 = B at *
  rcases (show r.toInt = 1 ∨ r.toInt = 2 ∨ r.toInt = 3 by omega) with q | q | q <;> rcases (show w.toInt = 1 ∨ w.toInt = 2 ∨ w.toInt = 3 by omega) with u | u | u <;> rw [q, u] at h6 <;> rw [u] at l1 l2 <;>
    exact ⟨A.toInt.toNat, B.toInt.toNat, by omega, by omega, by omega, by omega⟩
theorem own_addI {x y : Int32} (h1 : -2147483648 ≤ x.toInt + y.toInt) (h2 : x.toInt + y.toInt < 2147483648) : (x + y).toInt = x.toInt + y.toInt := by
  have := c_iadd x y; have := rng32 (x + y); omega
set_option maxRecDepth 65536 in
set_option maxHeartbeats 40000000 in
theorem rm1 (l : Launch) (Z : State) (a0 : Array Value) (hw : ∀ d ∈ tables_1, d.before a0 Z = true) (ws : List Jvm.Cond) (r : Addr) (h0 : Heap) (n0 : Nat) (Z0 : n0 ≤ h0.size) (nr : n0 ≤ r) (E0 : Exa Z h0 r "com/example/ordinate/ordinate/core/PairBlocks") (f_xRuns : Fld Z h0 r "com/example/ordinate/ordinate/core/PairBlocks" "xRuns" "[[I" .null) (f_xFroms : Fld Z h0 r "com/example/ordinate/ordinate/core/PairBlocks" "xFroms" "[I" .null) (f_xTos : Fld Z h0 r "com/example/ordinate/ordinate/core/PairBlocks" "xTos" "[I" .null) (f_xWeights : Fld Z h0 r "com/example/ordinate/ordinate/core/PairBlocks" "xWeights" "[[J" .null) (f_yRuns : Fld Z h0 r "com/example/ordinate/ordinate/core/PairBlocks" "yRuns" "[[I" .null) (f_yFroms : Fld Z h0 r "com/example/ordinate/ordinate/core/PairBlocks" "yFroms" "[I" .null) (f_yTos : Fld Z h0 r "com/example/ordinate/ordinate/core/PairBlocks" "yTos" "[I" .null) (f_yWeights : Fld Z h0 r "com/example/ordinate/ordinate/core/PairBlocks" "yWeights" "[[J" .null) (f_count : Fld Z h0 r "com/example/ordinate/ordinate/core/PairBlocks" "count" "I" (.int (0 : Int32))) (f_xPlaces : Fld Z h0 r "com/example/ordinate/ordinate/core/PairBlocks" "xPlaces" "I" (.int (0 : Int32))) :
    own_Met l (⟨"com/example/ordinate/ordinate/core/PairBlocks", "<init>", "()V"⟩ : MethodName) prog_98_method_1_code 1 none ws ({ frames := 1, cells := 8, slots := 32, locals := 12 } : Room) #[(.ref r)] Z h0 (fun v h L => v = none ∧ Fr n0 L ∧ Keep h0 h [r] ∧ ∃ axr axf axt axw ayr ayf ayt ayw : Addr, ∃ kaxr kaxf kaxt kaxw kayr kayf kayt kayw : ClassId, (@LT.lt Nat _ r axr ∧ @LT.lt Nat _ axr axf ∧ @LT.lt Nat _ axf axt ∧ @LT.lt Nat _ axt axw ∧ @LT.lt Nat _ axw ayr ∧ @LT.lt Nat _ ayr ayf ∧ @LT.lt Nat _ ayf ayt ∧ @LT.lt Nat _ ayt ayw) ∧ (OvrA Z kaxr .int "[I" ∧ OvrA Z kaxw .long "[J" ∧ OvrA Z kayr .int "[I" ∧ OvrA Z kayw .long "[J") ∧ own_F Z h axr kaxr (.array .int) 4 (fun _ => defaultValue (.array .int)) ∧ own_F Z h axf kaxf .int 4 (fun _ => defaultValue .int) ∧ own_F Z h axt kaxt .int 4 (fun _ => defaultValue .int) ∧ own_F Z h axw kaxw (.array .long) 4 (fun _ => defaultValue (.array .long)) ∧ own_F Z h ayr kayr (.array .int) 4 (fun _ => defaultValue (.array .int)) ∧ own_F Z h ayf kayf .int 4 (fun _ => defaultValue .int) ∧ own_F Z h ayt kayt .int 4 (fun _ => defaultValue .int) ∧ own_F Z h ayw kayw (.array .long) 4 (fun _ => defaultValue (.array .long)) ∧ Fld Z h r "com/example/ordinate/ordinate/core/PairBlocks" "xRuns" "[[I" (.ref axr) ∧ Fld Z h r "com/example/ordinate/ordinate/core/PairBlocks" "xFroms" "[I" (.ref axf) ∧ Fld Z h r "com/example/ordinate/ordinate/core/PairBlocks" "xTos" "[I" (.ref axt) ∧ Fld Z h r "com/example/ordinate/ordinate/core/PairBlocks" "xWeights" "[[J" (.ref axw) ∧ Fld Z h r "com/example/ordinate/ordinate/core/PairBlocks" "yRuns" "[[I" (.ref ayr) ∧ Fld Z h r "com/example/ordinate/ordinate/core/PairBlocks" "yFroms" "[I" (.ref ayf) ∧ Fld Z h r "com/example/ordinate/ordinate/core/PairBlocks" "yTos" "[I" (.ref ayt) ∧ Fld Z h r "com/example/ordinate/ordinate/core/PairBlocks" "yWeights" "[[J" (.ref ayw) ∧ Fld Z h r "com/example/ordinate/ordinate/core/PairBlocks" "count" "I" (.int 0) ∧ Fld Z h r "com/example/ordinate/ordinate/core/PairBlocks" "xPlaces" "I" (.int 0)) := by
  refine own_body (plainFor_of_name pn_PairBlocks) ?_
  intro p e s m below meth c s0 X0 hx hby hml hret hlk hown hnm hZ e0
  replace hown : s.vm.findClass "com/example/ordinate/ordinate/core/PairBlocks" = some m.cls := hown
  have N0 := Fr.nil n0
  have ef : entryFrame m #[(.ref r)] 1 = (mkF m 0 #[.val (.ref r)] []) := by first | (simp [entryFrame, mkF, argsToLocals, Value.category, maxLocals]; done) | rfl
  rw [ef]
  show own_End p e below s _ _ _ (s0.setTop (mkF m 0 #[.val (.ref r)] []))
  have K1 := Keep.refl h0 [r]
  refine own_go (fun t k => XS.aloadN X0.here hx rfl (hb hby d1_0) rfl rfl k) ?_
  show own_End p e below s _ _ _ (s0.setTop (mkF m 1 #[.val (.ref r)] [(.ref r)]))
  obtain ⟨T2, X2, e2, st2⟩ := initO X0 hx hZ hown (hw _ (List.mem_of_getElem? (i := 9) rfl)) (hw _ (List.mem_of_getElem? (i := 10) rfl)) (hw _ (List.mem_of_getElem? (i := 11) rfl)) e0 (g := (mkF m 1 #[.val (.ref r)] [(.ref r)])) rfl (by rw [hml]; rfl) rfl (hb hby d1_1) (by decide) (W := 0) (by show 2 * 0 + _ ≤ _; exact Nat.le_of_eq rfl) (by decide)
  refine own_go st2 ?_
  show own_End p e below s _ _ _ (T2.setTop (mkF m 4 #[.val (.ref r)] []))
  refine own_go (fun t k => XS.aloadN X2.here hx rfl (hb hby d1_4) rfl rfl k) ?_
  show own_End p e below s _ _ _ (T2.setTop (mkF m 5 #[.val (.ref r)] [(.ref r)]))
  refine own_go (fun t k => XS.iconst X2.here hx rfl (hb hby d1_5) k) ?_
  show own_End p e below s _ _ _ (T2.setTop (mkF m 6 #[.val (.ref r)] [(.int (4 : Int32)), (.ref r)]))
  obtain ⟨T3, h3, k3, X3, e3, E3, A3, Ex3, O3, st3⟩ := newRA X2 hx hZ (ty := .int) hown (C := "[I") (by decide) (hw _ (List.mem_of_getElem? (i := 12) rfl)) (hw _ (List.mem_of_getElem? (i := 13) rfl)) e2 (g := (mkF m 6 #[.val (.ref r)] [(.int (4 : Int32)), (.ref r)])) rfl (hb hby d1_6) rfl (by decide) (cap := 4) (by decide) (by decide) (by decide) (by decide) (ad := "[[I") (by decide)
  obtain ⟨b3, gb3⟩ : ∃ z, z = h0.size := ⟨_, rfl⟩
  rw [← gb3] at A3 st3
  have F3 := own_F.new A3 (n := 4) (by decide) (by decide)
  have nb3 : n0 ≤ b3 := by rw [gb3]; exact Z0
  have Z3 : n0 ≤ h3.size := Nat.le_trans Z0 E3.1
  have lt_r_b3 : @LT.lt Nat _ r b3 := Nat.lt_of_lt_of_le E0.lt (Nat.le_of_eq gb3.symm)
  have sb3 : h0.size ≤ b3 := by rw [gb3]; exact K1.1
  have K4 := K1.ext E3
  have f5 := E0.ext E3
  have f6 := f_xRuns.ext E3
  have f7 := f_xFroms.ext E3
  have f8 := f_xTos.ext E3
  have f9 := f_xWeights.ext E3
  have f10 := f_yRuns.ext E3
  have f11 := f_yFroms.ext E3
  have f12 := f_yTos.ext E3
  have f13 := f_yWeights.ext E3
  have f14 := f_count.ext E3
  have f15 := f_xPlaces.ext E3
  refine own_go st3 ?_
  show own_End p e below s _ _ _ (T3.setTop (mkF m 9 #[.val (.ref r)] [(.ref b3), (.ref r)]))
  obtain ⟨T16, h16, X16, e16, W16, st16⟩ := putF X3 hx hZ hown (host := "") (Or.inl (hw _ (List.mem_of_getElem? (i := 14) rfl))) Via.refl e3 f6 f5 (Or.inl (hw _ (List.mem_of_getElem? (i := 15) rfl))) (hw _ (List.mem_of_getElem? (i := 4) rfl)) (ty := (.array (.array .int))) (by decide) rfl rfl (g := (mkF m 9 #[.val (.ref r)] [(.ref b3), (.ref r)])) rfl rfl (hb hby d1_9)
  have N16 := Fr.snoc X16 N0 nr
  have Z16 : n0 ≤ h16.size := by rw [W16.size]; exact Z3
  refine own_go st16 ?_
  have K17 := K4.wr W16 (Or.inl (List.mem_of_getElem? (i := 0) rfl))
  have f18 := f5.wr W16
  have f19 := f6.same W16
  have f20 := f7.other W16 (Or.inr (slot_ne (Or.inl (hw _ (List.mem_of_getElem? (i := 17) rfl))) (Or.inl (hw _ (List.mem_of_getElem? (i := 15) rfl))) (by decide) (t := (.array .int)) (t' := (.array (.array .int))) (by decide) (by decide)))
  have f21 := f8.other W16 (Or.inr (slot_ne (Or.inl (hw _ (List.mem_of_getElem? (i := 19) rfl))) (Or.inl (hw _ (List.mem_of_getElem? (i := 15) rfl))) (by decide) (t := (.array .int)) (t' := (.array (.array .int))) (by decide) (by decide)))
  have f22 := f9.other W16 (Or.inr (slot_ne (Or.inl (hw _ (List.mem_of_getElem? (i := 23) rfl))) (Or.inl (hw _ (List.mem_of_getElem? (i := 15) rfl))) (by decide) (t := (.array (.array .long))) (t' := (.array (.array .int))) (by decide) (by decide)))
  have f23 := f10.other W16 (Or.inr (slot_ne (Or.inl (hw _ (List.mem_of_getElem? (i := 25) rfl))) (Or.inl (hw _ (List.mem_of_getElem? (i := 15) rfl))) (by decide) (t := (.array (.array .int))) (t' := (.array (.array .int))) (by decide) (by decide)))
  have f24 := f11.other W16 (Or.inr (slot_ne (Or.inl (hw _ (List.mem_of_getElem? (i := 27) rfl))) (Or.inl (hw _ (List.mem_of_getElem? (i := 15) rfl))) (by decide) (t := (.array .int)) (t' := (.array (.array .int))) (by decide) (by decide)))
  have f25 := f12.other W16 (Or.inr (slot_ne (Or.inl (hw _ (List.mem_of_getElem? (i := 29) rfl))) (Or.inl (hw _ (List.mem_of_getElem? (i := 15) rfl))) (by decide) (t := (.array .int)) (t' := (.array (.array .int))) (by decide) (by decide)))
  have f26 := f13.other W16 (Or.inr (slot_ne (Or.inl (hw _ (List.mem_of_getElem? (i := 31) rfl))) (Or.inl (hw _ (List.mem_of_getElem? (i := 15) rfl))) (by decide) (t := (.array (.array .long))) (t' := (.array (.array .int))) (by decide) (by decide)))
  have f27 := f14.other W16 (Or.inr (slot_ne (Or.inl (hw _ (List.mem_of_getElem? (i := 38) rfl))) (Or.inl (hw _ (List.mem_of_getElem? (i := 15) rfl))) (by decide) (t := .int) (t' := (.array (.array .int))) (by decide) (by decide)))
  have f28 := f15.other W16 (Or.inr (slot_ne (Or.inl (hw _ (List.mem_of_getElem? (i := 42) rfl))) (Or.inl (hw _ (List.mem_of_getElem? (i := 15) rfl))) (by decide) (t := .int) (t' := (.array (.array .int))) (by decide) (by decide)))
  have f29 := F3.other W16 (Nat.ne_of_gt lt_r_b3)
  show own_End p e below s _ _ _ (T16.setTop (mkF m 12 #[.val (.ref r)] []))
  refine own_go (fun t k => XS.aloadN X16.here hx rfl (hb hby d1_12) rfl rfl k) ?_
  show own_End p e below s _ _ _ (T16.setTop (mkF m 13 #[.val (.ref r)] [(.ref r)]))
  refine own_go (fun t k => XS.iconst X16.here hx rfl (hb hby d1_13) k) ?_
  show own_End p e below s _ _ _ (T16.setTop (mkF m 14 #[.val (.ref r)] [(.int (4 : Int32)), (.ref r)]))
  obtain ⟨T30, h30, k30, X30, e30, E30, A30, st30⟩ := newP X16 hx hZ (hw _ (List.mem_of_getElem? (i := 2) rfl)) e16 (g := (mkF m 14 #[.val (.ref r)] [(.int (4 : Int32)), (.ref r)])) rfl (hb hby d1_14) rfl (by decide) (cap := 4) (by decide) (by decide) (by decide) (by decide)
  obtain ⟨b30, gb30⟩ : ∃ z, z = h16.size := ⟨_, rfl⟩
  rw [← gb30] at A30 st30
  have F30 := own_F.new A30 (n := 4) (by decide) (by decide)
  have nb30 : n0 ≤ b30 := by rw [gb30]; exact Z16
  have Z30 : n0 ≤ h30.size := Nat.le_trans Z16 E30.1
  have lt_r_b30 : @LT.lt Nat _ r b30 := Nat.lt_of_lt_of_le f18.lt (Nat.le_of_eq gb30.symm)
  have lt_b3_b30 : @LT.lt Nat _ b3 b30 := Nat.lt_of_lt_of_le f29.lt (Nat.le_of_eq gb30.symm)
  have sb30 : h0.size ≤ b30 := by rw [gb30]; exact K17.1
  have K31 := K17.ext E30
  have f32 := f18.ext E30
  have f33 := f19.ext E30
  have f34 := f20.ext E30
  have f35 := f21.ext E30
  have f36 := f22.ext E30
  have f37 := f23.ext E30
  have f38 := f24.ext E30
  have f39 := f25.ext E30
  have f40 := f26.ext E30
  have f41 := f27.ext E30
  have f42 := f28.ext E30
  have f43 := f29.ext E30
  refine own_go st30 ?_
  show own_End p e below s _ _ _ (T30.setTop (mkF m 16 #[.val (.ref r)] [(.ref b30), (.ref r)]))
  obtain ⟨T44, h44, X44, e44, W44, st44⟩ := putF X30 hx hZ hown (host := "") (Or.inl (hw _ (List.mem_of_getElem? (i := 16) rfl))) Via.refl e30 f34 f32 (Or.inl (hw _ (List.mem_of_getElem? (i := 17) rfl))) (hw _ (List.mem_of_getElem? (i := 4) rfl)) (ty := (.array .int)) (by decide) rfl rfl (g := (mkF m 16 #[.val (.ref r)] [(.ref b30), (.ref r)])) rfl rfl (hb hby d1_16)
  have N44 := Fr.snoc X44 N16 nr
  have Z44 : n0 ≤ h44.size := by rw [W44.size]; exact Z30
  refine own_go st44 ?_
  have K45 := K31.wr W44 (Or.inl (List.mem_of_getElem? (i := 0) rfl))
  have f46 := f32.wr W44
  have f47 := f33.other W44 (Or.inr (slot_ne (Or.inl (hw _ (List.mem_of_getElem? (i := 15) rfl))) (Or.inl (hw _ (List.mem_of_getElem? (i := 17) rfl))) (by decide) (t := (.array (.array .int))) (t' := (.array .int)) (by decide) (by decide)))
  have f48 := f34.same W44
  have f49 := f35.other W44 (Or.inr (slot_ne (Or.inl (hw _ (List.mem_of_getElem? (i := 19) rfl))) (Or.inl (hw _ (List.mem_of_getElem? (i := 17) rfl))) (by decide) (t := (.array .int)) (t' := (.array .int)) (by decide) (by decide)))
  have f50 := f36.other W44 (Or.inr (slot_ne (Or.inl (hw _ (List.mem_of_getElem? (i := 23) rfl))) (Or.inl (hw _ (List.mem_of_getElem? (i := 17) rfl))) (by decide) (t := (.array (.array .long))) (t' := (.array .int)) (by decide) (by decide)))
  have f51 := f37.other W44 (Or.inr (slot_ne (Or.inl (hw _ (List.mem_of_getElem? (i := 25) rfl))) (Or.inl (hw _ (List.mem_of_getElem? (i := 17) rfl))) (by decide) (t := (.array (.array .int))) (t' := (.array .int)) (by decide) (by decide)))
  have f52 := f38.other W44 (Or.inr (slot_ne (Or.inl (hw _ (List.mem_of_getElem? (i := 27) rfl))) (Or.inl (hw _ (List.mem_of_getElem? (i := 17) rfl))) (by decide) (t := (.array .int)) (t' := (.array .int)) (by decide) (by decide)))
  have f53 := f39.other W44 (Or.inr (slot_ne (Or.inl (hw _ (List.mem_of_getElem? (i := 29) rfl))) (Or.inl (hw _ (List.mem_of_getElem? (i := 17) rfl))) (by decide) (t := (.array .int)) (t' := (.array .int)) (by decide) (by decide)))
  have f54 := f40.other W44 (Or.inr (slot_ne (Or.inl (hw _ (List.mem_of_getElem? (i := 31) rfl))) (Or.inl (hw _ (List.mem_of_getElem? (i := 17) rfl))) (by decide) (t := (.array (.array .long))) (t' := (.array .int)) (by decide) (by decide)))
  have f55 := f41.other W44 (Or.inr (slot_ne (Or.inl (hw _ (List.mem_of_getElem? (i := 38) rfl))) (Or.inl (hw _ (List.mem_of_getElem? (i := 17) rfl))) (by decide) (t := .int) (t' := (.array .int)) (by decide) (by decide)))
  have f56 := f42.other W44 (Or.inr (slot_ne (Or.inl (hw _ (List.mem_of_getElem? (i := 42) rfl))) (Or.inl (hw _ (List.mem_of_getElem? (i := 17) rfl))) (by decide) (t := .int) (t' := (.array .int)) (by decide) (by decide)))
  have f57 := f43.other W44 (Nat.ne_of_gt lt_r_b3)
  have f58 := F30.other W44 (Nat.ne_of_gt lt_r_b30)
  show own_End p e below s _ _ _ (T44.setTop (mkF m 19 #[.val (.ref r)] []))
  refine own_go (fun t k => XS.aloadN X44.here hx rfl (hb hby d1_19) rfl rfl k) ?_
  show own_End p e below s _ _ _ (T44.setTop (mkF m 20 #[.val (.ref r)] [(.ref r)]))
  refine own_go (fun t k => XS.iconst X44.here hx rfl (hb hby d1_20) k) ?_
  show own_End p e below s _ _ _ (T44.setTop (mkF m 21 #[.val (.ref r)] [(.int (4 : Int32)), (.ref r)]))
  obtain ⟨T59, h59, k59, X59, e59, E59, A59, st59⟩ := newP X44 hx hZ (hw _ (List.mem_of_getElem? (i := 2) rfl)) e44 (g := (mkF m 21 #[.val (.ref r)] [(.int (4 : Int32)), (.ref r)])) rfl (hb hby d1_21) rfl (by decide) (cap := 4) (by decide) (by decide) (by decide) (by decide)
  obtain ⟨b59, gb59⟩ : ∃ z, z = h44.size := ⟨_, rfl⟩
  rw [← gb59] at A59 st59
  have F59 := own_F.new A59 (n := 4) (by decide) (by decide)
  have nb59 : n0 ≤ b59 := by rw [gb59]; exact Z44
  have Z59 : n0 ≤ h59.size := Nat.le_trans Z44 E59.1
  have lt_r_b59 : @LT.lt Nat _ r b59 := Nat.lt_of_lt_of_le f46.lt (Nat.le_of_eq gb59.symm)
  have lt_b3_b59 : @LT.lt Nat _ b3 b59 := Nat.lt_of_lt_of_le f57.lt (Nat.le_of_eq gb59.symm)
  have lt_b30_b59 : @LT.lt Nat _ b30 b59 := Nat.lt_of_lt_of_le f58.lt (Nat.le_of_eq gb59.symm)
  have sb59 : h0.size ≤ b59 := by rw [gb59]; exact K45.1
  have K60 := K45.ext E59
  have f61 := f46.ext E59
  have f62 := f47.ext E59
  have f63 := f48.ext E59
  have f64 := f49.ext E59
  have f65 := f50.ext E59
  have f66 := f51.ext E59
  have f67 := f52.ext E59
  have f68 := f53.ext E59
  have f69 := f54.ext E59
  have f70 := f55.ext E59
  have f71 := f56.ext E59
  have f72 := f57.ext E59
  have f73 := f58.ext E59
  refine own_go st59 ?_
  show own_End p e below s _ _ _ (T59.setTop (mkF m 23 #[.val (.ref r)] [(.ref b59), (.ref r)]))
  obtain ⟨T74, h74, X74, e74, W74, st74⟩ := putF X59 hx hZ hown (host := "") (Or.inl (hw _ (List.mem_of_getElem? (i := 18) rfl))) Via.refl e59 f64 f61 (Or.inl (hw _ (List.mem_of_getElem? (i := 19) rfl))) (hw _ (List.mem_of_getElem? (i := 4) rfl)) (ty := (.array .int)) (by decide) rfl rfl (g := (mkF m 23 #[.val (.ref r)] [(.ref b59), (.ref r)])) rfl rfl (hb hby d1_23)
  have N74 := Fr.snoc X74 N44 nr
  have Z74 : n0 ≤ h74.size := by rw [W74.size]; exact Z59
  refine own_go st74 ?_
  have K75 := K60.wr W74 (Or.inl (List.mem_of_getElem? (i := 0) rfl))
  have f76 := f61.wr W74
  have f77 := f62.other W74 (Or.inr (slot_ne (Or.inl (hw _ (List.mem_of_getElem? (i := 15) rfl))) (Or.inl (hw _ (List.mem_of_getElem? (i := 19) rfl))) (by decide) (t := (.array (.array .int))) (t' := (.array .int)) (by decide) (by decide)))
  have f78 := f63.other W74 (Or.inr (slot_ne (Or.inl (hw _ (List.mem_of_getElem? (i := 17) rfl))) (Or.inl (hw _ (List.mem_of_getElem? (i := 19) rfl))) (by decide) (t := (.array .int)) (t' := (.array .int)) (by decide) (by decide)))
  have f79 := f64.same W74
  have f80 := f65.other W74 (Or.inr (slot_ne (Or.inl (hw _ (List.mem_of_getElem? (i := 23) rfl))) (Or.inl (hw _ (List.mem_of_getElem? (i := 19) rfl))) (by decide) (t := (.array (.array .long))) (t' := (.array .int)) (by decide) (by decide)))
  have f81 := f66.other W74 (Or.inr (slot_ne (Or.inl (hw _ (List.mem_of_getElem? (i := 25) rfl))) (Or.inl (hw _ (List.mem_of_getElem? (i := 19) rfl))) (by decide) (t := (.array (.array .int))) (t' := (.array .int)) (by decide) (by decide)))
  have f82 := f67.other W74 (Or.inr (slot_ne (Or.inl (hw _ (List.mem_of_getElem? (i := 27) rfl))) (Or.inl (hw _ (List.mem_of_getElem? (i := 19) rfl))) (by decide) (t := (.array .int)) (t' := (.array .int)) (by decide) (by decide)))
  have f83 := f68.other W74 (Or.inr (slot_ne (Or.inl (hw _ (List.mem_of_getElem? (i := 29) rfl))) (Or.inl (hw _ (List.mem_of_getElem? (i := 19) rfl))) (by decide) (t := (.array .int)) (t' := (.array .int)) (by decide) (by decide)))
  have f84 := f69.other W74 (Or.inr (slot_ne (Or.inl (hw _ (List.mem_of_getElem? (i := 31) rfl))) (Or.inl (hw _ (List.mem_of_getElem? (i := 19) rfl))) (by decide) (t := (.array (.array .long))) (t' := (.array .int)) (by decide) (by decide)))
  have f85 := f70.other W74 (Or.inr (slot_ne (Or.inl (hw _ (List.mem_of_getElem? (i := 38) rfl))) (Or.inl (hw _ (List.mem_of_getElem? (i := 19) rfl))) (by decide) (t := .int) (t' := (.array .int)) (by decide) (by decide)))
  have f86 := f71.other W74 (Or.inr (slot_ne (Or.inl (hw _ (List.mem_of_getElem? (i := 42) rfl))) (Or.inl (hw _ (List.mem_of_getElem? (i := 19) rfl))) (by decide) (t := .int) (t' := (.array .int)) (by decide) (by decide)))
  have f87 := f72.other W74 (Nat.ne_of_gt lt_r_b3)
  have f88 := f73.other W74 (Nat.ne_of_gt lt_r_b30)
  have f89 := F59.other W74 (Nat.ne_of_gt lt_r_b59)
  show own_End p e below s _ _ _ (T74.setTop (mkF m 26 #[.val (.ref r)] []))
  refine own_go (fun t k => XS.aloadN X74.here hx rfl (hb hby d1_26) rfl rfl k) ?_
  show own_End p e below s _ _ _ (T74.setTop (mkF m 27 #[.val (.ref r)] [(.ref r)]))
  refine own_go (fun t k => XS.iconst X74.here hx rfl (hb hby d1_27) k) ?_
  show own_End p e below s _ _ _ (T74.setTop (mkF m 28 #[.val (.ref r)] [(.int (4 : Int32)), (.ref r)]))
  obtain ⟨T90, h90, k90, X90, e90, E90, A90, Ex90, O90, st90⟩ := newRA X74 hx hZ (ty := .long) hown (C := "[J") (by decide) (hw _ (List.mem_of_getElem? (i := 20) rfl)) (hw _ (List.mem_of_getElem? (i := 21) rfl)) e74 (g := (mkF m 28 #[.val (.ref r)] [(.int (4 : Int32)), (.ref r)])) rfl (hb hby d1_28) rfl (by decide) (cap := 4) (by decide) (by decide) (by decide) (by decide) (ad := "[[J") (by decide)
  obtain ⟨b90, gb90⟩ : ∃ z, z = h74.size := ⟨_, rfl⟩
  rw [← gb90] at A90 st90
  have F90 := own_F.new A90 (n := 4) (by decide) (by decide)
  have nb90 : n0 ≤ b90 := by rw [gb90]; exact Z74
  have Z90 : n0 ≤ h90.size := Nat.le_trans Z74 E90.1
  have lt_r_b90 : @LT.lt Nat _ r b90 := Nat.lt_of_lt_of_le f76.lt (Nat.le_of_eq gb90.symm)
  have lt_b3_b90 : @LT.lt Nat _ b3 b90 := Nat.lt_of_lt_of_le f87.lt (Nat.le_of_eq gb90.symm)
  have lt_b30_b90 : @LT.lt Nat _ b30 b90 := Nat.lt_of_lt_of_le f88.lt (Nat.le_of_eq gb90.symm)
  have lt_b59_b90 : @LT.lt Nat _ b59 b90 := Nat.lt_of_lt_of_le f89.lt (Nat.le_of_eq gb90.symm)
  have sb90 : h0.size ≤ b90 := by rw [gb90]; exact K75.1
  have K91 := K75.ext E90
  have f92 := f76.ext E90
  have f93 := f77.ext E90
  have f94 := f78.ext E90
  have f95 := f79.ext E90
  have f96 := f80.ext E90
  have f97 := f81.ext E90
  have f98 := f82.ext E90
  have f99 := f83.ext E90
  have f100 := f84.ext E90
  have f101 := f85.ext E90
  have f102 := f86.ext E90
  have f103 := f87.ext E90
  have f104 := f88.ext E90
  have f105 := f89.ext E90
  refine own_go st90 ?_
  show own_End p e below s _ _ _ (T90.setTop (mkF m 31 #[.val (.ref r)] [(.ref b90), (.ref r)]))
  obtain ⟨T106, h106, X106, e106, W106, st106⟩ := putF X90 hx hZ hown (host := "") (Or.inl (hw _ (List.mem_of_getElem? (i := 22) rfl))) Via.refl e90 f96 f92 (Or.inl (hw _ (List.mem_of_getElem? (i := 23) rfl))) (hw _ (List.mem_of_getElem? (i := 4) rfl)) (ty := (.array (.array .long))) (by decide) rfl rfl (g := (mkF m 31 #[.val (.ref r)] [(.ref b90), (.ref r)])) rfl rfl (hb hby d1_31)
  have N106 := Fr.snoc X106 N74 nr
  have Z106 : n0 ≤ h106.size := by rw [W106.size]; exact Z90
  refine own_go st106 ?_
  have K107 := K91.wr W106 (Or.inl (List.mem_of_getElem? (i := 0) rfl))
  have f108 := f92.wr W106
  have f109 := f93.other W106 (Or.inr (slot_ne (Or.inl (hw _ (List.mem_of_getElem? (i := 15) rfl))) (Or.inl (hw _ (List.mem_of_getElem? (i := 23) rfl))) (by decide) (t := (.array (.array .int))) (t' := (.array (.array .long))) (by decide) (by decide)))
  have f110 := f94.other W106 (Or.inr (slot_ne (Or.inl (hw _ (List.mem_of_getElem? (i := 17) rfl))) (Or.inl (hw _ (List.mem_of_getElem? (i := 23) rfl))) (by decide) (t := (.array .int)) (t' := (.array (.array .long))) (by decide) (by decide)))
  have f111 := f95.other W106 (Or.inr (slot_ne (Or.inl (hw _ (List.mem_of_getElem? (i := 19) rfl))) (Or.inl (hw _ (List.mem_of_getElem? (i := 23) rfl))) (by decide) (t := (.array .int)) (t' := (.array (.array .long))) (by decide) (by decide)))
  have f112 := f96.same W106
  have f113 := f97.other W106 (Or.inr (slot_ne (Or.inl (hw _ (List.mem_of_getElem? (i := 25) rfl))) (Or.inl (hw _ (List.mem_of_getElem? (i := 23) rfl))) (by decide) (t := (.array (.array .int))) (t' := (.array (.array .long))) (by decide) (by decide)))
  have f114 := f98.other W106 (Or.inr (slot_ne (Or.inl (hw _ (List.mem_of_getElem? (i := 27) rfl))) (Or.inl (hw _ (List.mem_of_getElem? (i := 23) rfl))) (by decide) (t := (.array .int)) (t' := (.array (.array .long))) (by decide) (by decide)))
  have f115 := f99.other W106 (Or.inr (slot_ne (Or.inl (hw _ (List.mem_of_getElem? (i := 29) rfl))) (Or.inl (hw _ (List.mem_of_getElem? (i := 23) rfl))) (by decide) (t := (.array .int)) (t' := (.array (.array .long))) (by decide) (by decide)))
  have f116 := f100.other W106 (Or.inr (slot_ne (Or.inl (hw _ (List.mem_of_getElem? (i := 31) rfl))) (Or.inl (hw _ (List.mem_of_getElem? (i := 23) rfl))) (by decide) (t := (.array (.array .long))) (t' := (.array (.array .long))) (by decide) (by decide)))
  have f117 := f101.other W106 (Or.inr (slot_ne (Or.inl (hw _ (List.mem_of_getElem? (i := 38) rfl))) (Or.inl (hw _ (List.mem_of_getElem? (i := 23) rfl))) (by decide) (t := .int) (t' := (.array (.array .long))) (by decide) (by decide)))
  have f118 := f102.other W106 (Or.inr (slot_ne (Or.inl (hw _ (List.mem_of_getElem? (i := 42) rfl))) (Or.inl (hw _ (List.mem_of_getElem? (i := 23) rfl))) (by decide) (t := .int) (t' := (.array (.array .long))) (by decide) (by decide)))
  have f119 := f103.other W106 (Nat.ne_of_gt lt_r_b3)
  have f120 := f104.other W106 (Nat.ne_of_gt lt_r_b30)
  have f121 := f105.other W106 (Nat.ne_of_gt lt_r_b59)
  have f122 := F90.other W106 (Nat.ne_of_gt lt_r_b90)
  show own_End p e below s _ _ _ (T106.setTop (mkF m 34 #[.val (.ref r)] []))
  refine own_go (fun t k => XS.aloadN X106.here hx rfl (hb hby d1_34) rfl rfl k) ?_
  show own_End p e below s _ _ _ (T106.setTop (mkF m 35 #[.val (.ref r)] [(.ref r)]))
  refine own_go (fun t k => XS.iconst X106.here hx rfl (hb hby d1_35) k) ?_
  show own_End p e below s _ _ _ (T106.setTop (mkF m 36 #[.val (.ref r)] [(.int (4 : Int32)), (.ref r)]))
  obtain ⟨T123, h123, k123, X123, e123, E123, A123, Ex123, O123, st123⟩ := newRA X106 hx hZ (ty := .int) hown (C := "[I") (by decide) (hw _ (List.mem_of_getElem? (i := 12) rfl)) (hw _ (List.mem_of_getElem? (i := 13) rfl)) e106 (g := (mkF m 36 #[.val (.ref r)] [(.int (4 : Int32)), (.ref r)])) rfl (hb hby d1_36) rfl (by decide) (cap := 4) (by decide) (by decide) (by decide) (by decide) (ad := "[[I") (by decide)
  obtain ⟨b123, gb123⟩ : ∃ z, z = h106.size := ⟨_, rfl⟩
  rw [← gb123] at A123 st123
  have F123 := own_F.new A123 (n := 4) (by decide) (by decide)
  have nb123 : n0 ≤ b123 := by rw [gb123]; exact Z106
  have Z123 : n0 ≤ h123.size := Nat.le_trans Z106 E123.1
  have lt_r_b123 : @LT.lt Nat _ r b123 := Nat.lt_of_lt_of_le f108.lt (Nat.le_of_eq gb123.symm)
  have lt_b3_b123 : @LT.lt Nat _ b3 b123 := Nat.lt_of_lt_of_le f119.lt (Nat.le_of_eq gb123.symm)
  have lt_b30_b123 : @LT.lt Nat _ b30 b123 := Nat.lt_of_lt_of_le f120.lt (Nat.le_of_eq gb123.symm)
  have lt_b59_b123 : @LT.lt Nat _ b59 b123 := Nat.lt_of_lt_of_le f121.lt (Nat.le_of_eq gb123.symm)
  have lt_b90_b123 : @LT.lt Nat _ b90 b123 := Nat.lt_of_lt_of_le f122.lt (Nat.le_of_eq gb123.symm)
  have sb123 : h0.size ≤ b123 := by rw [gb123]; exact K107.1
  have K124 := K107.ext E123
  have f125 := f108.ext E123
  have f126 := f109.ext E123
  have f127 := f110.ext E123
  have f128 := f111.ext E123
  have f129 := f112.ext E123
  have f130 := f113.ext E123
  have f131 := f114.ext E123
  have f132 := f115.ext E123
  have f133 := f116.ext E123
  have f134 := f117.ext E123
  have f135 := f118.ext E123
  have f136 := f119.ext E123
  have f137 := f120.ext E123
  have f138 := f121.ext E123
  have f139 := f122.ext E123
  refine own_go st123 ?_
  show own_End p e below s _ _ _ (T123.setTop (mkF m 39 #[.val (.ref r)] [(.ref b123), (.ref r)]))
  obtain ⟨T140, h140, X140, e140, W140, st140⟩ := putF X123 hx hZ hown (host := "") (Or.inl (hw _ (List.mem_of_getElem? (i := 24) rfl))) Via.refl e123 f130 f125 (Or.inl (hw _ (List.mem_of_getElem? (i := 25) rfl))) (hw _ (List.mem_of_getElem? (i := 4) rfl)) (ty := (.array (.array .int))) (by decide) rfl rfl (g := (mkF m 39 #[.val (.ref r)] [(.ref b123), (.ref r)])) rfl rfl (hb hby d1_39)
  have N140 := Fr.snoc X140 N106 nr
  have Z140 : n0 ≤ h140.size := by rw [W140.size]; exact Z123
  refine own_go st140 ?_
  have K141 := K124.wr W140 (Or.inl (List.mem_of_getElem? (i := 0) rfl))
  have f142 := f125.wr W140
  have f143 := f126.other W140 (Or.inr (slot_ne (Or.inl (hw _ (List.mem_of_getElem? (i := 15) rfl))) (Or.inl (hw _ (List.mem_of_getElem? (i := 25) rfl))) (by decide) (t := (.array (.array .int))) (t' := (.array (.array .int))) (by decide) (by decide)))
  have f144 := f127.other W140 (Or.inr (slot_ne (Or.inl (hw _ (List.mem_of_getElem? (i := 17) rfl))) (Or.inl (hw _ (List.mem_of_getElem? (i := 25) rfl))) (by decide) (t := (.array .int)) (t' := (.array (.array .int))) (by decide) (by decide)))
  have f145 := f128.other W140 (Or.inr (slot_ne (Or.inl (hw _ (List.mem_of_getElem? (i := 19) rfl))) (Or.inl (hw _ (List.mem_of_getElem? (i := 25) rfl))) (by decide) (t := (.array .int)) (t' := (.array (.array .int))) (by decide) (by decide)))
  have f146 := f129.other W140 (Or.inr (slot_ne (Or.inl (hw _ (List.mem_of_getElem? (i := 23) rfl))) (Or.inl (hw _ (List.mem_of_getElem? (i := 25) rfl))) (by decide) (t := (.array (.array .long))) (t' := (.array (.array .int))) (by decide) (by decide)))
  have f147 := f130.same W140
  have f148 := f131.other W140 (Or.inr (slot_ne (Or.inl (hw _ (List.mem_of_getElem? (i := 27) rfl))) (Or.inl (hw _ (List.mem_of_getElem? (i := 25) rfl))) (by decide) (t := (.array .int)) (t' := (.array (.array .int))) (by decide) (by decide)))
  have f149 := f132.other W140 (Or.inr (slot_ne (Or.inl (hw _ (List.mem_of_getElem? (i := 29) rfl))) (Or.inl (hw _ (List.mem_of_getElem? (i := 25) rfl))) (by decide) (t := (.array .int)) (t' := (.array (.array .int))) (by decide) (by decide)))
  have f150 := f133.other W140 (Or.inr (slot_ne (Or.inl (hw _ (List.mem_of_getElem? (i := 31) rfl))) (Or.inl (hw _ (List.mem_of_getElem? (i := 25) rfl))) (by decide) (t := (.array (.array .long))) (t' := (.array (.array .int))) (by decide) (by decide)))
  have f151 := f134.other W140 (Or.inr (slot_ne (Or.inl (hw _ (List.mem_of_getElem? (i := 38) rfl))) (Or.inl (hw _ (List.mem_of_getElem? (i := 25) rfl))) (by decide) (t := .int) (t' := (.array (.array .int))) (by decide) (by decide)))
  have f152 := f135.other W140 (Or.inr (slot_ne (Or.inl (hw _ (List.mem_of_getElem? (i := 42) rfl))) (Or.inl (hw _ (List.mem_of_getElem? (i := 25) rfl))) (by decide) (t := .int) (t' := (.array (.array .int))) (by decide) (by decide)))
  have f153 := f136.other W140 (Nat.ne_of_gt lt_r_b3)
  have f154 := f137.other W140 (Nat.ne_of_gt lt_r_b30)
  have f155 := f138.other W140 (Nat.ne_of_gt lt_r_b59)
  have f156 := f139.other W140 (Nat.ne_of_gt lt_r_b90)
  have f157 := F123.other W140 (Nat.ne_of_gt lt_r_b123)
  show own_End p e below s _ _ _ (T140.setTop (mkF m 42 #[.val (.ref r)] []))
  refine own_go (fun t k => XS.aloadN X140.here hx rfl (hb hby d1_42) rfl rfl k) ?_
  show own_End p e below s _ _ _ (T140.setTop (mkF m 43 #[.val (.ref r)] [(.ref r)]))
  refine own_go (fun t k => XS.iconst X140.here hx rfl (hb hby d1_43) k) ?_
  show own_End p e below s _ _ _ (T140.setTop (mkF m 44 #[.val (.ref r)] [(.int (4 : Int32)), (.ref r)]))
  obtain ⟨T158, h158, k158, X158, e158, E158, A158, st158⟩ := newP X140 hx hZ (hw _ (List.mem_of_getElem? (i := 2) rfl)) e140 (g := (mkF m 44 #[.val (.ref r)] [(.int (4 : Int32)), (.ref r)])) rfl (hb hby d1_44) rfl (by decide) (cap := 4) (by decide) (by decide) (by decide) (by decide)
  obtain ⟨b158, gb158⟩ : ∃ z, z = h140.size := ⟨_, rfl⟩
  rw [← gb158] at A158 st158
  have F158 := own_F.new A158 (n := 4) (by decide) (by decide)
  have nb158 : n0 ≤ b158 := by rw [gb158]; exact Z140
  have Z158 : n0 ≤ h158.size := Nat.le_trans Z140 E158.1
  have lt_r_b158 : @LT.lt Nat _ r b158 := Nat.lt_of_lt_of_le f142.lt (Nat.le_of_eq gb158.symm)
  have lt_b3_b158 : @LT.lt Nat _ b3 b158 := Nat.lt_of_lt_of_le f153.lt (Nat.le_of_eq gb158.symm)
  have lt_b30_b158 : @LT.lt Nat _ b30 b158 := Nat.lt_of_lt_of_le f154.lt (Nat.le_of_eq gb158.symm)
  have lt_b59_b158 : @LT.lt Nat _ b59 b158 := Nat.lt_of_lt_of_le f155.lt (Nat.le_of_eq gb158.symm)
  have lt_b90_b158 : @LT.lt Nat _ b90 b158 := Nat.lt_of_lt_of_le f156.lt (Nat.le_of_eq gb158.symm)
  have lt_b123_b158 : @LT.lt Nat _ b123 b158 := Nat.lt_of_lt_of_le f157.lt (Nat.le_of_eq gb158.symm)
  have sb158 : h0.size ≤ b158 := by rw [gb158]; exact K141.1
  have K159 := K141.ext E158
  have f160 := f142.ext E158
  have f161 := f143.ext E158
  have f162 := f144.ext E158
  have f163 := f145.ext E158
  have f164 := f146.ext E158
  have f165 := f147.ext E158
  have f166 := f148.ext E158
  have f167 := f149.ext E158
  have f168 := f150.ext E158
  have f169 := f151.ext E158
  have f170 := f152.ext E158
  have f171 := f153.ext E158
  have f172 := f154.ext E158
  have f173 := f155.ext E158
  have f174 := f156.ext E158
  have f175 := f157.ext E158
  refine own_go st158 ?_
  show own_End p e below s _ _ _ (T158.setTop (mkF m 46 #[.val (.ref r)] [(.ref b158), (.ref r)]))
  obtain ⟨T176, h176, X176, e176, W176, st176⟩ := putF X158 hx hZ hown (host := "") (Or.inl (hw _ (List.mem_of_getElem? (i := 26) rfl))) Via.refl e158 f166 f160 (Or.inl (hw _ (List.mem_of_getElem? (i := 27) rfl))) (hw _ (List.mem_of_getElem? (i := 4) rfl)) (ty := (.array .int)) (by decide) rfl rfl (g := (mkF m 46 #[.val (.ref r)] [(.ref b158), (.ref r)])) rfl rfl (hb hby d1_46)
  have N176 := Fr.snoc X176 N140 nr
  have Z176 : n0 ≤ h176.size := by rw [W176.size]; exact Z158
  refine own_go st176 ?_
  have K177 := K159.wr W176 (Or.inl (List.mem_of_getElem? (i := 0) rfl))
  have f178 := f160.wr W176
  have f179 := f161.other W176 (Or.inr (slot_ne (Or.inl (hw _ (List.mem_of_getElem? (i := 15) rfl))) (Or.inl (hw _ (List.mem_of_getElem? (i := 27) rfl))) (by decide) (t := (.array (.array .int))) (t' := (.array .int)) (by decide) (by decide)))
  have f180 := f162.other W176 (Or.inr (slot_ne (Or.inl (hw _ (List.mem_of_getElem? (i := 17) rfl))) (Or.inl (hw _ (List.mem_of_getElem? (i := 27) rfl))) (by decide) (t := (.array .int)) (t' := (.array .int)) (by decide) (by decide)))
  have f181 := f163.other W176 (Or.inr (slot_ne (Or.inl (hw _ (List.mem_of_getElem? (i := 19) rfl))) (Or.inl (hw _ (List.mem_of_getElem? (i := 27) rfl))) (by decide) (t := (.array .int)) (t' := (.array .int)) (by decide) (by decide)))
  have f182 := f164.other W176 (Or.inr (slot_ne (Or.inl (hw _ (List.mem_of_getElem? (i := 23) rfl))) (Or.inl (hw _ (List.mem_of_getElem? (i := 27) rfl))) (by decide) (t := (.array (.array .long))) (t' := (.array .int)) (by decide) (by decide)))
  have f183 := f165.other W176 (Or.inr (slot_ne (Or.inl (hw _ (List.mem_of_getElem? (i := 25) rfl))) (Or.inl (hw _ (List.mem_of_getElem? (i := 27) rfl))) (by decide) (t := (.array (.array .int))) (t' := (.array .int)) (by decide) (by decide)))
  have f184 := f166.same W176
  have f185 := f167.other W176 (Or.inr (slot_ne (Or.inl (hw _ (List.mem_of_getElem? (i := 29) rfl))) (Or.inl (hw _ (List.mem_of_getElem? (i := 27) rfl))) (by decide) (t := (.array .int)) (t' := (.array .int)) (by decide) (by decide)))
  have f186 := f168.other W176 (Or.inr (slot_ne (Or.inl (hw _ (List.mem_of_getElem? (i := 31) rfl))) (Or.inl (hw _ (List.mem_of_getElem? (i := 27) rfl))) (by decide) (t := (.array (.array .long))) (t' := (.array .int)) (by decide) (by decide)))
  have f187 := f169.other W176 (Or.inr (slot_ne (Or.inl (hw _ (List.mem_of_getElem? (i := 38) rfl))) (Or.inl (hw _ (List.mem_of_getElem? (i := 27) rfl))) (by decide) (t := .int) (t' := (.array .int)) (by decide) (by decide)))
  have f188 := f170.other W176 (Or.inr (slot_ne (Or.inl (hw _ (List.mem_of_getElem? (i := 42) rfl))) (Or.inl (hw _ (List.mem_of_getElem? (i := 27) rfl))) (by decide) (t := .int) (t' := (.array .int)) (by decide) (by decide)))
  have f189 := f171.other W176 (Nat.ne_of_gt lt_r_b3)
  have f190 := f172.other W176 (Nat.ne_of_gt lt_r_b30)
  have f191 := f173.other W176 (Nat.ne_of_gt lt_r_b59)
  have f192 := f174.other W176 (Nat.ne_of_gt lt_r_b90)
  have f193 := f175.other W176 (Nat.ne_of_gt lt_r_b123)
  have f194 := F158.other W176 (Nat.ne_of_gt lt_r_b158)
  show own_End p e below s _ _ _ (T176.setTop (mkF m 49 #[.val (.ref r)] []))
  refine own_go (fun t k => XS.aloadN X176.here hx rfl (hb hby d1_49) rfl rfl k) ?_
  show own_End p e below s _ _ _ (T176.setTop (mkF m 50 #[.val (.ref r)] [(.ref r)]))
  refine own_go (fun t k => XS.iconst X176.here hx rfl (hb hby d1_50) k) ?_
  show own_End p e below s _ _ _ (T176.setTop (mkF m 51 #[.val (.ref r)] [(.int (4 : Int32)), (.ref r)]))
  obtain ⟨T195, h195, k195, X195, e195, E195, A195, st195⟩ := newP X176 hx hZ (hw _ (List.mem_of_getElem? (i := 2) rfl)) e176 (g := (mkF m 51 #[.val (.ref r)] [(.int (4 : Int32)), (.ref r)])) rfl (hb hby d1_51) rfl (by decide) (cap := 4) (by decide) (by decide) (by decide) (by decide)
  obtain ⟨b195, gb195⟩ : ∃ z, z = h176.size := ⟨_, rfl⟩
  rw [← gb195] at A195 st195
  have F195 := own_F.new A195 (n := 4) (by decide) (by decide)
  have nb195 : n0 ≤ b195 := by rw [gb195]; exact Z176
  have Z195 : n0 ≤ h195.size := Nat.le_trans Z176 E195.1
  have lt_r_b195 : @LT.lt Nat _ r b195 := Nat.lt_of_lt_of_le f178.lt (Nat.le_of_eq gb195.symm)
  have lt_b3_b195 : @LT.lt Nat _ b3 b195 := Nat.lt_of_lt_of_le f189.lt (Nat.le_of_eq gb195.symm)
  have lt_b30_b195 : @LT.lt Nat _ b30 b195 := Nat.lt_of_lt_of_le f190.lt (Nat.le_of_eq gb195.symm)
  have lt_b59_b195 : @LT.lt Nat _ b59 b195 := Nat.lt_of_lt_of_le f191.lt (Nat.le_of_eq gb195.symm)
  have lt_b90_b195 : @LT.lt Nat _ b90 b195 := Nat.lt_of_lt_of_le f192.lt (Nat.le_of_eq gb195.symm)
  have lt_b123_b195 : @LT.lt Nat _ b123 b195 := Nat.lt_of_lt_of_le f193.lt (Nat.le_of_eq gb195.symm)
  have lt_b158_b195 : @LT.lt Nat _ b158 b195 := Nat.lt_of_lt_of_le f194.lt (Nat.le_of_eq gb195.symm)
  have sb195 : h0.size ≤ b195 := by rw [gb195]; exact K177.1
  have K196 := K177.ext E195
  have f197 := f178.ext E195
  have f198 := f179.ext E195
  have f199 := f180.ext E195
  have f200 := f181.ext E195
  have f201 := f182.ext E195
  have f202 := f183.ext E195
  have f203 := f184.ext E195
  have f204 := f185.ext E195
  have f205 := f186.ext E195
  have f206 := f187.ext E195
  have f207 := f188.ext E195
  have f208 := f189.ext E195
  have f209 := f190.ext E195
  have f210 := f191.ext E195
  have f211 := f192.ext E195
  have f212 := f193.ext E195
  have f213 := f194.ext E195
  refine own_go st195 ?_
  show own_End p e below s _ _ _ (T195.setTop (mkF m 53 #[.val (.ref r)] [(.ref b195), (.ref r)]))
  obtain ⟨T214, h214, X214, e214, W214, st214⟩ := putF X195 hx hZ hown (host := "") (Or.inl (hw _ (List.mem_of_getElem? (i := 28) rfl))) Via.refl e195 f204 f197 (Or.inl (hw _ (List.mem_of_getElem? (i := 29) rfl))) (hw _ (List.mem_of_getElem? (i := 4) rfl)) (ty := (.array .int)) (by decide) rfl rfl (g := (mkF m 53 #[.val (.ref r)] [(.ref b195), (.ref r)])) rfl rfl (hb hby d1_53)
  have N214 := Fr.snoc X214 N176 nr
  have Z214 : n0 ≤ h214.size := by rw [W214.size]; exact Z195
  refine own_go st214 ?_
  have K215 := K196.wr W214 (Or.inl (List.mem_of_getElem? (i := 0) rfl))
  have f216 := f197.wr W214
  have f217 := f198.other W214 (Or.inr (slot_ne (Or.inl (hw _ (List.mem_of_getElem? (i := 15) rfl))) (Or.inl (hw _ (List.mem_of_getElem? (i := 29) rfl))) (by decide) (t := (.array (.array .int))) (t' := (.array .int)) (by decide) (by decide)))
  have f218 := f199.other W214 (Or.inr (slot_ne (Or.inl (hw _ (List.mem_of_getElem? (i := 17) rfl))) (Or.inl (hw _ (List.mem_of_getElem? (i := 29) rfl))) (by decide) (t := (.array .int)) (t' := (.array .int)) (by decide) (by decide)))
  have f219 := f200.other W214 (Or.inr (slot_ne (Or.inl (hw _ (List.mem_of_getElem? (i := 19) rfl))) (Or.inl (hw _ (List.mem_of_getElem? (i := 29) rfl))) (by decide) (t := (.array .int)) (t' := (.array .int)) (by decide) (by decide)))
  have f220 := f201.other W214 (Or.inr (slot_ne (Or.inl (hw _ (List.mem_of_getElem? (i := 23) rfl))) (Or.inl (hw _ (List.mem_of_getElem? (i := 29) rfl))) (by decide) (t := (.array (.array .long))) (t' := (.array .int)) (by decide) (by decide)))
  have f221 := f202.other W214 (Or.inr (slot_ne (Or.inl (hw _ (List.mem_of_getElem? (i := 25) rfl))) (Or.inl (hw _ (List.mem_of_getElem? (i := 29) rfl))) (by decide) (t := (.array (.array .int))) (t' := (.array .int)) (by decide) (by decide)))
  have f222 := f203.other W214 (Or.inr (slot_ne (Or.inl (hw _ (List.mem_of_getElem? (i := 27) rfl))) (Or.inl (hw _ (List.mem_of_getElem? (i := 29) rfl))) (by decide) (t := (.array .int)) (t' := (.array .int)) (by decide) (by decide)))
  have f223 := f204.same W214
  have f224 := f205.other W214 (Or.inr (slot_ne (Or.inl (hw _ (List.mem_of_getElem? (i := 31) rfl))) (Or.inl (hw _ (List.mem_of_getElem? (i := 29) rfl))) (by decide) (t := (.array (.array .long))) (t' := (.array .int)) (by decide) (by decide)))
  have f225 := f206.other W214 (Or.inr (slot_ne (Or.inl (hw _ (List.mem_of_getElem? (i := 38) rfl))) (Or.inl (hw _ (List.mem_of_getElem? (i := 29) rfl))) (by decide) (t := .int) (t' := (.array .int)) (by decide) (by decide)))
  have f226 := f207.other W214 (Or.inr (slot_ne (Or.inl (hw _ (List.mem_of_getElem? (i := 42) rfl))) (Or.inl (hw _ (List.mem_of_getElem? (i := 29) rfl))) (by decide) (t := .int) (t' := (.array .int)) (by decide) (by decide)))
  have f227 := f208.other W214 (Nat.ne_of_gt lt_r_b3)
  have f228 := f209.other W214 (Nat.ne_of_gt lt_r_b30)
  have f229 := f210.other W214 (Nat.ne_of_gt lt_r_b59)
  have f230 := f211.other W214 (Nat.ne_of_gt lt_r_b90)
  have f231 := f212.other W214 (Nat.ne_of_gt lt_r_b123)
  have f232 := f213.other W214 (Nat.ne_of_gt lt_r_b158)
  have f233 := F195.other W214 (Nat.ne_of_gt lt_r_b195)
  show own_End p e below s _ _ _ (T214.setTop (mkF m 56 #[.val (.ref r)] []))
  refine own_go (fun t k => XS.aloadN X214.here hx rfl (hb hby d1_56) rfl rfl k) ?_
  show own_End p e below s _ _ _ (T214.setTop (mkF m 57 #[.val (.ref r)] [(.ref r)]))
  refine own_go (fun t k => XS.iconst X214.here hx rfl (hb hby d1_57) k) ?_
  show own_End p e below s _ _ _ (T214.setTop (mkF m 58 #[.val (.ref r)] [(.int (4 : Int32)), (.ref r)]))
  obtain ⟨T234, h234, k234, X234, e234, E234, A234, Ex234, O234, st234⟩ := newRA X214 hx hZ (ty := .long) hown (C := "[J") (by decide) (hw _ (List.mem_of_getElem? (i := 20) rfl)) (hw _ (List.mem_of_getElem? (i := 21) rfl)) e214 (g := (mkF m 58 #[.val (.ref r)] [(.int (4 : Int32)), (.ref r)])) rfl (hb hby d1_58) rfl (by decide) (cap := 4) (by decide) (by decide) (by decide) (by decide) (ad := "[[J") (by decide)
  obtain ⟨b234, gb234⟩ : ∃ z, z = h214.size := ⟨_, rfl⟩
  rw [← gb234] at A234 st234
  have F234 := own_F.new A234 (n := 4) (by decide) (by decide)
  have nb234 : n0 ≤ b234 := by rw [gb234]; exact Z214
  have Z234 : n0 ≤ h234.size := Nat.le_trans Z214 E234.1
  have lt_r_b234 : @LT.lt Nat _ r b234 := Nat.lt_of_lt_of_le f216.lt (Nat.le_of_eq gb234.symm)
  have lt_b3_b234 : @LT.lt Nat _ b3 b234 := Nat.lt_of_lt_of_le f227.lt (Nat.le_of_eq gb234.symm)
  have lt_b30_b234 : @LT.lt Nat _ b30 b234 := Nat.lt_of_lt_of_le f228.lt (Nat.le_of_eq gb234.symm)
  have lt_b59_b234 : @LT.lt Nat _ b59 b234 := Nat.lt_of_lt_of_le f229.lt (Nat.le_of_eq gb234.symm)
  have lt_b90_b234 : @LT.lt Nat _ b90 b234 := Nat.lt_of_lt_of_le f230.lt (Nat.le_of_eq gb234.symm)
  have lt_b123_b234 : @LT.lt Nat _ b123 b234 := Nat.lt_of_lt_of_le f231.lt (Nat.le_of_eq gb234.symm)
  have lt_b158_b234 : @LT.lt Nat _ b158 b234 := Nat.lt_of_lt_of_le f232.lt (Nat.le_of_eq gb234.symm)
  have lt_b195_b234 : @LT.lt Nat _ b195 b234 := Nat.lt_of_lt_of_le f233.lt (Nat.le_of_eq gb234.symm)
  have sb234 : h0.size ≤ b234 := by rw [gb234]; exact K215.1
  have K235 := K215.ext E234
  have f236 := f216.ext E234
  have f237 := f217.ext E234
  have f238 := f218.ext E234
  have f239 := f219.ext E234
  have f240 := f220.ext E234
  have f241 := f221.ext E234
  have f242 := f222.ext E234
  have f243 := f223.ext E234
  have f244 := f224.ext E234
  have f245 := f225.ext E234
  have f246 := f226.ext E234
  have f247 := f227.ext E234
  have f248 := f228.ext E234
  have f249 := f229.ext E234
  have f250 := f230.ext E234
  have f251 := f231.ext E234
  have f252 := f232.ext E234
  have f253 := f233.ext E234
  refine own_go st234 ?_
  show own_End p e below s _ _ _ (T234.setTop (mkF m 61 #[.val (.ref r)] [(.ref b234), (.ref r)]))
  obtain ⟨T254, h254, X254, e254, W254, st254⟩ := putF X234 hx hZ hown (host := "") (Or.inl (hw _ (List.mem_of_getElem? (i := 30) rfl))) Via.refl e234 f244 f236 (Or.inl (hw _ (List.mem_of_getElem? (i := 31) rfl))) (hw _ (List.mem_of_getElem? (i := 4) rfl)) (ty := (.array (.array .long))) (by decide) rfl rfl (g := (mkF m 61 #[.val (.ref r)] [(.ref b234), (.ref r)])) rfl rfl (hb hby d1_61)
  have N254 := Fr.snoc X254 N214 nr
  have Z254 : n0 ≤ h254.size := by rw [W254.size]; exact Z234
  refine own_go st254 ?_
  have K255 := K235.wr W254 (Or.inl (List.mem_of_getElem? (i := 0) rfl))
  have f256 := f236.wr W254
  have f257 := f237.other W254 (Or.inr (slot_ne (Or.inl (hw _ (List.mem_of_getElem? (i := 15) rfl))) (Or.inl (hw _ (List.mem_of_getElem? (i := 31) rfl))) (by decide) (t := (.array (.array .int))) (t' := (.array (.array .long))) (by decide) (by decide)))
  have f258 := f238.other W254 (Or.inr (slot_ne (Or.inl (hw _ (List.mem_of_getElem? (i := 17) rfl))) (Or.inl (hw _ (List.mem_of_getElem? (i := 31) rfl))) (by decide) (t := (.array .int)) (t' := (.array (.array .long))) (by decide) (by decide)))
  have f259 := f239.other W254 (Or.inr (slot_ne (Or.inl (hw _ (List.mem_of_getElem? (i := 19) rfl))) (Or.inl (hw _ (List.mem_of_getElem? (i := 31) rfl))) (by decide) (t := (.array .int)) (t' := (.array (.array .long))) (by decide) (by decide)))
  have f260 := f240.other W254 (Or.inr (slot_ne (Or.inl (hw _ (List.mem_of_getElem? (i := 23) rfl))) (Or.inl (hw _ (List.mem_of_getElem? (i := 31) rfl))) (by decide) (t := (.array (.array .long))) (t' := (.array (.array .long))) (by decide) (by decide)))
  have f261 := f241.other W254 (Or.inr (slot_ne (Or.inl (hw _ (List.mem_of_getElem? (i := 25) rfl))) (Or.inl (hw _ (List.mem_of_getElem? (i := 31) rfl))) (by decide) (t := (.array (.array .int))) (t' := (.array (.array .long))) (by decide) (by decide)))
  have f262 := f242.other W254 (Or.inr (slot_ne (Or.inl (hw _ (List.mem_of_getElem? (i := 27) rfl))) (Or.inl (hw _ (List.mem_of_getElem? (i := 31) rfl))) (by decide) (t := (.array .int)) (t' := (.array (.array .long))) (by decide) (by decide)))
  have f263 := f243.other W254 (Or.inr (slot_ne (Or.inl (hw _ (List.mem_of_getElem? (i := 29) rfl))) (Or.inl (hw _ (List.mem_of_getElem? (i := 31) rfl))) (by decide) (t := (.array .int)) (t' := (.array (.array .long))) (by decide) (by decide)))
  have f264 := f244.same W254
  have f265 := f245.other W254 (Or.inr (slot_ne (Or.inl (hw _ (List.mem_of_getElem? (i := 38) rfl))) (Or.inl (hw _ (List.mem_of_getElem? (i := 31) rfl))) (by decide) (t := .int) (t' := (.array (.array .long))) (by decide) (by decide)))
  have f266 := f246.other W254 (Or.inr (slot_ne (Or.inl (hw _ (List.mem_of_getElem? (i := 42) rfl))) (Or.inl (hw _ (List.mem_of_getElem? (i := 31) rfl))) (by decide) (t := .int) (t' := (.array (.array .long))) (by decide) (by decide)))
  have f267 := f247.other W254 (Nat.ne_of_gt lt_r_b3)
  have f268 := f248.other W254 (Nat.ne_of_gt lt_r_b30)
  have f269 := f249.other W254 (Nat.ne_of_gt lt_r_b59)
  have f270 := f250.other W254 (Nat.ne_of_gt lt_r_b90)
  have f271 := f251.other W254 (Nat.ne_of_gt lt_r_b123)
  have f272 := f252.other W254 (Nat.ne_of_gt lt_r_b158)
  have f273 := f253.other W254 (Nat.ne_of_gt lt_r_b195)
  have f274 := F234.other W254 (Nat.ne_of_gt lt_r_b234)
  show own_End p e below s _ _ _ (T254.setTop (mkF m 64 #[.val (.ref r)] []))
  exact own_ret X254 hx hret hlk (hb hby d1_64) ⟨rfl, N254, by rw [e254]; exact K255, b3, b30, b59, b90, b123, b158, b195, b234, k3, k30, k59, k90, k123, k158, k195, k234, ⟨lt_r_b3, lt_b3_b30, lt_b30_b59, lt_b59_b90, lt_b90_b123, lt_b123_b158, lt_b158_b195, lt_b195_b234⟩, ⟨O3, O90, O123, O234⟩, by rw [e254]; exact ⟨f267, f268, f269, f270, f271, f272, f273, f274, f257, f258, f259, f260, f261, f262, f263, f264, f265, f266⟩⟩ (by decide) (by decide)
theorem own_ov {x y z : Int32} (hx : 0 ≤ x.toInt) (hz : 0 ≤ z.toInt) : (0 : Int) ≤ ((x ^^^ z) &&& (y ^^^ z)).toInt := (c_andS (x ^^^ z) (y ^^^ z)).2.1 ((c_xorS x z).2.2.2 hx hz)
set_option maxRecDepth 65536 in
set_option maxHeartbeats 40000000 in
theorem rm4 (l : Launch) (Z : State) (a0 : Array Value) (hw : ∀ d ∈ tables_1, d.before a0 Z = true) (ws : List Jvm.Cond) (x1 : Int32) (x2 : Int32) (h0 : Heap) (n0 : Nat) (Z0 : n0 ≤ h0.size) (hx1 : 0 ≤ x1.toInt) (hsum : 0 ≤ (x1 + x2).toInt) :
    own_Met l (⟨"java/lang/Math", "addExact", "(II)I"⟩ : MethodName) jdk_29_method_24_code 3 (some .int) ws ({ frames := 0, cells := 0, slots := 0, locals := 0 } : Room) #[(.int x1), (.int x2)] Z h0 (fun v h L => v = some (.int (x1 + x2)) ∧ Fr n0 L ∧ h = h0) := by
  refine own_body (Jvm.Free.JP.mathPlain rfl (by decide +kernel)) ?_
  intro p e s m below meth c s0 X0 hx hby hml hret hlk hown hnm hZ e0
  replace hown : s.vm.findClass "java/lang/Math" = some m.cls := hown
  have N0 := Fr.nil n0
  have ef : entryFrame m #[(.int x1), (.int x2)] 3 = (mkF m 0 #[.val (.int x1), .val (.int x2), .unset] []) := by first | (simp [entryFrame, mkF, argsToLocals, Value.category, maxLocals]; done) | rfl
  rw [ef]
  show own_End p e below s _ _ _ (s0.setTop (mkF m 0 #[.val (.int x1), .val (.int x2), .unset] []))
  refine own_go (fun t k => XS.iloadN X0.here hx rfl (hb hby d4_0) rfl k) ?_
  show own_End p e below s _ _ _ (s0.setTop (mkF m 1 #[.val (.int x1), .val (.int x2), .unset] [(.int x1)]))
  refine own_go (fun t k => XS.iloadN X0.here hx rfl (hb hby d4_1) rfl k) ?_
  show own_End p e below s _ _ _ (s0.setTop (mkF m 2 #[.val (.int x1), .val (.int x2), .unset] [(.int x2), (.int x1)]))
  refine own_go (fun t k => XS.iadd X0.here hx rfl (hb hby d4_2) rfl k) ?_
  show own_End p e below s _ _ _ (s0.setTop (mkF m 3 #[.val (.int x1), .val (.int x2), .unset] [(.int (x1 + x2))]))
  obtain ⟨z275, qz275⟩ : ∃ z : Int32, z = (x1 + x2) := ⟨_, rfl⟩
  rw [← qz275]
  show own_End p e below s _ _ _ (s0.setTop (mkF m 3 #[.val (.int x1), .val (.int x2), .unset] [(.int z275)]))
  refine own_go (fun t k => XS.istoreN X0.here hx rfl (hb hby d4_3) rfl (l' := #[.val (.int x1), .val (.int x2), .val (.int z275)]) rfl k) ?_
  show own_End p e below s _ _ _ (s0.setTop (mkF m 4 #[.val (.int x1), .val (.int x2), .val (.int z275)] []))
  refine own_go (fun t k => XS.iloadN X0.here hx rfl (hb hby d4_4) rfl k) ?_
  show own_End p e below s _ _ _ (s0.setTop (mkF m 5 #[.val (.int x1), .val (.int x2), .val (.int z275)] [(.int x1)]))
  refine own_go (fun t k => XS.iloadN X0.here hx rfl (hb hby d4_5) rfl k) ?_
  show own_End p e below s _ _ _ (s0.setTop (mkF m 6 #[.val (.int x1), .val (.int x2), .val (.int z275)] [(.int z275), (.int x1)]))
  refine own_go (fun t k => XT.ixor X0.here hx rfl (hb hby d4_6) rfl k) ?_
  show own_End p e below s _ _ _ (s0.setTop (mkF m 7 #[.val (.int x1), .val (.int x2), .val (.int z275)] [(.int (x1 ^^^ z275))]))
  refine own_go (fun t k => XS.iloadN X0.here hx rfl (hb hby d4_7) rfl k) ?_
  show own_End p e below s _ _ _ (s0.setTop (mkF m 8 #[.val (.int x1), .val (.int x2), .val (.int z275)] [(.int x2), (.int (x1 ^^^ z275))]))
  refine own_go (fun t k => XS.iloadN X0.here hx rfl (hb hby d4_8) rfl k) ?_
  show own_End p e below s _ _ _ (s0.setTop (mkF m 9 #[.val (.int x1), .val (.int x2), .val (.int z275)] [(.int z275), (.int x2), (.int (x1 ^^^ z275))]))
  refine own_go (fun t k => XT.ixor X0.here hx rfl (hb hby d4_9) rfl k) ?_
  show own_End p e below s _ _ _ (s0.setTop (mkF m 10 #[.val (.int x1), .val (.int x2), .val (.int z275)] [(.int (x2 ^^^ z275)), (.int (x1 ^^^ z275))]))
  refine own_go (fun t k => XS.iand X0.here hx rfl (hb hby d4_10) rfl k) ?_
  show own_End p e below s _ _ _ (s0.setTop (mkF m 11 #[.val (.int x1), .val (.int x2), .val (.int z275)] [(.int ((x1 ^^^ z275) &&& (x2 ^^^ z275)))]))
  refine own_go (fun t k => XS.ifYes X0.here hx rfl (pc0 := 11) (pc' := 24) rfl (hb hby d4_11) rfl (own_0 (own_geY (k := 0) rfl (own_ov hx1 (by rw [qz275]; exact hsum)))) (by decide) (by decide) k) ?_
  show own_End p e below s _ _ _ (s0.setTop (mkF m 24 #[.val (.int x1), .val (.int x2), .val (.int z275)] []))
  refine own_go (fun t k => XS.iloadN X0.here hx rfl (hb hby d4_24) rfl k) ?_
  show own_End p e below s _ _ _ (s0.setTop (mkF m 25 #[.val (.int x1), .val (.int x2), .val (.int z275)] [(.int z275)]))
  exact own_retI X0 hx hret hlk (hb hby d4_25) ⟨by rw [qz275], N0, e0⟩ (by decide) (by decide)
set_option maxRecDepth 65536 in
set_option maxHeartbeats 40000000 in
theorem rm3 (l : Launch) (Z : State) (a0 : Array Value) (hw : ∀ d ∈ tables_1, d.before a0 Z = true) (ws : List Jvm.Cond) (r : Addr) (t1 : Addr) (t2 : Addr) (i1 : Int32) (i2 : Int32) (t3 : Addr) (t4 : Addr) (i3 : Int32) (i4 : Int32) (h0 : Heap) (n0 : Nat) (Z0 : n0 ≤ h0.size) (axr axf axt axw ayr ayf ayt ayw : Addr) (kaxr kaxf kaxt kaxw kayr kayf kayt kayw : ClassId) (gaxr gaxf gaxt gaxw gayr gayf gayt gayw : Nat → Value) (cnt pl : Int32) (hord : @LT.lt Nat _ r axr ∧ @LT.lt Nat _ axr axf ∧ @LT.lt Nat _ axf axt ∧ @LT.lt Nat _ axt axw ∧ @LT.lt Nat _ axw ayr ∧ @LT.lt Nat _ ayr ayf ∧ @LT.lt Nat _ ayf ayt ∧ @LT.lt Nat _ ayt ayw) (nr : n0 ≤ r) (E0 : Exa Z h0 r "com/example/ordinate/ordinate/core/PairBlocks") (F_axr : own_F Z h0 axr kaxr (.array .int) 4 gaxr) (F_axf : own_F Z h0 axf kaxf .int 4 gaxf) (F_axt : own_F Z h0 axt kaxt .int 4 gaxt) (F_axw : own_F Z h0 axw kaxw (.array .long) 4 gaxw) (F_ayr : own_F Z h0 ayr kayr (.array .int) 4 gayr) (F_ayf : own_F Z h0 ayf kayf .int 4 gayf) (F_ayt : own_F Z h0 ayt kayt .int 4 gayt) (F_ayw : own_F Z h0 ayw kayw (.array .long) 4 gayw) (f_xRuns : Fld Z h0 r "com/example/ordinate/ordinate/core/PairBlocks" "xRuns" "[[I" (.ref axr)) (f_xFroms : Fld Z h0 r "com/example/ordinate/ordinate/core/PairBlocks" "xFroms" "[I" (.ref axf)) (f_xTos : Fld Z h0 r "com/example/ordinate/ordinate/core/PairBlocks" "xTos" "[I" (.ref axt)) (f_xWeights : Fld Z h0 r "com/example/ordinate/ordinate/core/PairBlocks" "xWeights" "[[J" (.ref axw)) (f_yRuns : Fld Z h0 r "com/example/ordinate/ordinate/core/PairBlocks" "yRuns" "[[I" (.ref ayr)) (f_yFroms : Fld Z h0 r "com/example/ordinate/ordinate/core/PairBlocks" "yFroms" "[I" (.ref ayf)) (f_yTos : Fld Z h0 r "com/example/ordinate/ordinate/core/PairBlocks" "yTos" "[I" (.ref ayt)) (f_yWeights : Fld Z h0 r "com/example/ordinate/ordinate/core/PairBlocks" "yWeights" "[[J" (.ref ayw)) (f_count : Fld Z h0 r "com/example/ordinate/ordinate/core/PairBlocks" "count" "I" (.int cnt)) (f_xPlaces : Fld Z h0 r "com/example/ordinate/ordinate/core/PairBlocks" "xPlaces" "I" (.int pl)) (Oaxr : OvrA Z kaxr .int "[I") (Oaxw : OvrA Z kaxw .long "[J") (Oayr : OvrA Z kayr .int "[I") (Oayw : OvrA Z kayw .long "[J") (Et1 : Exa Z h0 t1 "[I") (Et2 : Exa Z h0 t2 "[J") (Et3 : Exa Z h0 t3 "[I") (Et4 : Exa Z h0 t4 "[J") (i : Nat) (hi : cnt.toInt = i) (hi2 : i < 4) (hpl : 0 ≤ pl.toInt) (hsm : 0 ≤ (pl + (i2 - i1)).toInt) :
    own_Met l (⟨"com/example/ordinate/ordinate/core/PairBlocks", "add", "([I[JII[I[JII)V"⟩ : MethodName) prog_98_method_2_code 10 none ws ({ frames := 1, cells := 0, slots := 0, locals := 15 } : Room) #[(.ref r), (.ref t1), (.ref t2), (.int i1), (.int i2), (.ref t3), (.ref t4), (.int i3), (.int i4)] Z h0 (fun v h L => v = none ∧ Fr n0 L ∧ Keep h0 h [r, axr, axf, axt, axw, ayr, ayf, ayt, ayw] ∧ own_F Z h axr kaxr (.array .int) 4 (own_up gaxr i (.ref t1)) ∧ own_F Z h axf kaxf .int 4 (own_up gaxf i (.int i1)) ∧ own_F Z h axt kaxt .int 4 (own_up gaxt i (.int i2)) ∧ own_F Z h axw kaxw (.array .long) 4 (own_up gaxw i (.ref t2)) ∧ own_F Z h ayr kayr (.array .int) 4 (own_up gayr i (.ref t3)) ∧ own_F Z h ayf kayf .int 4 (own_up gayf i (.int i3)) ∧ own_F Z h ayt kayt .int 4 (own_up gayt i (.int i4)) ∧ own_F Z h ayw kayw (.array .long) 4 (own_up gayw i (.ref t4)) ∧ Fld Z h r "com/example/ordinate/ordinate/core/PairBlocks" "xRuns" "[[I" (.ref axr) ∧ Fld Z h r "com/example/ordinate/ordinate/core/PairBlocks" "xFroms" "[I" (.ref axf) ∧ Fld Z h r "com/example/ordinate/ordinate/core/PairBlocks" "xTos" "[I" (.ref axt) ∧ Fld Z h r "com/example/ordinate/ordinate/core/PairBlocks" "xWeights" "[[J" (.ref axw) ∧ Fld Z h r "com/example/ordinate/ordinate/core/PairBlocks" "yRuns" "[[I" (.ref ayr) ∧ Fld Z h r "com/example/ordinate/ordinate/core/PairBlocks" "yFroms" "[I" (.ref ayf) ∧ Fld Z h r "com/example/ordinate/ordinate/core/PairBlocks" "yTos" "[I" (.ref ayt) ∧ Fld Z h r "com/example/ordinate/ordinate/core/PairBlocks" "yWeights" "[[J" (.ref ayw) ∧ Fld Z h r "com/example/ordinate/ordinate/core/PairBlocks" "count" "I" (.int (cnt + (1 : Int32))) ∧ Fld Z h r "com/example/ordinate/ordinate/core/PairBlocks" "xPlaces" "I" (.int (pl + (i2 - i1)))) := by
  refine own_body (plainFor_of_name pn_PairBlocks) ?_
  intro p e s m below meth c s0 X0 hx hby hml hret hlk hown hnm hZ e0
  replace hown : s.vm.findClass "com/example/ordinate/ordinate/core/PairBlocks" = some m.cls := hown
  have N0 := Fr.nil n0
  have ef : entryFrame m #[(.ref r), (.ref t1), (.ref t2), (.int i1), (.int i2), (.ref t3), (.ref t4), (.int i3), (.int i4)] 10 = (mkF m 0 #[.val (.ref r), .val (.ref t1), .val (.ref t2), .val (.int i1), .val (.int i2), .val (.ref t3), .val (.ref t4), .val (.int i3), .val (.int i4), .unset] []) := by first | (simp [entryFrame, mkF, argsToLocals, Value.category, maxLocals]; done) | rfl
  rw [ef]
  show own_End p e below s _ _ _ (s0.setTop (mkF m 0 #[.val (.ref r), .val (.ref t1), .val (.ref t2), .val (.int i1), .val (.int i2), .val (.ref t3), .val (.ref t4), .val (.int i3), .val (.int i4), .unset] []))
  have K276 := Keep.refl h0 [r, axr, axf, axt, axw, ayr, ayf, ayt, ayw]
  have lt_r_axr : @LT.lt Nat _ r axr := hord.1
  have lt_axr_axf : @LT.lt Nat _ axr axf := hord.2.1
  have lt_axf_axt : @LT.lt Nat _ axf axt := hord.2.2.1
  have lt_axt_axw : @LT.lt Nat _ axt axw := hord.2.2.2.1
  have lt_axw_ayr : @LT.lt Nat _ axw ayr := hord.2.2.2.2.1
  have lt_ayr_ayf : @LT.lt Nat _ ayr ayf := hord.2.2.2.2.2.1
  have lt_ayf_ayt : @LT.lt Nat _ ayf ayt := hord.2.2.2.2.2.2.1
  have lt_ayt_ayw : @LT.lt Nat _ ayt ayw := hord.2.2.2.2.2.2.2
  have lt_r_axf : @LT.lt Nat _ r axf := Nat.lt_trans lt_r_axr lt_axr_axf
  have lt_axr_axt : @LT.lt Nat _ axr axt := Nat.lt_trans lt_axr_axf lt_axf_axt
  have lt_axf_axw : @LT.lt Nat _ axf axw := Nat.lt_trans lt_axf_axt lt_axt_axw
  have lt_axt_ayr : @LT.lt Nat _ axt ayr := Nat.lt_trans lt_axt_axw lt_axw_ayr
  have lt_axw_ayf : @LT.lt Nat _ axw ayf := Nat.lt_trans lt_axw_ayr lt_ayr_ayf
  have lt_ayr_ayt : @LT.lt Nat _ ayr ayt := Nat.lt_trans lt_ayr_ayf lt_ayf_ayt
  have lt_ayf_ayw : @LT.lt Nat _ ayf ayw := Nat.lt_trans lt_ayf_ayt lt_ayt_ayw
  have lt_r_axt : @LT.lt Nat _ r axt := Nat.lt_trans lt_r_axf lt_axf_axt
  have lt_axr_axw : @LT.lt Nat _ axr axw := Nat.lt_trans lt_axr_axt lt_axt_axw
  have lt_axf_ayr : @LT.lt Nat _ axf ayr := Nat.lt_trans lt_axf_axw lt_axw_ayr
  have lt_axt_ayf : @LT.lt Nat _ axt ayf := Nat.lt_trans lt_axt_ayr lt_ayr_ayf
  have lt_axw_ayt : @LT.lt Nat _ axw ayt := Nat.lt_trans lt_axw_ayf lt_ayf_ayt
  have lt_ayr_ayw : @LT.lt Nat _ ayr ayw := Nat.lt_trans lt_ayr_ayt lt_ayt_ayw
  have lt_r_axw : @LT.lt Nat _ r axw := Nat.lt_trans lt_r_axt lt_axt_axw
  have lt_axr_ayr : @LT.lt Nat _ axr ayr := Nat.lt_trans lt_axr_axw lt_axw_ayr
  have lt_axf_ayf : @LT.lt Nat _ axf ayf := Nat.lt_trans lt_axf_ayr lt_ayr_ayf
  have lt_axt_ayt : @LT.lt Nat _ axt ayt := Nat.lt_trans lt_axt_ayf lt_ayf_ayt
  have lt_axw_ayw : @LT.lt Nat _ axw ayw := Nat.lt_trans lt_axw_ayt lt_ayt_ayw
  have lt_r_ayr : @LT.lt Nat _ r ayr := Nat.lt_trans lt_r_axw lt_axw_ayr
  have lt_axr_ayf : @LT.lt Nat _ axr ayf := Nat.lt_trans lt_axr_ayr lt_ayr_ayf
  have lt_axf_ayt : @LT.lt Nat _ axf ayt := Nat.lt_trans lt_axf_ayf lt_ayf_ayt
  have lt_axt_ayw : @LT.lt Nat _ axt ayw := Nat.lt_trans lt_axt_ayt lt_ayt_ayw
  have lt_r_ayf : @LT.lt Nat _ r ayf := Nat.lt_trans lt_r_ayr lt_ayr_ayf
  have lt_axr_ayt : @LT.lt Nat _ axr ayt := Nat.lt_trans lt_axr_ayf lt_ayf_ayt
  have lt_axf_ayw : @LT.lt Nat _ axf ayw := Nat.lt_trans lt_axf_ayt lt_ayt_ayw
  have lt_r_ayt : @LT.lt Nat _ r ayt := Nat.lt_trans lt_r_ayf lt_ayf_ayt
  have lt_axr_ayw : @LT.lt Nat _ axr ayw := Nat.lt_trans lt_axr_ayt lt_ayt_ayw
  have lt_r_ayw : @LT.lt Nat _ r ayw := Nat.lt_trans lt_r_ayt lt_ayt_ayw
  have naxr : n0 ≤ axr := Nat.le_trans nr (Nat.le_of_lt lt_r_axr)
  have naxf : n0 ≤ axf := Nat.le_trans nr (Nat.le_of_lt lt_r_axf)
  have naxt : n0 ≤ axt := Nat.le_trans nr (Nat.le_of_lt lt_r_axt)
  have naxw : n0 ≤ axw := Nat.le_trans nr (Nat.le_of_lt lt_r_axw)
  have nayr : n0 ≤ ayr := Nat.le_trans nr (Nat.le_of_lt lt_r_ayr)
  have nayf : n0 ≤ ayf := Nat.le_trans nr (Nat.le_of_lt lt_r_ayf)
  have nayt : n0 ≤ ayt := Nat.le_trans nr (Nat.le_of_lt lt_r_ayt)
  have nayw : n0 ≤ ayw := Nat.le_trans nr (Nat.le_of_lt lt_r_ayw)
  refine own_go (fun t k => XS.aloadN X0.here hx rfl (hb hby d3_0) rfl rfl k) ?_
  show own_End p e below s _ _ _ (s0.setTop (mkF m 1 #[.val (.ref r), .val (.ref t1), .val (.ref t2), .val (.int i1), .val (.int i2), .val (.ref t3), .val (.ref t4), .val (.int i3), .val (.int i4), .unset] [(.ref r)]))
  obtain ⟨T277, X277, e277, st277⟩ := getF X0 hx hZ hown (host := "") (Or.inl (hw _ (List.mem_of_getElem? (i := 37) rfl))) Via.refl e0 f_count (g := (mkF m 1 #[.val (.ref r), .val (.ref t1), .val (.ref t2), .val (.int i1), .val (.int i2), .val (.ref t3), .val (.ref t4), .val (.int i3), .val (.int i4), .unset] [(.ref r)])) rfl rfl (hb hby d3_1)
  refine own_go st277 ?_
  show own_End p e below s _ _ _ (T277.setTop (mkF m 4 #[.val (.ref r), .val (.ref t1), .val (.ref t2), .val (.int i1), .val (.int i2), .val (.ref t3), .val (.ref t4), .val (.int i3), .val (.int i4), .unset] [(.int cnt)]))
  refine own_go (fun t k => XS.aloadN X277.here hx rfl (hb hby d3_4) rfl rfl k) ?_
  show own_End p e below s _ _ _ (T277.setTop (mkF m 5 #[.val (.ref r), .val (.ref t1), .val (.ref t2), .val (.int i1), .val (.int i2), .val (.ref t3), .val (.ref t4), .val (.int i3), .val (.int i4), .unset] [(.ref r), (.int cnt)]))
  obtain ⟨T278, X278, e278, st278⟩ := getF X277 hx hZ hown (host := "") (Or.inl (hw _ (List.mem_of_getElem? (i := 14) rfl))) Via.refl e277 f_xRuns (g := (mkF m 5 #[.val (.ref r), .val (.ref t1), .val (.ref t2), .val (.int i1), .val (.int i2), .val (.ref t3), .val (.ref t4), .val (.int i3), .val (.int i4), .unset] [(.ref r), (.int cnt)])) rfl rfl (hb hby d3_5)
  refine own_go st278 ?_
  show own_End p e below s _ _ _ (T278.setTop (mkF m 8 #[.val (.ref r), .val (.ref t1), .val (.ref t2), .val (.int i1), .val (.int i2), .val (.ref t3), .val (.ref t4), .val (.int i3), .val (.int i4), .unset] [(.ref axr), (.int cnt)]))
  refine own_go (own_flen X278 hx hZ e278 F_axr (pc := 8) (Ls := #[.val (.ref r), .val (.ref t1), .val (.ref t2), .val (.int i1), .val (.int i2), .val (.ref t3), .val (.ref t4), .val (.int i3), .val (.int i4), .unset]) (rest := [(.int cnt)]) (hb hby d3_8)) ?_
  show own_End p e below s _ _ _ (T278.setTop (mkF m 9 #[.val (.ref r), .val (.ref t1), .val (.ref t2), .val (.int i1), .val (.int i2), .val (.ref t3), .val (.ref t4), .val (.int i3), .val (.int i4), .unset] [(.int (4 : Int32)), (.int cnt)]))
  refine own_go (fun t k => XS.icmpYes X278.here hx rfl (pc0 := 9) (pc' := 138) rfl (hb hby d3_9) rfl (own_neY (k := 4) (by decide) (by omega)) (by decide) (by decide) k) ?_
  show own_End p e below s _ _ _ (T278.setTop (mkF m 138 #[.val (.ref r), .val (.ref t1), .val (.ref t2), .val (.int i1), .val (.int i2), .val (.ref t3), .val (.ref t4), .val (.int i3), .val (.int i4), .unset] []))
  refine own_go (fun t k => XS.aloadN X278.here hx rfl (hb hby d3_138) rfl rfl k) ?_
  show own_End p e below s _ _ _ (T278.setTop (mkF m 139 #[.val (.ref r), .val (.ref t1), .val (.ref t2), .val (.int i1), .val (.int i2), .val (.ref t3), .val (.ref t4), .val (.int i3), .val (.int i4), .unset] [(.ref r)]))
  obtain ⟨T279, X279, e279, st279⟩ := getF X278 hx hZ hown (host := "") (Or.inl (hw _ (List.mem_of_getElem? (i := 14) rfl))) Via.refl e278 f_xRuns (g := (mkF m 139 #[.val (.ref r), .val (.ref t1), .val (.ref t2), .val (.int i1), .val (.int i2), .val (.ref t3), .val (.ref t4), .val (.int i3), .val (.int i4), .unset] [(.ref r)])) rfl rfl (hb hby d3_139)
  refine own_go st279 ?_
  show own_End p e below s _ _ _ (T279.setTop (mkF m 142 #[.val (.ref r), .val (.ref t1), .val (.ref t2), .val (.int i1), .val (.int i2), .val (.ref t3), .val (.ref t4), .val (.int i3), .val (.int i4), .unset] [(.ref axr)]))
  refine own_go (fun t k => XS.aloadN X279.here hx rfl (hb hby d3_142) rfl rfl k) ?_
  show own_End p e below s _ _ _ (T279.setTop (mkF m 143 #[.val (.ref r), .val (.ref t1), .val (.ref t2), .val (.int i1), .val (.int i2), .val (.ref t3), .val (.ref t4), .val (.int i3), .val (.int i4), .unset] [(.ref r), (.ref axr)]))
  obtain ⟨T280, X280, e280, st280⟩ := getF X279 hx hZ hown (host := "") (Or.inl (hw _ (List.mem_of_getElem? (i := 37) rfl))) Via.refl e279 f_count (g := (mkF m 143 #[.val (.ref r), .val (.ref t1), .val (.ref t2), .val (.int i1), .val (.int i2), .val (.ref t3), .val (.ref t4), .val (.int i3), .val (.int i4), .unset] [(.ref r), (.ref axr)])) rfl rfl (hb hby d3_143)
  refine own_go st280 ?_
  show own_End p e below s _ _ _ (T280.setTop (mkF m 146 #[.val (.ref r), .val (.ref t1), .val (.ref t2), .val (.int i1), .val (.int i2), .val (.ref t3), .val (.ref t4), .val (.int i3), .val (.int i4), .unset] [(.int cnt), (.ref axr)]))
  refine own_go (fun t k => XS.aloadN X280.here hx rfl (hb hby d3_146) rfl rfl k) ?_
  show own_End p e below s _ _ _ (T280.setTop (mkF m 147 #[.val (.ref r), .val (.ref t1), .val (.ref t2), .val (.int i1), .val (.int i2), .val (.ref t3), .val (.ref t4), .val (.int i3), .val (.int i4), .unset] [(.ref t1), (.int cnt), (.ref axr)]))
  obtain ⟨T281, h281, X281, e281, W281, F281, st281⟩ := own_fstA X280 hx hZ e280 F_axr rfl (F_axr.sto Oaxr Et1) (j := cnt) (v := (.ref t1)) i hi (by omega) (pc := 147) (Ls := #[.val (.ref r), .val (.ref t1), .val (.ref t2), .val (.int i1), .val (.int i2), .val (.ref t3), .val (.ref t4), .val (.int i3), .val (.int i4), .unset]) (rest := []) (hb hby d3_147)
  have N281 := Fr.snoc X281 N0 naxr
  have Z281 : n0 ≤ h281.size := by rw [W281.size]; exact Z0
  refine own_go st281 ?_
  have K282 := K276.wr W281 (Or.inl (List.mem_of_getElem? (i := 1) rfl))
  have f283 := E0.wr W281
  have f284 := f_xRuns.other W281 (Or.inl (Nat.ne_of_lt lt_r_axr))
  have f285 := f_xFroms.other W281 (Or.inl (Nat.ne_of_lt lt_r_axr))
  have f286 := f_xTos.other W281 (Or.inl (Nat.ne_of_lt lt_r_axr))
  have f287 := f_xWeights.other W281 (Or.inl (Nat.ne_of_lt lt_r_axr))
  have f288 := f_yRuns.other W281 (Or.inl (Nat.ne_of_lt lt_r_axr))
  have f289 := f_yFroms.other W281 (Or.inl (Nat.ne_of_lt lt_r_axr))
  have f290 := f_yTos.other W281 (Or.inl (Nat.ne_of_lt lt_r_axr))
  have f291 := f_yWeights.other W281 (Or.inl (Nat.ne_of_lt lt_r_axr))
  have f292 := f_count.other W281 (Or.inl (Nat.ne_of_lt lt_r_axr))
  have f293 := f_xPlaces.other W281 (Or.inl (Nat.ne_of_lt lt_r_axr))
  have f295 := F_axf.other W281 (Nat.ne_of_gt lt_axr_axf)
  have f296 := F_axt.other W281 (Nat.ne_of_gt lt_axr_axt)
  have f297 := F_axw.other W281 (Nat.ne_of_gt lt_axr_axw)
  have f298 := F_ayr.other W281 (Nat.ne_of_gt lt_axr_ayr)
  have f299 := F_ayf.other W281 (Nat.ne_of_gt lt_axr_ayf)
  have f300 := F_ayt.other W281 (Nat.ne_of_gt lt_axr_ayt)
  have f301 := F_ayw.other W281 (Nat.ne_of_gt lt_axr_ayw)
  have f302 := Et1.wr W281
  have f303 := Et2.wr W281
  have f304 := Et3.wr W281
  have f305 := Et4.wr W281
  show own_End p e below s _ _ _ (T281.setTop (mkF m 148 #[.val (.ref r), .val (.ref t1), .val (.ref t2), .val (.int i1), .val (.int i2), .val (.ref t3), .val (.ref t4), .val (.int i3), .val (.int i4), .unset] []))
  refine own_go (fun t k => XS.aloadN X281.here hx rfl (hb hby d3_148) rfl rfl k) ?_
  show own_End p e below s _ _ _ (T281.setTop (mkF m 149 #[.val (.ref r), .val (.ref t1), .val (.ref t2), .val (.int i1), .val (.int i2), .val (.ref t3), .val (.ref t4), .val (.int i3), .val (.int i4), .unset] [(.ref r)]))
  obtain ⟨T306, X306, e306, st306⟩ := getF X281 hx hZ hown (host := "") (Or.inl (hw _ (List.mem_of_getElem? (i := 16) rfl))) Via.refl e281 f285 (g := (mkF m 149 #[.val (.ref r), .val (.ref t1), .val (.ref t2), .val (.int i1), .val (.int i2), .val (.ref t3), .val (.ref t4), .val (.int i3), .val (.int i4), .unset] [(.ref r)])) rfl rfl (hb hby d3_149)
  refine own_go st306 ?_
  show own_End p e below s _ _ _ (T306.setTop (mkF m 152 #[.val (.ref r), .val (.ref t1), .val (.ref t2), .val (.int i1), .val (.int i2), .val (.ref t3), .val (.ref t4), .val (.int i3), .val (.int i4), .unset] [(.ref axf)]))
  refine own_go (fun t k => XS.aloadN X306.here hx rfl (hb hby d3_152) rfl rfl k) ?_
  show own_End p e below s _ _ _ (T306.setTop (mkF m 153 #[.val (.ref r), .val (.ref t1), .val (.ref t2), .val (.int i1), .val (.int i2), .val (.ref t3), .val (.ref t4), .val (.int i3), .val (.int i4), .unset] [(.ref r), (.ref axf)]))
  obtain ⟨T307, X307, e307, st307⟩ := getF X306 hx hZ hown (host := "") (Or.inl (hw _ (List.mem_of_getElem? (i := 37) rfl))) Via.refl e306 f292 (g := (mkF m 153 #[.val (.ref r), .val (.ref t1), .val (.ref t2), .val (.int i1), .val (.int i2), .val (.ref t3), .val (.ref t4), .val (.int i3), .val (.int i4), .unset] [(.ref r), (.ref axf)])) rfl rfl (hb hby d3_153)
  refine own_go st307 ?_
  show own_End p e below s _ _ _ (T307.setTop (mkF m 156 #[.val (.ref r), .val (.ref t1), .val (.ref t2), .val (.int i1), .val (.int i2), .val (.ref t3), .val (.ref t4), .val (.int i3), .val (.int i4), .unset] [(.int cnt), (.ref axf)]))
  refine own_go (fun t k => XS.iloadN X307.here hx rfl (hb hby d3_156) rfl k) ?_
  show own_End p e below s _ _ _ (T307.setTop (mkF m 157 #[.val (.ref r), .val (.ref t1), .val (.ref t2), .val (.int i1), .val (.int i2), .val (.ref t3), .val (.ref t4), .val (.int i3), .val (.int i4), .unset] [(.int i1), (.int cnt), (.ref axf)]))
  obtain ⟨T308, h308, X308, e308, W308, F308, st308⟩ := own_fstI X307 hx hZ e307 f295 (j := cnt) (x := i1) i hi (by omega) (pc := 157) (Ls := #[.val (.ref r), .val (.ref t1), .val (.ref t2), .val (.int i1), .val (.int i2), .val (.ref t3), .val (.ref t4), .val (.int i3), .val (.int i4), .unset]) (rest := []) (hb hby d3_157)
  have N308 := Fr.snoc X308 N281 naxf
  have Z308 : n0 ≤ h308.size := by rw [W308.size]; exact Z281
  refine own_go st308 ?_
  have K309 := K282.wr W308 (Or.inl (List.mem_of_getElem? (i := 2) rfl))
  have f310 := f283.wr W308
  have f311 := f284.other W308 (Or.inl (Nat.ne_of_lt lt_r_axf))
  have f312 := f285.other W308 (Or.inl (Nat.ne_of_lt lt_r_axf))
  have f313 := f286.other W308 (Or.inl (Nat.ne_of_lt lt_r_axf))
  have f314 := f287.other W308 (Or.inl (Nat.ne_of_lt lt_r_axf))
  have f315 := f288.other W308 (Or.inl (Nat.ne_of_lt lt_r_axf))
  have f316 := f289.other W308 (Or.inl (Nat.ne_of_lt lt_r_axf))
  have f317 := f290.other W308 (Or.inl (Nat.ne_of_lt lt_r_axf))
  have f318 := f291.other W308 (Or.inl (Nat.ne_of_lt lt_r_axf))
  have f319 := f292.other W308 (Or.inl (Nat.ne_of_lt lt_r_axf))
  have f320 := f293.other W308 (Or.inl (Nat.ne_of_lt lt_r_axf))
  have f321 := F281.other W308 (Nat.ne_of_lt lt_axr_axf)
  have f323 := f296.other W308 (Nat.ne_of_gt lt_axf_axt)
  have f324 := f297.other W308 (Nat.ne_of_gt lt_axf_axw)
  have f325 := f298.other W308 (Nat.ne_of_gt lt_axf_ayr)
  have f326 := f299.other W308 (Nat.ne_of_gt lt_axf_ayf)
  have f327 := f300.other W308 (Nat.ne_of_gt lt_axf_ayt)
  have f328 := f301.other W308 (Nat.ne_of_gt lt_axf_ayw)
  have f329 := f302.wr W308
  have f330 := f303.wr W308
  have f331 := f304.wr W308
  have f332 := f305.wr W308
  show own_End p e below s _ _ _ (T308.setTop (mkF m 158 #[.val (.ref r), .val (.ref t1), .val (.ref t2), .val (.int i1), .val (.int i2), .val (.ref t3), .val (.ref t4), .val (.int i3), .val (.int i4), .unset] []))
  refine own_go (fun t k => XS.aloadN X308.here hx rfl (hb hby d3_158) rfl rfl k) ?_
  show own_End p e below s _ _ _ (T308.setTop (mkF m 159 #[.val (.ref r), .val (.ref t1), .val (.ref t2), .val (.int i1), .val (.int i2), .val (.ref t3), .val (.ref t4), .val (.int i3), .val (.int i4), .unset] [(.ref r)]))
  obtain ⟨T333, X333, e333, st333⟩ := getF X308 hx hZ hown (host := "") (Or.inl (hw _ (List.mem_of_getElem? (i := 18) rfl))) Via.refl e308 f313 (g := (mkF m 159 #[.val (.ref r), .val (.ref t1), .val (.ref t2), .val (.int i1), .val (.int i2), .val (.ref t3), .val (.ref t4), .val (.int i3), .val (.int i4), .unset] [(.ref r)])) rfl rfl (hb hby d3_159)
  refine own_go st333 ?_
  show own_End p e below s _ _ _ (T333.setTop (mkF m 162 #[.val (.ref r), .val (.ref t1), .val (.ref t2), .val (.int i1), .val (.int i2), .val (.ref t3), .val (.ref t4), .val (.int i3), .val (.int i4), .unset] [(.ref axt)]))
  refine own_go (fun t k => XS.aloadN X333.here hx rfl (hb hby d3_162) rfl rfl k) ?_
  show own_End p e below s _ _ _ (T333.setTop (mkF m 163 #[.val (.ref r), .val (.ref t1), .val (.ref t2), .val (.int i1), .val (.int i2), .val (.ref t3), .val (.ref t4), .val (.int i3), .val (.int i4), .unset] [(.ref r), (.ref axt)]))
  obtain ⟨T334, X334, e334, st334⟩ := getF X333 hx hZ hown (host := "") (Or.inl (hw _ (List.mem_of_getElem? (i := 37) rfl))) Via.refl e333 f319 (g := (mkF m 163 #[.val (.ref r), .val (.ref t1), .val (.ref t2), .val (.int i1), .val (.int i2), .val (.ref t3), .val (.ref t4), .val (.int i3), .val (.int i4), .unset] [(.ref r), (.ref axt)])) rfl rfl (hb hby d3_163)
  refine own_go st334 ?_
  show own_End p e below s _ _ _ (T334.setTop (mkF m 166 #[.val (.ref r), .val (.ref t1), .val (.ref t2), .val (.int i1), .val (.int i2), .val (.ref t3), .val (.ref t4), .val (.int i3), .val (.int i4), .unset] [(.int cnt), (.ref axt)]))
  refine own_go (fun t k => XS.iload X334.here hx rfl (hb hby d3_166) rfl k) ?_
  show own_End p e below s _ _ _ (T334.setTop (mkF m 168 #[.val (.ref r), .val (.ref t1), .val (.ref t2), .val (.int i1), .val (.int i2), .val (.ref t3), .val (.ref t4), .val (.int i3), .val (.int i4), .unset] [(.int i2), (.int cnt), (.ref axt)]))
  obtain ⟨T335, h335, X335, e335, W335, F335, st335⟩ := own_fstI X334 hx hZ e334 f323 (j := cnt) (x := i2) i hi (by omega) (pc := 168) (Ls := #[.val (.ref r), .val (.ref t1), .val (.ref t2), .val (.int i1), .val (.int i2), .val (.ref t3), .val (.ref t4), .val (.int i3), .val (.int i4), .unset]) (rest := []) (hb hby d3_168)
  have N335 := Fr.snoc X335 N308 naxt
  have Z335 : n0 ≤ h335.size := by rw [W335.size]; exact Z308
  refine own_go st335 ?_
  have K336 := K309.wr W335 (Or.inl (List.mem_of_getElem? (i := 3) rfl))
  have f337 := f310.wr W335
  have f338 := f311.other W335 (Or.inl (Nat.ne_of_lt lt_r_axt))
  have f339 := f312.other W335 (Or.inl (Nat.ne_of_lt lt_r_axt))
  have f340 := f313.other W335 (Or.inl (Nat.ne_of_lt lt_r_axt))
  have f341 := f314.other W335 (Or.inl (Nat.ne_of_lt lt_r_axt))
  have f342 := f315.other W335 (Or.inl (Nat.ne_of_lt lt_r_axt))
  have f343 := f316.other W335 (Or.inl (Nat.ne_of_lt lt_r_axt))
  have f344 := f317.other W335 (Or.inl (Nat.ne_of_lt lt_r_axt))
  have f345 := f318.other W335 (Or.inl (Nat.ne_of_lt lt_r_axt))
  have f346 := f319.other W335 (Or.inl (Nat.ne_of_lt lt_r_axt))
  have f347 := f320.other W335 (Or.inl (Nat.ne_of_lt lt_r_axt))
  have f348 := f321.other W335 (Nat.ne_of_lt lt_axr_axt)
  have f349 := F308.other W335 (Nat.ne_of_lt lt_axf_axt)
  have f351 := f324.other W335 (Nat.ne_of_gt lt_axt_axw)
  have f352 := f325.other W335 (Nat.ne_of_gt lt_axt_ayr)
  have f353 := f326.other W335 (Nat.ne_of_gt lt_axt_ayf)
  have f354 := f327.other W335 (Nat.ne_of_gt lt_axt_ayt)
  have f355 := f328.other W335 (Nat.ne_of_gt lt_axt_ayw)
  have f356 := f329.wr W335
  have f357 := f330.wr W335
  have f358 := f331.wr W335
  have f359 := f332.wr W335
  show own_End p e below s _ _ _ (T335.setTop (mkF m 169 #[.val (.ref r), .val (.ref t1), .val (.ref t2), .val (.int i1), .val (.int i2), .val (.ref t3), .val (.ref t4), .val (.int i3), .val (.int i4), .unset] []))
  refine own_go (fun t k => XS.aloadN X335.here hx rfl (hb hby d3_169) rfl rfl k) ?_
  show own_End p e below s _ _ _ (T335.setTop (mkF m 170 #[.val (.ref r), .val (.ref t1), .val (.ref t2), .val (.int i1), .val (.int i2), .val (.ref t3), .val (.ref t4), .val (.int i3), .val (.int i4), .unset] [(.ref r)]))
  obtain ⟨T360, X360, e360, st360⟩ := getF X335 hx hZ hown (host := "") (Or.inl (hw _ (List.mem_of_getElem? (i := 22) rfl))) Via.refl e335 f341 (g := (mkF m 170 #[.val (.ref r), .val (.ref t1), .val (.ref t2), .val (.int i1), .val (.int i2), .val (.ref t3), .val (.ref t4), .val (.int i3), .val (.int i4), .unset] [(.ref r)])) rfl rfl (hb hby d3_170)
  refine own_go st360 ?_
  show own_End p e below s _ _ _ (T360.setTop (mkF m 173 #[.val (.ref r), .val (.ref t1), .val (.ref t2), .val (.int i1), .val (.int i2), .val (.ref t3), .val (.ref t4), .val (.int i3), .val (.int i4), .unset] [(.ref axw)]))
  refine own_go (fun t k => XS.aloadN X360.here hx rfl (hb hby d3_173) rfl rfl k) ?_
  show own_End p e below s _ _ _ (T360.setTop (mkF m 174 #[.val (.ref r), .val (.ref t1), .val (.ref t2), .val (.int i1), .val (.int i2), .val (.ref t3), .val (.ref t4), .val (.int i3), .val (.int i4), .unset] [(.ref r), (.ref axw)]))
  obtain ⟨T361, X361, e361, st361⟩ := getF X360 hx hZ hown (host := "") (Or.inl (hw _ (List.mem_of_getElem? (i := 37) rfl))) Via.refl e360 f346 (g := (mkF m 174 #[.val (.ref r), .val (.ref t1), .val (.ref t2), .val (.int i1), .val (.int i2), .val (.ref t3), .val (.ref t4), .val (.int i3), .val (.int i4), .unset] [(.ref r), (.ref axw)])) rfl rfl (hb hby d3_174)
  refine own_go st361 ?_
  show own_End p e below s _ _ _ (T361.setTop (mkF m 177 #[.val (.ref r), .val (.ref t1), .val (.ref t2), .val (.int i1), .val (.int i2), .val (.ref t3), .val (.ref t4), .val (.int i3), .val (.int i4), .unset] [(.int cnt), (.ref axw)]))
  refine own_go (fun t k => XS.aloadN X361.here hx rfl (hb hby d3_177) rfl rfl k) ?_
  show own_End p e below s _ _ _ (T361.setTop (mkF m 178 #[.val (.ref r), .val (.ref t1), .val (.ref t2), .val (.int i1), .val (.int i2), .val (.ref t3), .val (.ref t4), .val (.int i3), .val (.int i4), .unset] [(.ref t2), (.int cnt), (.ref axw)]))
  obtain ⟨T362, h362, X362, e362, W362, F362, st362⟩ := own_fstA X361 hx hZ e361 f351 rfl (f351.sto Oaxw f357) (j := cnt) (v := (.ref t2)) i hi (by omega) (pc := 178) (Ls := #[.val (.ref r), .val (.ref t1), .val (.ref t2), .val (.int i1), .val (.int i2), .val (.ref t3), .val (.ref t4), .val (.int i3), .val (.int i4), .unset]) (rest := []) (hb hby d3_178)
  have N362 := Fr.snoc X362 N335 naxw
  have Z362 : n0 ≤ h362.size := by rw [W362.size]; exact Z335
  refine own_go st362 ?_
  have K363 := K336.wr W362 (Or.inl (List.mem_of_getElem? (i := 4) rfl))
  have f364 := f337.wr W362
  have f365 := f338.other W362 (Or.inl (Nat.ne_of_lt lt_r_axw))
  have f366 := f339.other W362 (Or.inl (Nat.ne_of_lt lt_r_axw))
  have f367 := f340.other W362 (Or.inl (Nat.ne_of_lt lt_r_axw))
  have f368 := f341.other W362 (Or.inl (Nat.ne_of_lt lt_r_axw))
  have f369 := f342.other W362 (Or.inl (Nat.ne_of_lt lt_r_axw))
  have f370 := f343.other W362 (Or.inl (Nat.ne_of_lt lt_r_axw))
  have f371 := f344.other W362 (Or.inl (Nat.ne_of_lt lt_r_axw))
  have f372 := f345.other W362 (Or.inl (Nat.ne_of_lt lt_r_axw))
  have f373 := f346.other W362 (Or.inl (Nat.ne_of_lt lt_r_axw))
  have f374 := f347.other W362 (Or.inl (Nat.ne_of_lt lt_r_axw))
  have f375 := f348.other W362 (Nat.ne_of_lt lt_axr_axw)
  have f376 := f349.other W362 (Nat.ne_of_lt lt_axf_axw)
  have f377 := F335.other W362 (Nat.ne_of_lt lt_axt_axw)
  have f379 := f352.other W362 (Nat.ne_of_gt lt_axw_ayr)
  have f380 := f353.other W362 (Nat.ne_of_gt lt_axw_ayf)
  have f381 := f354.other W362 (Nat.ne_of_gt lt_axw_ayt)
  have f382 := f355.other W362 (Nat.ne_of_gt lt_axw_ayw)
  have f383 := f356.wr W362
  have f384 := f357.wr W362
  have f385 := f358.wr W362
  have f386 := f359.wr W362
  show own_End p e below s _ _ _ (T362.setTop (mkF m 179 #[.val (.ref r), .val (.ref t1), .val (.ref t2), .val (.int i1), .val (.int i2), .val (.ref t3), .val (.ref t4), .val (.int i3), .val (.int i4), .unset] []))
  refine own_go (fun t k => XS.aloadN X362.here hx rfl (hb hby d3_179) rfl rfl k) ?_
  show own_End p e below s _ _ _ (T362.setTop (mkF m 180 #[.val (.ref r), .val (.ref t1), .val (.ref t2), .val (.int i1), .val (.int i2), .val (.ref t3), .val (.ref t4), .val (.int i3), .val (.int i4), .unset] [(.ref r)]))
  obtain ⟨T387, X387, e387, st387⟩ := getF X362 hx hZ hown (host := "") (Or.inl (hw _ (List.mem_of_getElem? (i := 24) rfl))) Via.refl e362 f369 (g := (mkF m 180 #[.val (.ref r), .val (.ref t1), .val (.ref t2), .val (.int i1), .val (.int i2), .val (.ref t3), .val (.ref t4), .val (.int i3), .val (.int i4), .unset] [(.ref r)])) rfl rfl (hb hby d3_180)
  refine own_go st387 ?_
  show own_End p e below s _ _ _ (T387.setTop (mkF m 183 #[.val (.ref r), .val (.ref t1), .val (.ref t2), .val (.int i1), .val (.int i2), .val (.ref t3), .val (.ref t4), .val (.int i3), .val (.int i4), .unset] [(.ref ayr)]))
  refine own_go (fun t k => XS.aloadN X387.here hx rfl (hb hby d3_183) rfl rfl k) ?_
  show own_End p e below s _ _ _ (T387.setTop (mkF m 184 #[.val (.ref r), .val (.ref t1), .val (.ref t2), .val (.int i1), .val (.int i2), .val (.ref t3), .val (.ref t4), .val (.int i3), .val (.int i4), .unset] [(.ref r), (.ref ayr)]))
  obtain ⟨T388, X388, e388, st388⟩ := getF X387 hx hZ hown (host := "") (Or.inl (hw _ (List.mem_of_getElem? (i := 37) rfl))) Via.refl e387 f373 (g := (mkF m 184 #[.val (.ref r), .val (.ref t1), .val (.ref t2), .val (.int i1), .val (.int i2), .val (.ref t3), .val (.ref t4), .val (.int i3), .val (.int i4), .unset] [(.ref r), (.ref ayr)])) rfl rfl (hb hby d3_184)
  refine own_go st388 ?_
  show own_End p e below s _ _ _ (T388.setTop (mkF m 187 #[.val (.ref r), .val (.ref t1), .val (.ref t2), .val (.int i1), .val (.int i2), .val (.ref t3), .val (.ref t4), .val (.int i3), .val (.int i4), .unset] [(.int cnt), (.ref ayr)]))
  refine own_go (fun t k => XS.aload X388.here hx rfl (hb hby d3_187) rfl rfl k) ?_
  show own_End p e below s _ _ _ (T388.setTop (mkF m 189 #[.val (.ref r), .val (.ref t1), .val (.ref t2), .val (.int i1), .val (.int i2), .val (.ref t3), .val (.ref t4), .val (.int i3), .val (.int i4), .unset] [(.ref t3), (.int cnt), (.ref ayr)]))
  obtain ⟨T389, h389, X389, e389, W389, F389, st389⟩ := own_fstA X388 hx hZ e388 f379 rfl (f379.sto Oayr f385) (j := cnt) (v := (.ref t3)) i hi (by omega) (pc := 189) (Ls := #[.val (.ref r), .val (.ref t1), .val (.ref t2), .val (.int i1), .val (.int i2), .val (.ref t3), .val (.ref t4), .val (.int i3), .val (.int i4), .unset]) (rest := []) (hb hby d3_189)
  have N389 := Fr.snoc X389 N362 nayr
  have Z389 : n0 ≤ h389.size := by rw [W389.size]; exact Z362
  refine own_go st389 ?_
  have K390 := K363.wr W389 (Or.inl (List.mem_of_getElem? (i := 5) rfl))
  have f391 := f364.wr W389
  have f392 := f365.other W389 (Or.inl (Nat.ne_of_lt lt_r_ayr))
  have f393 := f366.other W389 (Or.inl (Nat.ne_of_lt lt_r_ayr))
  have f394 := f367.other W389 (Or.inl (Nat.ne_of_lt lt_r_ayr))
  have f395 := f368.other W389 (Or.inl (Nat.ne_of_lt lt_r_ayr))
  have f396 := f369.other W389 (Or.inl (Nat.ne_of_lt lt_r_ayr))
  have f397 := f370.other W389 (Or.inl (Nat.ne_of_lt lt_r_ayr))
  have f398 := f371.other W389 (Or.inl (Nat.ne_of_lt lt_r_ayr))
  have f399 := f372.other W389 (Or.inl (Nat.ne_of_lt lt_r_ayr))
  have f400 := f373.other W389 (Or.inl (Nat.ne_of_lt lt_r_ayr))
  have f401 := f374.other W389 (Or.inl (Nat.ne_of_lt lt_r_ayr))
  have f402 := f375.other W389 (Nat.ne_of_lt lt_axr_ayr)
  have f403 := f376.other W389 (Nat.ne_of_lt lt_axf_ayr)
  have f404 := f377.other W389 (Nat.ne_of_lt lt_axt_ayr)
  have f405 := F362.other W389 (Nat.ne_of_lt lt_axw_ayr)
  have f407 := f380.other W389 (Nat.ne_of_gt lt_ayr_ayf)
  have f408 := f381.other W389 (Nat.ne_of_gt lt_ayr_ayt)
  have f409 := f382.other W389 (Nat.ne_of_gt lt_ayr_ayw)
  have f410 := f383.wr W389
  have f411 := f384.wr W389
  have f412 := f385.wr W389
  have f413 := f386.wr W389
  show own_End p e below s _ _ _ (T389.setTop (mkF m 190 #[.val (.ref r), .val (.ref t1), .val (.ref t2), .val (.int i1), .val (.int i2), .val (.ref t3), .val (.ref t4), .val (.int i3), .val (.int i4), .unset] []))
  refine own_go (fun t k => XS.aloadN X389.here hx rfl (hb hby d3_190) rfl rfl k) ?_
  show own_End p e below s _ _ _ (T389.setTop (mkF m 191 #[.val (.ref r), .val (.ref t1), .val (.ref t2), .val (.int i1), .val (.int i2), .val (.ref t3), .val (.ref t4), .val (.int i3), .val (.int i4), .unset] [(.ref r)]))
  obtain ⟨T414, X414, e414, st414⟩ := getF X389 hx hZ hown (host := "") (Or.inl (hw _ (List.mem_of_getElem? (i := 26) rfl))) Via.refl e389 f397 (g := (mkF m 191 #[.val (.ref r), .val (.ref t1), .val (.ref t2), .val (.int i1), .val (.int i2), .val (.ref t3), .val (.ref t4), .val (.int i3), .val (.int i4), .unset] [(.ref r)])) rfl rfl (hb hby d3_191)
  refine own_go st414 ?_
  show own_End p e below s _ _ _ (T414.setTop (mkF m 194 #[.val (.ref r), .val (.ref t1), .val (.ref t2), .val (.int i1), .val (.int i2), .val (.ref t3), .val (.ref t4), .val (.int i3), .val (.int i4), .unset] [(.ref ayf)]))
  refine own_go (fun t k => XS.aloadN X414.here hx rfl (hb hby d3_194) rfl rfl k) ?_
  show own_End p e below s _ _ _ (T414.setTop (mkF m 195 #[.val (.ref r), .val (.ref t1), .val (.ref t2), .val (.int i1), .val (.int i2), .val (.ref t3), .val (.ref t4), .val (.int i3), .val (.int i4), .unset] [(.ref r), (.ref ayf)]))
  obtain ⟨T415, X415, e415, st415⟩ := getF X414 hx hZ hown (host := "") (Or.inl (hw _ (List.mem_of_getElem? (i := 37) rfl))) Via.refl e414 f400 (g := (mkF m 195 #[.val (.ref r), .val (.ref t1), .val (.ref t2), .val (.int i1), .val (.int i2), .val (.ref t3), .val (.ref t4), .val (.int i3), .val (.int i4), .unset] [(.ref r), (.ref ayf)])) rfl rfl (hb hby d3_195)
  refine own_go st415 ?_
  show own_End p e below s _ _ _ (T415.setTop (mkF m 198 #[.val (.ref r), .val (.ref t1), .val (.ref t2), .val (.int i1), .val (.int i2), .val (.ref t3), .val (.ref t4), .val (.int i3), .val (.int i4), .unset] [(.int cnt), (.ref ayf)]))
  refine own_go (fun t k => XS.iload X415.here hx rfl (hb hby d3_198) rfl k) ?_
  show own_End p e below s _ _ _ (T415.setTop (mkF m 200 #[.val (.ref r), .val (.ref t1), .val (.ref t2), .val (.int i1), .val (.int i2), .val (.ref t3), .val (.ref t4), .val (.int i3), .val (.int i4), .unset] [(.int i3), (.int cnt), (.ref ayf)]))
  obtain ⟨T416, h416, X416, e416, W416, F416, st416⟩ := own_fstI X415 hx hZ e415 f407 (j := cnt) (x := i3) i hi (by omega) (pc := 200) (Ls := #[.val (.ref r), .val (.ref t1), .val (.ref t2), .val (.int i1), .val (.int i2), .val (.ref t3), .val (.ref t4), .val (.int i3), .val (.int i4), .unset]) (rest := []) (hb hby d3_200)
  have N416 := Fr.snoc X416 N389 nayf
  have Z416 : n0 ≤ h416.size := by rw [W416.size]; exact Z389
  refine own_go st416 ?_
  have K417 := K390.wr W416 (Or.inl (List.mem_of_getElem? (i := 6) rfl))
  have f418 := f391.wr W416
  have f419 := f392.other W416 (Or.inl (Nat.ne_of_lt lt_r_ayf))
  have f420 := f393.other W416 (Or.inl (Nat.ne_of_lt lt_r_ayf))
  have f421 := f394.other W416 (Or.inl (Nat.ne_of_lt lt_r_ayf))
  have f422 := f395.other W416 (Or.inl (Nat.ne_of_lt lt_r_ayf))
  have f423 := f396.other W416 (Or.inl (Nat.ne_of_lt lt_r_ayf))
  have f424 := f397.other W416 (Or.inl (Nat.ne_of_lt lt_r_ayf))
  have f425 := f398.other W416 (Or.inl (Nat.ne_of_lt lt_r_ayf))
  have f426 := f399.other W416 (Or.inl (Nat.ne_of_lt lt_r_ayf))
  have f427 := f400.other W416 (Or.inl (Nat.ne_of_lt lt_r_ayf))
  have f428 := f401.other W416 (Or.inl (Nat.ne_of_lt lt_r_ayf))
  have f429 := f402.other W416 (Nat.ne_of_lt lt_axr_ayf)
  have f430 := f403.other W416 (Nat.ne_of_lt lt_axf_ayf)
  have f431 := f404.other W416 (Nat.ne_of_lt lt_axt_ayf)
  have f432 := f405.other W416 (Nat.ne_of_lt lt_axw_ayf)
  have f433 := F389.other W416 (Nat.ne_of_lt lt_ayr_ayf)
  have f435 := f408.other W416 (Nat.ne_of_gt lt_ayf_ayt)
  have f436 := f409.other W416 (Nat.ne_of_gt lt_ayf_ayw)
  have f437 := f410.wr W416
  have f438 := f411.wr W416
  have f439 := f412.wr W416
  have f440 := f413.wr W416
  show own_End p e below s _ _ _ (T416.setTop (mkF m 201 #[.val (.ref r), .val (.ref t1), .val (.ref t2), .val (.int i1), .val (.int i2), .val (.ref t3), .val (.ref t4), .val (.int i3), .val (.int i4), .unset] []))
  refine own_go (fun t k => XS.aloadN X416.here hx rfl (hb hby d3_201) rfl rfl k) ?_
  show own_End p e below s _ _ _ (T416.setTop (mkF m 202 #[.val (.ref r), .val (.ref t1), .val (.ref t2), .val (.int i1), .val (.int i2), .val (.ref t3), .val (.ref t4), .val (.int i3), .val (.int i4), .unset] [(.ref r)]))
  obtain ⟨T441, X441, e441, st441⟩ := getF X416 hx hZ hown (host := "") (Or.inl (hw _ (List.mem_of_getElem? (i := 28) rfl))) Via.refl e416 f425 (g := (mkF m 202 #[.val (.ref r), .val (.ref t1), .val (.ref t2), .val (.int i1), .val (.int i2), .val (.ref t3), .val (.ref t4), .val (.int i3), .val (.int i4), .unset] [(.ref r)])) rfl rfl (hb hby d3_202)
  refine own_go st441 ?_
  show own_End p e below s _ _ _ (T441.setTop (mkF m 205 #[.val (.ref r), .val (.ref t1), .val (.ref t2), .val (.int i1), .val (.int i2), .val (.ref t3), .val (.ref t4), .val (.int i3), .val (.int i4), .unset] [(.ref ayt)]))
  refine own_go (fun t k => XS.aloadN X441.here hx rfl (hb hby d3_205) rfl rfl k) ?_
  show own_End p e below s _ _ _ (T441.setTop (mkF m 206 #[.val (.ref r), .val (.ref t1), .val (.ref t2), .val (.int i1), .val (.int i2), .val (.ref t3), .val (.ref t4), .val (.int i3), .val (.int i4), .unset] [(.ref r), (.ref ayt)]))
  obtain ⟨T442, X442, e442, st442⟩ := getF X441 hx hZ hown (host := "") (Or.inl (hw _ (List.mem_of_getElem? (i := 37) rfl))) Via.refl e441 f427 (g := (mkF m 206 #[.val (.ref r), .val (.ref t1), .val (.ref t2), .val (.int i1), .val (.int i2), .val (.ref t3), .val (.ref t4), .val (.int i3), .val (.int i4), .unset] [(.ref r), (.ref ayt)])) rfl rfl (hb hby d3_206)
  refine own_go st442 ?_
  show own_End p e below s _ _ _ (T442.setTop (mkF m 209 #[.val (.ref r), .val (.ref t1), .val (.ref t2), .val (.int i1), .val (.int i2), .val (.ref t3), .val (.ref t4), .val (.int i3), .val (.int i4), .unset] [(.int cnt), (.ref ayt)]))
  refine own_go (fun t k => XS.iload X442.here hx rfl (hb hby d3_209) rfl k) ?_
  show own_End p e below s _ _ _ (T442.setTop (mkF m 211 #[.val (.ref r), .val (.ref t1), .val (.ref t2), .val (.int i1), .val (.int i2), .val (.ref t3), .val (.ref t4), .val (.int i3), .val (.int i4), .unset] [(.int i4), (.int cnt), (.ref ayt)]))
  obtain ⟨T443, h443, X443, e443, W443, F443, st443⟩ := own_fstI X442 hx hZ e442 f435 (j := cnt) (x := i4) i hi (by omega) (pc := 211) (Ls := #[.val (.ref r), .val (.ref t1), .val (.ref t2), .val (.int i1), .val (.int i2), .val (.ref t3), .val (.ref t4), .val (.int i3), .val (.int i4), .unset]) (rest := []) (hb hby d3_211)
  have N443 := Fr.snoc X443 N416 nayt
  have Z443 : n0 ≤ h443.size := by rw [W443.size]; exact Z416
  refine own_go st443 ?_
  have K444 := K417.wr W443 (Or.inl (List.mem_of_getElem? (i := 7) rfl))
  have f445 := f418.wr W443
  have f446 := f419.other W443 (Or.inl (Nat.ne_of_lt lt_r_ayt))
  have f447 := f420.other W443 (Or.inl (Nat.ne_of_lt lt_r_ayt))
  have f448 := f421.other W443 (Or.inl (Nat.ne_of_lt lt_r_ayt))
  have f449 := f422.other W443 (Or.inl (Nat.ne_of_lt lt_r_ayt))
  have f450 := f423.other W443 (Or.inl (Nat.ne_of_lt lt_r_ayt))
  have f451 := f424.other W443 (Or.inl (Nat.ne_of_lt lt_r_ayt))
  have f452 := f425.other W443 (Or.inl (Nat.ne_of_lt lt_r_ayt))
  have f453 := f426.other W443 (Or.inl (Nat.ne_of_lt lt_r_ayt))
  have f454 := f427.other W443 (Or.inl (Nat.ne_of_lt lt_r_ayt))
  have f455 := f428.other W443 (Or.inl (Nat.ne_of_lt lt_r_ayt))
  have f456 := f429.other W443 (Nat.ne_of_lt lt_axr_ayt)
  have f457 := f430.other W443 (Nat.ne_of_lt lt_axf_ayt)
  have f458 := f431.other W443 (Nat.ne_of_lt lt_axt_ayt)
  have f459 := f432.other W443 (Nat.ne_of_lt lt_axw_ayt)
  have f460 := f433.other W443 (Nat.ne_of_lt lt_ayr_ayt)
  have f461 := F416.other W443 (Nat.ne_of_lt lt_ayf_ayt)
  have f463 := f436.other W443 (Nat.ne_of_gt lt_ayt_ayw)
  have f464 := f437.wr W443
  have f465 := f438.wr W443
  have f466 := f439.wr W443
  have f467 := f440.wr W443
  show own_End p e below s _ _ _ (T443.setTop (mkF m 212 #[.val (.ref r), .val (.ref t1), .val (.ref t2), .val (.int i1), .val (.int i2), .val (.ref t3), .val (.ref t4), .val (.int i3), .val (.int i4), .unset] []))
  refine own_go (fun t k => XS.aloadN X443.here hx rfl (hb hby d3_212) rfl rfl k) ?_
  show own_End p e below s _ _ _ (T443.setTop (mkF m 213 #[.val (.ref r), .val (.ref t1), .val (.ref t2), .val (.int i1), .val (.int i2), .val (.ref t3), .val (.ref t4), .val (.int i3), .val (.int i4), .unset] [(.ref r)]))
  obtain ⟨T468, X468, e468, st468⟩ := getF X443 hx hZ hown (host := "") (Or.inl (hw _ (List.mem_of_getElem? (i := 30) rfl))) Via.refl e443 f453 (g := (mkF m 213 #[.val (.ref r), .val (.ref t1), .val (.ref t2), .val (.int i1), .val (.int i2), .val (.ref t3), .val (.ref t4), .val (.int i3), .val (.int i4), .unset] [(.ref r)])) rfl rfl (hb hby d3_213)
  refine own_go st468 ?_
  show own_End p e below s _ _ _ (T468.setTop (mkF m 216 #[.val (.ref r), .val (.ref t1), .val (.ref t2), .val (.int i1), .val (.int i2), .val (.ref t3), .val (.ref t4), .val (.int i3), .val (.int i4), .unset] [(.ref ayw)]))
  refine own_go (fun t k => XS.aloadN X468.here hx rfl (hb hby d3_216) rfl rfl k) ?_
  show own_End p e below s _ _ _ (T468.setTop (mkF m 217 #[.val (.ref r), .val (.ref t1), .val (.ref t2), .val (.int i1), .val (.int i2), .val (.ref t3), .val (.ref t4), .val (.int i3), .val (.int i4), .unset] [(.ref r), (.ref ayw)]))
  obtain ⟨T469, X469, e469, st469⟩ := getF X468 hx hZ hown (host := "") (Or.inl (hw _ (List.mem_of_getElem? (i := 37) rfl))) Via.refl e468 f454 (g := (mkF m 217 #[.val (.ref r), .val (.ref t1), .val (.ref t2), .val (.int i1), .val (.int i2), .val (.ref t3), .val (.ref t4), .val (.int i3), .val (.int i4), .unset] [(.ref r), (.ref ayw)])) rfl rfl (hb hby d3_217)
  refine own_go st469 ?_
  show own_End p e below s _ _ _ (T469.setTop (mkF m 220 #[.val (.ref r), .val (.ref t1), .val (.ref t2), .val (.int i1), .val (.int i2), .val (.ref t3), .val (.ref t4), .val (.int i3), .val (.int i4), .unset] [(.int cnt), (.ref ayw)]))
  refine own_go (fun t k => XS.aload X469.here hx rfl (hb hby d3_220) rfl rfl k) ?_
  show own_End p e below s _ _ _ (T469.setTop (mkF m 222 #[.val (.ref r), .val (.ref t1), .val (.ref t2), .val (.int i1), .val (.int i2), .val (.ref t3), .val (.ref t4), .val (.int i3), .val (.int i4), .unset] [(.ref t4), (.int cnt), (.ref ayw)]))
  obtain ⟨T470, h470, X470, e470, W470, F470, st470⟩ := own_fstA X469 hx hZ e469 f463 rfl (f463.sto Oayw f467) (j := cnt) (v := (.ref t4)) i hi (by omega) (pc := 222) (Ls := #[.val (.ref r), .val (.ref t1), .val (.ref t2), .val (.int i1), .val (.int i2), .val (.ref t3), .val (.ref t4), .val (.int i3), .val (.int i4), .unset]) (rest := []) (hb hby d3_222)
  have N470 := Fr.snoc X470 N443 nayw
  have Z470 : n0 ≤ h470.size := by rw [W470.size]; exact Z443
  refine own_go st470 ?_
  have K471 := K444.wr W470 (Or.inl (List.mem_of_getElem? (i := 8) rfl))
  have f472 := f445.wr W470
  have f473 := f446.other W470 (Or.inl (Nat.ne_of_lt lt_r_ayw))
  have f474 := f447.other W470 (Or.inl (Nat.ne_of_lt lt_r_ayw))
  have f475 := f448.other W470 (Or.inl (Nat.ne_of_lt lt_r_ayw))
  have f476 := f449.other W470 (Or.inl (Nat.ne_of_lt lt_r_ayw))
  have f477 := f450.other W470 (Or.inl (Nat.ne_of_lt lt_r_ayw))
  have f478 := f451.other W470 (Or.inl (Nat.ne_of_lt lt_r_ayw))
  have f479 := f452.other W470 (Or.inl (Nat.ne_of_lt lt_r_ayw))
  have f480 := f453.other W470 (Or.inl (Nat.ne_of_lt lt_r_ayw))
  have f481 := f454.other W470 (Or.inl (Nat.ne_of_lt lt_r_ayw))
  have f482 := f455.other W470 (Or.inl (Nat.ne_of_lt lt_r_ayw))
  have f483 := f456.other W470 (Nat.ne_of_lt lt_axr_ayw)
  have f484 := f457.other W470 (Nat.ne_of_lt lt_axf_ayw)
  have f485 := f458.other W470 (Nat.ne_of_lt lt_axt_ayw)
  have f486 := f459.other W470 (Nat.ne_of_lt lt_axw_ayw)
  have f487 := f460.other W470 (Nat.ne_of_lt lt_ayr_ayw)
  have f488 := f461.other W470 (Nat.ne_of_lt lt_ayf_ayw)
  have f489 := F443.other W470 (Nat.ne_of_lt lt_ayt_ayw)
  have f491 := f464.wr W470
  have f492 := f465.wr W470
  have f493 := f466.wr W470
  have f494 := f467.wr W470
  show own_End p e below s _ _ _ (T470.setTop (mkF m 223 #[.val (.ref r), .val (.ref t1), .val (.ref t2), .val (.int i1), .val (.int i2), .val (.ref t3), .val (.ref t4), .val (.int i3), .val (.int i4), .unset] []))
  refine own_go (fun t k => XS.aloadN X470.here hx rfl (hb hby d3_223) rfl rfl k) ?_
  show own_End p e below s _ _ _ (T470.setTop (mkF m 224 #[.val (.ref r), .val (.ref t1), .val (.ref t2), .val (.int i1), .val (.int i2), .val (.ref t3), .val (.ref t4), .val (.int i3), .val (.int i4), .unset] [(.ref r)]))
  refine own_go (fun t k => XS.dup X470.here hx rfl (hb hby d3_224) rfl rfl k) ?_
  show own_End p e below s _ _ _ (T470.setTop (mkF m 225 #[.val (.ref r), .val (.ref t1), .val (.ref t2), .val (.int i1), .val (.int i2), .val (.ref t3), .val (.ref t4), .val (.int i3), .val (.int i4), .unset] [(.ref r), (.ref r)]))
  obtain ⟨T495, X495, e495, st495⟩ := getF X470 hx hZ hown (host := "") (Or.inl (hw _ (List.mem_of_getElem? (i := 37) rfl))) Via.refl e470 f481 (g := (mkF m 225 #[.val (.ref r), .val (.ref t1), .val (.ref t2), .val (.int i1), .val (.int i2), .val (.ref t3), .val (.ref t4), .val (.int i3), .val (.int i4), .unset] [(.ref r), (.ref r)])) rfl rfl (hb hby d3_225)
  refine own_go st495 ?_
  show own_End p e below s _ _ _ (T495.setTop (mkF m 228 #[.val (.ref r), .val (.ref t1), .val (.ref t2), .val (.int i1), .val (.int i2), .val (.ref t3), .val (.ref t4), .val (.int i3), .val (.int i4), .unset] [(.int cnt), (.ref r)]))
  refine own_go (fun t k => XS.iconst X495.here hx rfl (hb hby d3_228) k) ?_
  show own_End p e below s _ _ _ (T495.setTop (mkF m 229 #[.val (.ref r), .val (.ref t1), .val (.ref t2), .val (.int i1), .val (.int i2), .val (.ref t3), .val (.ref t4), .val (.int i3), .val (.int i4), .unset] [(.int (1 : Int32)), (.int cnt), (.ref r)]))
  refine own_go (fun t k => XS.iadd X495.here hx rfl (hb hby d3_229) rfl k) ?_
  show own_End p e below s _ _ _ (T495.setTop (mkF m 230 #[.val (.ref r), .val (.ref t1), .val (.ref t2), .val (.int i1), .val (.int i2), .val (.ref t3), .val (.ref t4), .val (.int i3), .val (.int i4), .unset] [(.int (cnt + (1 : Int32))), (.ref r)]))
  obtain ⟨T496, h496, X496, e496, W496, st496⟩ := putF X495 hx hZ hown (host := "") (Or.inl (hw _ (List.mem_of_getElem? (i := 37) rfl))) Via.refl e495 f481 f472 (Or.inl (hw _ (List.mem_of_getElem? (i := 38) rfl))) (hw _ (List.mem_of_getElem? (i := 4) rfl)) (ty := .int) (by decide) rfl rfl (g := (mkF m 230 #[.val (.ref r), .val (.ref t1), .val (.ref t2), .val (.int i1), .val (.int i2), .val (.ref t3), .val (.ref t4), .val (.int i3), .val (.int i4), .unset] [(.int (cnt + (1 : Int32))), (.ref r)])) rfl rfl (hb hby d3_230)
  have N496 := Fr.snoc X496 N470 nr
  have Z496 : n0 ≤ h496.size := by rw [W496.size]; exact Z470
  refine own_go st496 ?_
  have K497 := K471.wr W496 (Or.inl (List.mem_of_getElem? (i := 0) rfl))
  have f498 := f472.wr W496
  have f499 := f473.other W496 (Or.inr (slot_ne (Or.inl (hw _ (List.mem_of_getElem? (i := 15) rfl))) (Or.inl (hw _ (List.mem_of_getElem? (i := 38) rfl))) (by decide) (t := (.array (.array .int))) (t' := .int) (by decide) (by decide)))
  have f500 := f474.other W496 (Or.inr (slot_ne (Or.inl (hw _ (List.mem_of_getElem? (i := 17) rfl))) (Or.inl (hw _ (List.mem_of_getElem? (i := 38) rfl))) (by decide) (t := (.array .int)) (t' := .int) (by decide) (by decide)))
  have f501 := f475.other W496 (Or.inr (slot_ne (Or.inl (hw _ (List.mem_of_getElem? (i := 19) rfl))) (Or.inl (hw _ (List.mem_of_getElem? (i := 38) rfl))) (by decide) (t := (.array .int)) (t' := .int) (by decide) (by decide)))
  have f502 := f476.other W496 (Or.inr (slot_ne (Or.inl (hw _ (List.mem_of_getElem? (i := 23) rfl))) (Or.inl (hw _ (List.mem_of_getElem? (i := 38) rfl))) (by decide) (t := (.array (.array .long))) (t' := .int) (by decide) (by decide)))
  have f503 := f477.other W496 (Or.inr (slot_ne (Or.inl (hw _ (List.mem_of_getElem? (i := 25) rfl))) (Or.inl (hw _ (List.mem_of_getElem? (i := 38) rfl))) (by decide) (t := (.array (.array .int))) (t' := .int) (by decide) (by decide)))
  have f504 := f478.other W496 (Or.inr (slot_ne (Or.inl (hw _ (List.mem_of_getElem? (i := 27) rfl))) (Or.inl (hw _ (List.mem_of_getElem? (i := 38) rfl))) (by decide) (t := (.array .int)) (t' := .int) (by decide) (by decide)))
  have f505 := f479.other W496 (Or.inr (slot_ne (Or.inl (hw _ (List.mem_of_getElem? (i := 29) rfl))) (Or.inl (hw _ (List.mem_of_getElem? (i := 38) rfl))) (by decide) (t := (.array .int)) (t' := .int) (by decide) (by decide)))
  have f506 := f480.other W496 (Or.inr (slot_ne (Or.inl (hw _ (List.mem_of_getElem? (i := 31) rfl))) (Or.inl (hw _ (List.mem_of_getElem? (i := 38) rfl))) (by decide) (t := (.array (.array .long))) (t' := .int) (by decide) (by decide)))
  have f507 := f481.same W496
  have f508 := f482.other W496 (Or.inr (slot_ne (Or.inl (hw _ (List.mem_of_getElem? (i := 42) rfl))) (Or.inl (hw _ (List.mem_of_getElem? (i := 38) rfl))) (by decide) (t := .int) (t' := .int) (by decide) (by decide)))
  have f509 := f483.other W496 (Nat.ne_of_gt lt_r_axr)
  have f510 := f484.other W496 (Nat.ne_of_gt lt_r_axf)
  have f511 := f485.other W496 (Nat.ne_of_gt lt_r_axt)
  have f512 := f486.other W496 (Nat.ne_of_gt lt_r_axw)
  have f513 := f487.other W496 (Nat.ne_of_gt lt_r_ayr)
  have f514 := f488.other W496 (Nat.ne_of_gt lt_r_ayf)
  have f515 := f489.other W496 (Nat.ne_of_gt lt_r_ayt)
  have f516 := F470.other W496 (Nat.ne_of_gt lt_r_ayw)
  have f517 := f491.wr W496
  have f518 := f492.wr W496
  have f519 := f493.wr W496
  have f520 := f494.wr W496
  show own_End p e below s _ _ _ (T496.setTop (mkF m 233 #[.val (.ref r), .val (.ref t1), .val (.ref t2), .val (.int i1), .val (.int i2), .val (.ref t3), .val (.ref t4), .val (.int i3), .val (.int i4), .unset] []))
  refine own_go (fun t k => XS.aloadN X496.here hx rfl (hb hby d3_233) rfl rfl k) ?_
  show own_End p e below s _ _ _ (T496.setTop (mkF m 234 #[.val (.ref r), .val (.ref t1), .val (.ref t2), .val (.int i1), .val (.int i2), .val (.ref t3), .val (.ref t4), .val (.int i3), .val (.int i4), .unset] [(.ref r)]))
  refine own_go (fun t k => XS.aloadN X496.here hx rfl (hb hby d3_234) rfl rfl k) ?_
  show own_End p e below s _ _ _ (T496.setTop (mkF m 235 #[.val (.ref r), .val (.ref t1), .val (.ref t2), .val (.int i1), .val (.int i2), .val (.ref t3), .val (.ref t4), .val (.int i3), .val (.int i4), .unset] [(.ref r), (.ref r)]))
  obtain ⟨T521, X521, e521, st521⟩ := getF X496 hx hZ hown (host := "") (Or.inl (hw _ (List.mem_of_getElem? (i := 41) rfl))) Via.refl e496 f508 (g := (mkF m 235 #[.val (.ref r), .val (.ref t1), .val (.ref t2), .val (.int i1), .val (.int i2), .val (.ref t3), .val (.ref t4), .val (.int i3), .val (.int i4), .unset] [(.ref r), (.ref r)])) rfl rfl (hb hby d3_235)
  refine own_go st521 ?_
  show own_End p e below s _ _ _ (T521.setTop (mkF m 238 #[.val (.ref r), .val (.ref t1), .val (.ref t2), .val (.int i1), .val (.int i2), .val (.ref t3), .val (.ref t4), .val (.int i3), .val (.int i4), .unset] [(.int pl), (.ref r)]))
  refine own_go (fun t k => XS.iload X521.here hx rfl (hb hby d3_238) rfl k) ?_
  show own_End p e below s _ _ _ (T521.setTop (mkF m 240 #[.val (.ref r), .val (.ref t1), .val (.ref t2), .val (.int i1), .val (.int i2), .val (.ref t3), .val (.ref t4), .val (.int i3), .val (.int i4), .unset] [(.int i2), (.int pl), (.ref r)]))
  refine own_go (fun t k => XS.iloadN X521.here hx rfl (hb hby d3_240) rfl k) ?_
  show own_End p e below s _ _ _ (T521.setTop (mkF m 241 #[.val (.ref r), .val (.ref t1), .val (.ref t2), .val (.int i1), .val (.int i2), .val (.ref t3), .val (.ref t4), .val (.int i3), .val (.int i4), .unset] [(.int i1), (.int i2), (.int pl), (.ref r)]))
  refine own_go (fun t k => XS.isub X521.here hx rfl (hb hby d3_241) rfl k) ?_
  show own_End p e below s _ _ _ (T521.setTop (mkF m 242 #[.val (.ref r), .val (.ref t1), .val (.ref t2), .val (.int i1), .val (.int i2), .val (.ref t3), .val (.ref t4), .val (.int i3), .val (.int i4), .unset] [(.int (i2 - i1)), (.int pl), (.ref r)]))
  have hx1 : 0 ≤ pl.toInt ∧ 0 ≤ (pl + (i2 - i1)).toInt := ⟨hpl, hsm⟩
  obtain ⟨v522, T522, L522, X522, hQ522, st522⟩ := own_callS X521 hx hZ (y := (⟨"java/lang/Math", "addExact", "(II)I"⟩ : MethodName)) 1 hown (hw _ (List.mem_of_getElem? (i := 43) rfl)) (hw _ (List.mem_of_getElem? (i := 44) rfl)) (hw _ (List.mem_of_getElem? (i := 45) rfl)) (hw _ (List.mem_of_getElem? (i := 46) rfl)) (by decide) (rm4 l Z a0 hw [] pl (i2 - i1) h496 n0 Z496 hx1.1 hx1.2) e521 (pc := 242) (Ls := #[.val (.ref r), .val (.ref t1), .val (.ref t2), .val (.int i1), .val (.int i2), .val (.ref t3), .val (.ref t4), .val (.int i3), .val (.int i4), .unset]) [(.int pl), (.int (i2 - i1))] [(.ref r)] (by rw [hml]; rfl) rfl rfl (lenOf pd_II_I rfl) (Nat.le_of_eq rfl) (hb hby d3_242) (by decide) (by decide) (by decide) (by decide)
  obtain ⟨rfl, Nc523, e523⟩ := hQ522
  have N523 := Fr.app N496 Nc523
  refine own_go st522 ?_
  show own_End p e below s _ _ _ (T522.setTop (mkF m 245 #[.val (.ref r), .val (.ref t1), .val (.ref t2), .val (.int i1), .val (.int i2), .val (.ref t3), .val (.ref t4), .val (.int i3), .val (.int i4), .unset] [(.int (pl + (i2 - i1))), (.ref r)]))
  obtain ⟨T524, h524, X524, e524, W524, st524⟩ := putF X522 hx hZ hown (host := "") (Or.inl (hw _ (List.mem_of_getElem? (i := 41) rfl))) Via.refl e523 f508 f498 (Or.inl (hw _ (List.mem_of_getElem? (i := 42) rfl))) (hw _ (List.mem_of_getElem? (i := 4) rfl)) (ty := .int) (by decide) rfl rfl (g := (mkF m 245 #[.val (.ref r), .val (.ref t1), .val (.ref t2), .val (.int i1), .val (.int i2), .val (.ref t3), .val (.ref t4), .val (.int i3), .val (.int i4), .unset] [(.int (pl + (i2 - i1))), (.ref r)])) rfl rfl (hb hby d3_245)
  have N524 := Fr.snoc X524 N523 nr
  have Z524 : n0 ≤ h524.size := by rw [W524.size]; exact Z496
  refine own_go st524 ?_
  have K525 := K497.wr W524 (Or.inl (List.mem_of_getElem? (i := 0) rfl))
  have f526 := f498.wr W524
  have f527 := f499.other W524 (Or.inr (slot_ne (Or.inl (hw _ (List.mem_of_getElem? (i := 15) rfl))) (Or.inl (hw _ (List.mem_of_getElem? (i := 42) rfl))) (by decide) (t := (.array (.array .int))) (t' := .int) (by decide) (by decide)))
  have f528 := f500.other W524 (Or.inr (slot_ne (Or.inl (hw _ (List.mem_of_getElem? (i := 17) rfl))) (Or.inl (hw _ (List.mem_of_getElem? (i := 42) rfl))) (by decide) (t := (.array .int)) (t' := .int) (by decide) (by decide)))
  have f529 := f501.other W524 (Or.inr (slot_ne (Or.inl (hw _ (List.mem_of_getElem? (i := 19) rfl))) (Or.inl (hw _ (List.mem_of_getElem? (i := 42) rfl))) (by decide) (t := (.array .int)) (t' := .int) (by decide) (by decide)))
  have f530 := f502.other W524 (Or.inr (slot_ne (Or.inl (hw _ (List.mem_of_getElem? (i := 23) rfl))) (Or.inl (hw _ (List.mem_of_getElem? (i := 42) rfl))) (by decide) (t := (.array (.array .long))) (t' := .int) (by decide) (by decide)))
  have f531 := f503.other W524 (Or.inr (slot_ne (Or.inl (hw _ (List.mem_of_getElem? (i := 25) rfl))) (Or.inl (hw _ (List.mem_of_getElem? (i := 42) rfl))) (by decide) (t := (.array (.array .int))) (t' := .int) (by decide) (by decide)))
  have f532 := f504.other W524 (Or.inr (slot_ne (Or.inl (hw _ (List.mem_of_getElem? (i := 27) rfl))) (Or.inl (hw _ (List.mem_of_getElem? (i := 42) rfl))) (by decide) (t := (.array .int)) (t' := .int) (by decide) (by decide)))
  have f533 := f505.other W524 (Or.inr (slot_ne (Or.inl (hw _ (List.mem_of_getElem? (i := 29) rfl))) (Or.inl (hw _ (List.mem_of_getElem? (i := 42) rfl))) (by decide) (t := (.array .int)) (t' := .int) (by decide) (by decide)))
  have f534 := f506.other W524 (Or.inr (slot_ne (Or.inl (hw _ (List.mem_of_getElem? (i := 31) rfl))) (Or.inl (hw _ (List.mem_of_getElem? (i := 42) rfl))) (by decide) (t := (.array (.array .long))) (t' := .int) (by decide) (by decide)))
  have f535 := f507.other W524 (Or.inr (slot_ne (Or.inl (hw _ (List.mem_of_getElem? (i := 38) rfl))) (Or.inl (hw _ (List.mem_of_getElem? (i := 42) rfl))) (by decide) (t := .int) (t' := .int) (by decide) (by decide)))
  have f536 := f508.same W524
  have f537 := f509.other W524 (Nat.ne_of_gt lt_r_axr)
  have f538 := f510.other W524 (Nat.ne_of_gt lt_r_axf)
  have f539 := f511.other W524 (Nat.ne_of_gt lt_r_axt)
  have f540 := f512.other W524 (Nat.ne_of_gt lt_r_axw)
  have f541 := f513.other W524 (Nat.ne_of_gt lt_r_ayr)
  have f542 := f514.other W524 (Nat.ne_of_gt lt_r_ayf)
  have f543 := f515.other W524 (Nat.ne_of_gt lt_r_ayt)
  have f544 := f516.other W524 (Nat.ne_of_gt lt_r_ayw)
  have f545 := f517.wr W524
  have f546 := f518.wr W524
  have f547 := f519.wr W524
  have f548 := f520.wr W524
  show own_End p e below s _ _ _ (T524.setTop (mkF m 248 #[.val (.ref r), .val (.ref t1), .val (.ref t2), .val (.int i1), .val (.int i2), .val (.ref t3), .val (.ref t4), .val (.int i3), .val (.int i4), .unset] []))
  exact own_ret X524 hx hret hlk (hb hby d3_248) ⟨rfl, N524, by rw [e524]; exact K525, by rw [e524]; exact ⟨f537, f538, f539, f540, f541, f542, f543, f544, f527, f528, f529, f530, f531, f532, f533, f534, f535, f536⟩⟩ (by decide) (by decide)
set_option maxRecDepth 65536 in
set_option maxHeartbeats 40000000 in
theorem rm5 (l : Launch) (Z : State) (a0 : Array Value) (hw : ∀ d ∈ tables_1, d.before a0 Z = true) (ws : List Jvm.Cond) (r : Addr) (bl : Int32) (ix : Int64) (h0 : Heap) (n0 : Nat) (Z0 : n0 ≤ h0.size) (axr axf axt axw ayr ayf ayt ayw : Addr) (kaxr kaxf kaxt kaxw kayr kayf kayt kayw : ClassId) (gaxr gaxf gaxt gaxw gayr gayf gayt gayw : Nat → Value) (cnt pl : Int32) (hord : @LT.lt Nat _ r axr ∧ @LT.lt Nat _ axr axf ∧ @LT.lt Nat _ axf axt ∧ @LT.lt Nat _ axt axw ∧ @LT.lt Nat _ axw ayr ∧ @LT.lt Nat _ ayr ayf ∧ @LT.lt Nat _ ayf ayt ∧ @LT.lt Nat _ ayt ayw) (nr : n0 ≤ r) (E0 : Exa Z h0 r "com/example/ordinate/ordinate/core/PairBlocks") (F_axr : own_F Z h0 axr kaxr (.array .int) 4 gaxr) (F_axf : own_F Z h0 axf kaxf .int 4 gaxf) (F_axt : own_F Z h0 axt kaxt .int 4 gaxt) (F_axw : own_F Z h0 axw kaxw (.array .long) 4 gaxw) (F_ayr : own_F Z h0 ayr kayr (.array .int) 4 gayr) (F_ayf : own_F Z h0 ayf kayf .int 4 gayf) (F_ayt : own_F Z h0 ayt kayt .int 4 gayt) (F_ayw : own_F Z h0 ayw kayw (.array .long) 4 gayw) (f_xRuns : Fld Z h0 r "com/example/ordinate/ordinate/core/PairBlocks" "xRuns" "[[I" (.ref axr)) (f_xFroms : Fld Z h0 r "com/example/ordinate/ordinate/core/PairBlocks" "xFroms" "[I" (.ref axf)) (f_xTos : Fld Z h0 r "com/example/ordinate/ordinate/core/PairBlocks" "xTos" "[I" (.ref axt)) (f_xWeights : Fld Z h0 r "com/example/ordinate/ordinate/core/PairBlocks" "xWeights" "[[J" (.ref axw)) (f_yRuns : Fld Z h0 r "com/example/ordinate/ordinate/core/PairBlocks" "yRuns" "[[I" (.ref ayr)) (f_yFroms : Fld Z h0 r "com/example/ordinate/ordinate/core/PairBlocks" "yFroms" "[I" (.ref ayf)) (f_yTos : Fld Z h0 r "com/example/ordinate/ordinate/core/PairBlocks" "yTos" "[I" (.ref ayt)) (f_yWeights : Fld Z h0 r "com/example/ordinate/ordinate/core/PairBlocks" "yWeights" "[[J" (.ref ayw)) (f_count : Fld Z h0 r "com/example/ordinate/ordinate/core/PairBlocks" "count" "I" (.int cnt)) (f_xPlaces : Fld Z h0 r "com/example/ordinate/ordinate/core/PairBlocks" "xPlaces" "I" (.int pl)) (xa ya : Addr) (kxa kya : ClassId) (ca cb cc da db dc : Int64) (F_xa : own_F Z h0 xa kxa .long 4 (fun i => .long (own_s4 ca cb cc i))) (F_ya : own_F Z h0 ya kya .long 4 (fun i => .long (own_s4 da db dc i))) (bi nx ny : Nat) (xf yf yt wd : Int32) (hbl : bl.toInt = bi) (hb4 : bi < 4) (h_ayt : gayt bi = .int yt) (h_ayf : gayf bi = .int yf) (h_axf : gaxf bi = .int xf) (h_axw : gaxw bi = .ref xa) (h_ayw : gayw bi = .ref ya) (hwd : yt - yf = wd) (hnz : wd.toInt64 ≠ 0) (hnx : (xf + (ix / wd.toInt64).toInt32).toInt = nx) (hnx1 : ((xf + (ix / wd.toInt64).toInt32) + (1 : Int32)).toInt = ((nx + 1 : Nat) : Int)) (hnx3 : nx < 3) (hny : (yf + (ix - (ix / wd.toInt64) * wd.toInt64).toInt32).toInt = ny) (hny1 : ((yf + (ix - (ix / wd.toInt64) * wd.toInt64).toInt32) + (1 : Int32)).toInt = ((ny + 1 : Nat) : Int)) (hny3 : ny < 3) :
    own_Met l (⟨"com/example/ordinate/ordinate/core/PairBlocks", "weightOf", "(IJ)J"⟩ : MethodName) prog_98_method_11_code 7 (some .long) ws ({ frames := 0, cells := 0, slots := 0, locals := 0 } : Room) #[(.ref r), (.int bl), (.long ix)] Z h0 (fun v h L => v = some (.long (own_v3 ca cb cc nx * own_v3 da db dc ny)) ∧ Fr n0 L ∧ h = h0) := by
  refine own_body (plainFor_of_name pn_PairBlocks) ?_
  intro p e s m below meth c s0 X0 hx hby hml hret hlk hown hnm hZ e0
  replace hown : s.vm.findClass "com/example/ordinate/ordinate/core/PairBlocks" = some m.cls := hown
  have N0 := Fr.nil n0
  have ef : entryFrame m #[(.ref r), (.int bl), (.long ix)] 7 = (mkF m 0 #[.val (.ref r), .val (.int bl), .val (.long ix), .second, .unset, .unset, .unset] []) := by first | (simp [entryFrame, mkF, argsToLocals, Value.category, maxLocals]; done) | rfl
  rw [ef]
  show own_End p e below s _ _ _ (s0.setTop (mkF m 0 #[.val (.ref r), .val (.int bl), .val (.long ix), .second, .unset, .unset, .unset] []))
  have lt_r_axr : @LT.lt Nat _ r axr := hord.1
  have lt_axr_axf : @LT.lt Nat _ axr axf := hord.2.1
  have lt_axf_axt : @LT.lt Nat _ axf axt := hord.2.2.1
  have lt_axt_axw : @LT.lt Nat _ axt axw := hord.2.2.2.1
  have lt_axw_ayr : @LT.lt Nat _ axw ayr := hord.2.2.2.2.1
  have lt_ayr_ayf : @LT.lt Nat _ ayr ayf := hord.2.2.2.2.2.1
  have lt_ayf_ayt : @LT.lt Nat _ ayf ayt := hord.2.2.2.2.2.2.1
  have lt_ayt_ayw : @LT.lt Nat _ ayt ayw := hord.2.2.2.2.2.2.2
  have lt_r_axf : @LT.lt Nat _ r axf := Nat.lt_trans lt_r_axr lt_axr_axf
  have lt_axr_axt : @LT.lt Nat _ axr axt := Nat.lt_trans lt_axr_axf lt_axf_axt
  have lt_axf_axw : @LT.lt Nat _ axf axw := Nat.lt_trans lt_axf_axt lt_axt_axw
  have lt_axt_ayr : @LT.lt Nat _ axt ayr := Nat.lt_trans lt_axt_axw lt_axw_ayr
  have lt_axw_ayf : @LT.lt Nat _ axw ayf := Nat.lt_trans lt_axw_ayr lt_ayr_ayf
  have lt_ayr_ayt : @LT.lt Nat _ ayr ayt := Nat.lt_trans lt_ayr_ayf lt_ayf_ayt
  have lt_ayf_ayw : @LT.lt Nat _ ayf ayw := Nat.lt_trans lt_ayf_ayt lt_ayt_ayw
  have lt_r_axt : @LT.lt Nat _ r axt := Nat.lt_trans lt_r_axf lt_axf_axt
  have lt_axr_axw : @LT.lt Nat _ axr axw := Nat.lt_trans lt_axr_axt lt_axt_axw
  have lt_axf_ayr : @LT.lt Nat _ axf ayr := Nat.lt_trans lt_axf_axw lt_axw_ayr
  have lt_axt_ayf : @LT.lt Nat _ axt ayf := Nat.lt_trans lt_axt_ayr lt_ayr_ayf
  have lt_axw_ayt : @LT.lt Nat _ axw ayt := Nat.lt_trans lt_axw_ayf lt_ayf_ayt
  have lt_ayr_ayw : @LT.lt Nat _ ayr ayw := Nat.lt_trans lt_ayr_ayt lt_ayt_ayw
  have lt_r_axw : @LT.lt Nat _ r axw := Nat.lt_trans lt_r_axt lt_axt_axw
  have lt_axr_ayr : @LT.lt Nat _ axr ayr := Nat.lt_trans lt_axr_axw lt_axw_ayr
  have lt_axf_ayf : @LT.lt Nat _ axf ayf := Nat.lt_trans lt_axf_ayr lt_ayr_ayf
  have lt_axt_ayt : @LT.lt Nat _ axt ayt := Nat.lt_trans lt_axt_ayf lt_ayf_ayt
  have lt_axw_ayw : @LT.lt Nat _ axw ayw := Nat.lt_trans lt_axw_ayt lt_ayt_ayw
  have lt_r_ayr : @LT.lt Nat _ r ayr := Nat.lt_trans lt_r_axw lt_axw_ayr
  have lt_axr_ayf : @LT.lt Nat _ axr ayf := Nat.lt_trans lt_axr_ayr lt_ayr_ayf
  have lt_axf_ayt : @LT.lt Nat _ axf ayt := Nat.lt_trans lt_axf_ayf lt_ayf_ayt
  have lt_axt_ayw : @LT.lt Nat _ axt ayw := Nat.lt_trans lt_axt_ayt lt_ayt_ayw
  have lt_r_ayf : @LT.lt Nat _ r ayf := Nat.lt_trans lt_r_ayr lt_ayr_ayf
  have lt_axr_ayt : @LT.lt Nat _ axr ayt := Nat.lt_trans lt_axr_ayf lt_ayf_ayt
  have lt_axf_ayw : @LT.lt Nat _ axf ayw := Nat.lt_trans lt_axf_ayt lt_ayt_ayw
  have lt_r_ayt : @LT.lt Nat _ r ayt := Nat.lt_trans lt_r_ayf lt_ayf_ayt
  have lt_axr_ayw : @LT.lt Nat _ axr ayw := Nat.lt_trans lt_axr_ayt lt_ayt_ayw
  have lt_r_ayw : @LT.lt Nat _ r ayw := Nat.lt_trans lt_r_ayt lt_ayt_ayw
  refine own_go (fun t k => XS.aloadN X0.here hx rfl (hb hby d5_0) rfl rfl k) ?_
  show own_End p e below s _ _ _ (s0.setTop (mkF m 1 #[.val (.ref r), .val (.int bl), .val (.long ix), .second, .unset, .unset, .unset] [(.ref r)]))
  obtain ⟨T549, X549, e549, st549⟩ := getF X0 hx hZ hown (host := "") (Or.inl (hw _ (List.mem_of_getElem? (i := 28) rfl))) Via.refl e0 f_yTos (g := (mkF m 1 #[.val (.ref r), .val (.int bl), .val (.long ix), .second, .unset, .unset, .unset] [(.ref r)])) rfl rfl (hb hby d5_1)
  refine own_go st549 ?_
  show own_End p e below s _ _ _ (T549.setTop (mkF m 4 #[.val (.ref r), .val (.int bl), .val (.long ix), .second, .unset, .unset, .unset] [(.ref ayt)]))
  refine own_go (fun t k => XS.iloadN X549.here hx rfl (hb hby d5_4) rfl k) ?_
  show own_End p e below s _ _ _ (T549.setTop (mkF m 5 #[.val (.ref r), .val (.int bl), .val (.long ix), .second, .unset, .unset, .unset] [(.int bl), (.ref ayt)]))
  refine own_go (own_fldI X549 hx hZ e549 F_ayt (j := bl) (v := (.int yt)) bi hbl hb4 h_ayt (pc := 5) (Ls := #[.val (.ref r), .val (.int bl), .val (.long ix), .second, .unset, .unset, .unset]) (rest := []) (hb hby d5_5)) ?_
  show own_End p e below s _ _ _ (T549.setTop (mkF m 6 #[.val (.ref r), .val (.int bl), .val (.long ix), .second, .unset, .unset, .unset] [(.int yt)]))
  refine own_go (fun t k => XS.aloadN X549.here hx rfl (hb hby d5_6) rfl rfl k) ?_
  show own_End p e below s _ _ _ (T549.setTop (mkF m 7 #[.val (.ref r), .val (.int bl), .val (.long ix), .second, .unset, .unset, .unset] [(.ref r), (.int yt)]))
  obtain ⟨T550, X550, e550, st550⟩ := getF X549 hx hZ hown (host := "") (Or.inl (hw _ (List.mem_of_getElem? (i := 26) rfl))) Via.refl e549 f_yFroms (g := (mkF m 7 #[.val (.ref r), .val (.int bl), .val (.long ix), .second, .unset, .unset, .unset] [(.ref r), (.int yt)])) rfl rfl (hb hby d5_7)
  refine own_go st550 ?_
  show own_End p e below s _ _ _ (T550.setTop (mkF m 10 #[.val (.ref r), .val (.int bl), .val (.long ix), .second, .unset, .unset, .unset] [(.ref ayf), (.int yt)]))
  refine own_go (fun t k => XS.iloadN X550.here hx rfl (hb hby d5_10) rfl k) ?_
  show own_End p e below s _ _ _ (T550.setTop (mkF m 11 #[.val (.ref r), .val (.int bl), .val (.long ix), .second, .unset, .unset, .unset] [(.int bl), (.ref ayf), (.int yt)]))
  refine own_go (own_fldI X550 hx hZ e550 F_ayf (j := bl) (v := (.int yf)) bi hbl hb4 h_ayf (pc := 11) (Ls := #[.val (.ref r), .val (.int bl), .val (.long ix), .second, .unset, .unset, .unset]) (rest := [(.int yt)]) (hb hby d5_11)) ?_
  show own_End p e below s _ _ _ (T550.setTop (mkF m 12 #[.val (.ref r), .val (.int bl), .val (.long ix), .second, .unset, .unset, .unset] [(.int yf), (.int yt)]))
  refine own_go (fun t k => XS.isub X550.here hx rfl (hb hby d5_12) rfl k) ?_
  show own_End p e below s _ _ _ (T550.setTop (mkF m 13 #[.val (.ref r), .val (.int bl), .val (.long ix), .second, .unset, .unset, .unset] [(.int (yt - yf))]))
  rw [hwd]
  show own_End p e below s _ _ _ (T550.setTop (mkF m 13 #[.val (.ref r), .val (.int bl), .val (.long ix), .second, .unset, .unset, .unset] [(.int wd)]))
  refine own_go (fun t k => XS.istore X550.here hx rfl (hb hby d5_13) rfl (l' := #[.val (.ref r), .val (.int bl), .val (.long ix), .second, .val (.int wd), .unset, .unset]) rfl k) ?_
  show own_End p e below s _ _ _ (T550.setTop (mkF m 15 #[.val (.ref r), .val (.int bl), .val (.long ix), .second, .val (.int wd), .unset, .unset] []))
  refine own_go (fun t k => XS.aloadN X550.here hx rfl (hb hby d5_15) rfl rfl k) ?_
  show own_End p e below s _ _ _ (T550.setTop (mkF m 16 #[.val (.ref r), .val (.int bl), .val (.long ix), .second, .val (.int wd), .unset, .unset] [(.ref r)]))
  obtain ⟨T551, X551, e551, st551⟩ := getF X550 hx hZ hown (host := "") (Or.inl (hw _ (List.mem_of_getElem? (i := 16) rfl))) Via.refl e550 f_xFroms (g := (mkF m 16 #[.val (.ref r), .val (.int bl), .val (.long ix), .second, .val (.int wd), .unset, .unset] [(.ref r)])) rfl rfl (hb hby d5_16)
  refine own_go st551 ?_
  show own_End p e below s _ _ _ (T551.setTop (mkF m 19 #[.val (.ref r), .val (.int bl), .val (.long ix), .second, .val (.int wd), .unset, .unset] [(.ref axf)]))
  refine own_go (fun t k => XS.iloadN X551.here hx rfl (hb hby d5_19) rfl k) ?_
  show own_End p e below s _ _ _ (T551.setTop (mkF m 20 #[.val (.ref r), .val (.int bl), .val (.long ix), .second, .val (.int wd), .unset, .unset] [(.int bl), (.ref axf)]))
  refine own_go (own_fldI X551 hx hZ e551 F_axf (j := bl) (v := (.int xf)) bi hbl hb4 h_axf (pc := 20) (Ls := #[.val (.ref r), .val (.int bl), .val (.long ix), .second, .val (.int wd), .unset, .unset]) (rest := []) (hb hby d5_20)) ?_
  show own_End p e below s _ _ _ (T551.setTop (mkF m 21 #[.val (.ref r), .val (.int bl), .val (.long ix), .second, .val (.int wd), .unset, .unset] [(.int xf)]))
  refine own_go (fun t k => XT.lloadN X551.here hx rfl (hb hby d5_21) rfl k) ?_
  show own_End p e below s _ _ _ (T551.setTop (mkF m 22 #[.val (.ref r), .val (.int bl), .val (.long ix), .second, .val (.int wd), .unset, .unset] [(.long ix), (.int xf)]))
  refine own_go (fun t k => XS.iload X551.here hx rfl (hb hby d5_22) rfl k) ?_
  show own_End p e below s _ _ _ (T551.setTop (mkF m 24 #[.val (.ref r), .val (.int bl), .val (.long ix), .second, .val (.int wd), .unset, .unset] [(.int wd), (.long ix), (.int xf)]))
  refine own_go (fun t k => XT.i2l X551.here hx rfl (hb hby d5_24) rfl k) ?_
  show own_End p e below s _ _ _ (T551.setTop (mkF m 25 #[.val (.ref r), .val (.int bl), .val (.long ix), .second, .val (.int wd), .unset, .unset] [(.long (wd.toInt64)), (.long ix), (.int xf)]))
  refine own_go (fun t k => XT.ldiv X551.here hx rfl (hb hby d5_25) rfl hnz k) ?_
  show own_End p e below s _ _ _ (T551.setTop (mkF m 26 #[.val (.ref r), .val (.int bl), .val (.long ix), .second, .val (.int wd), .unset, .unset] [(.long (ix / (wd.toInt64))), (.int xf)]))
  refine own_go (fun t k => XT.l2i X551.here hx rfl (hb hby d5_26) rfl k) ?_
  show own_End p e below s _ _ _ (T551.setTop (mkF m 27 #[.val (.ref r), .val (.int bl), .val (.long ix), .second, .val (.int wd), .unset, .unset] [(.int ((ix / (wd.toInt64)).toInt32)), (.int xf)]))
  refine own_go (fun t k => XS.iadd X551.here hx rfl (hb hby d5_27) rfl k) ?_
  show own_End p e below s _ _ _ (T551.setTop (mkF m 28 #[.val (.ref r), .val (.int bl), .val (.long ix), .second, .val (.int wd), .unset, .unset] [(.int (xf + ((ix / (wd.toInt64)).toInt32)))]))
  refine own_go (fun t k => XS.istore X551.here hx rfl (hb hby d5_28) rfl (l' := #[.val (.ref r), .val (.int bl), .val (.long ix), .second, .val (.int wd), .val (.int (xf + ((ix / (wd.toInt64)).toInt32))), .unset]) rfl k) ?_
  show own_End p e below s _ _ _ (T551.setTop (mkF m 30 #[.val (.ref r), .val (.int bl), .val (.long ix), .second, .val (.int wd), .val (.int (xf + ((ix / (wd.toInt64)).toInt32))), .unset] []))
  refine own_go (fun t k => XS.aloadN X551.here hx rfl (hb hby d5_30) rfl rfl k) ?_
  show own_End p e below s _ _ _ (T551.setTop (mkF m 31 #[.val (.ref r), .val (.int bl), .val (.long ix), .second, .val (.int wd), .val (.int (xf + ((ix / (wd.toInt64)).toInt32))), .unset] [(.ref r)]))
  obtain ⟨T552, X552, e552, st552⟩ := getF X551 hx hZ hown (host := "") (Or.inl (hw _ (List.mem_of_getElem? (i := 26) rfl))) Via.refl e551 f_yFroms (g := (mkF m 31 #[.val (.ref r), .val (.int bl), .val (.long ix), .second, .val (.int wd), .val (.int (xf + ((ix / (wd.toInt64)).toInt32))), .unset] [(.ref r)])) rfl rfl (hb hby d5_31)
  refine own_go st552 ?_
  show own_End p e below s _ _ _ (T552.setTop (mkF m 34 #[.val (.ref r), .val (.int bl), .val (.long ix), .second, .val (.int wd), .val (.int (xf + ((ix / (wd.toInt64)).toInt32))), .unset] [(.ref ayf)]))
  refine own_go (fun t k => XS.iloadN X552.here hx rfl (hb hby d5_34) rfl k) ?_
  show own_End p e below s _ _ _ (T552.setTop (mkF m 35 #[.val (.ref r), .val (.int bl), .val (.long ix), .second, .val (.int wd), .val (.int (xf + ((ix / (wd.toInt64)).toInt32))), .unset] [(.int bl), (.ref ayf)]))
  refine own_go (own_fldI X552 hx hZ e552 F_ayf (j := bl) (v := (.int yf)) bi hbl hb4 h_ayf (pc := 35) (Ls := #[.val (.ref r), .val (.int bl), .val (.long ix), .second, .val (.int wd), .val (.int (xf + ((ix / (wd.toInt64)).toInt32))), .unset]) (rest := []) (hb hby d5_35)) ?_
  show own_End p e below s _ _ _ (T552.setTop (mkF m 36 #[.val (.ref r), .val (.int bl), .val (.long ix), .second, .val (.int wd), .val (.int (xf + ((ix / (wd.toInt64)).toInt32))), .unset] [(.int yf)]))
  refine own_go (fun t k => XT.lloadN X552.here hx rfl (hb hby d5_36) rfl k) ?_
  show own_End p e below s _ _ _ (T552.setTop (mkF m 37 #[.val (.ref r), .val (.int bl), .val (.long ix), .second, .val (.int wd), .val (.int (xf + ((ix / (wd.toInt64)).toInt32))), .unset] [(.long ix), (.int yf)]))
  refine own_go (fun t k => XS.iload X552.here hx rfl (hb hby d5_37) rfl k) ?_
  show own_End p e below s _ _ _ (T552.setTop (mkF m 39 #[.val (.ref r), .val (.int bl), .val (.long ix), .second, .val (.int wd), .val (.int (xf + ((ix / (wd.toInt64)).toInt32))), .unset] [(.int wd), (.long ix), (.int yf)]))
  refine own_go (fun t k => XT.i2l X552.here hx rfl (hb hby d5_39) rfl k) ?_
  show own_End p e below s _ _ _ (T552.setTop (mkF m 40 #[.val (.ref r), .val (.int bl), .val (.long ix), .second, .val (.int wd), .val (.int (xf + ((ix / (wd.toInt64)).toInt32))), .unset] [(.long (wd.toInt64)), (.long ix), (.int yf)]))
  refine own_go (fun t k => XT.lrem X552.here hx rfl (hb hby d5_40) rfl hnz k) ?_
  show own_End p e below s _ _ _ (T552.setTop (mkF m 41 #[.val (.ref r), .val (.int bl), .val (.long ix), .second, .val (.int wd), .val (.int (xf + ((ix / (wd.toInt64)).toInt32))), .unset] [(.long (ix - (ix / (wd.toInt64)) * (wd.toInt64))), (.int yf)]))
  refine own_go (fun t k => XT.l2i X552.here hx rfl (hb hby d5_41) rfl k) ?_
  show own_End p e below s _ _ _ (T552.setTop (mkF m 42 #[.val (.ref r), .val (.int bl), .val (.long ix), .second, .val (.int wd), .val (.int (xf + ((ix / (wd.toInt64)).toInt32))), .unset] [(.int ((ix - (ix / (wd.toInt64)) * (wd.toInt64)).toInt32)), (.int yf)]))
  refine own_go (fun t k => XS.iadd X552.here hx rfl (hb hby d5_42) rfl k) ?_
  show own_End p e below s _ _ _ (T552.setTop (mkF m 43 #[.val (.ref r), .val (.int bl), .val (.long ix), .second, .val (.int wd), .val (.int (xf + ((ix / (wd.toInt64)).toInt32))), .unset] [(.int (yf + ((ix - (ix / (wd.toInt64)) * (wd.toInt64)).toInt32)))]))
  refine own_go (fun t k => XS.istore X552.here hx rfl (hb hby d5_43) rfl (l' := #[.val (.ref r), .val (.int bl), .val (.long ix), .second, .val (.int wd), .val (.int (xf + ((ix / (wd.toInt64)).toInt32))), .val (.int (yf + ((ix - (ix / (wd.toInt64)) * (wd.toInt64)).toInt32)))]) rfl k) ?_
  show own_End p e below s _ _ _ (T552.setTop (mkF m 45 #[.val (.ref r), .val (.int bl), .val (.long ix), .second, .val (.int wd), .val (.int (xf + ((ix / (wd.toInt64)).toInt32))), .val (.int (yf + ((ix - (ix / (wd.toInt64)) * (wd.toInt64)).toInt32)))] []))
  refine own_go (fun t k => XS.aloadN X552.here hx rfl (hb hby d5_45) rfl rfl k) ?_
  show own_End p e below s _ _ _ (T552.setTop (mkF m 46 #[.val (.ref r), .val (.int bl), .val (.long ix), .second, .val (.int wd), .val (.int (xf + ((ix / (wd.toInt64)).toInt32))), .val (.int (yf + ((ix - (ix / (wd.toInt64)) * (wd.toInt64)).toInt32)))] [(.ref r)]))
  obtain ⟨T553, X553, e553, st553⟩ := getF X552 hx hZ hown (host := "") (Or.inl (hw _ (List.mem_of_getElem? (i := 22) rfl))) Via.refl e552 f_xWeights (g := (mkF m 46 #[.val (.ref r), .val (.int bl), .val (.long ix), .second, .val (.int wd), .val (.int (xf + ((ix / (wd.toInt64)).toInt32))), .val (.int (yf + ((ix - (ix / (wd.toInt64)) * (wd.toInt64)).toInt32)))] [(.ref r)])) rfl rfl (hb hby d5_46)
  refine own_go st553 ?_
  show own_End p e below s _ _ _ (T553.setTop (mkF m 49 #[.val (.ref r), .val (.int bl), .val (.long ix), .second, .val (.int wd), .val (.int (xf + ((ix / (wd.toInt64)).toInt32))), .val (.int (yf + ((ix - (ix / (wd.toInt64)) * (wd.toInt64)).toInt32)))] [(.ref axw)]))
  refine own_go (fun t k => XS.iloadN X553.here hx rfl (hb hby d5_49) rfl k) ?_
  show own_End p e below s _ _ _ (T553.setTop (mkF m 50 #[.val (.ref r), .val (.int bl), .val (.long ix), .second, .val (.int wd), .val (.int (xf + ((ix / (wd.toInt64)).toInt32))), .val (.int (yf + ((ix - (ix / (wd.toInt64)) * (wd.toInt64)).toInt32)))] [(.int bl), (.ref axw)]))
  refine own_go (own_fldA X553 hx hZ e553 F_axw rfl (j := bl) (v := (.ref xa)) bi hbl hb4 h_axw (pc := 50) (Ls := #[.val (.ref r), .val (.int bl), .val (.long ix), .second, .val (.int wd), .val (.int (xf + ((ix / (wd.toInt64)).toInt32))), .val (.int (yf + ((ix - (ix / (wd.toInt64)) * (wd.toInt64)).toInt32)))]) (rest := []) (hb hby d5_50)) ?_
  show own_End p e below s _ _ _ (T553.setTop (mkF m 51 #[.val (.ref r), .val (.int bl), .val (.long ix), .second, .val (.int wd), .val (.int (xf + ((ix / (wd.toInt64)).toInt32))), .val (.int (yf + ((ix - (ix / (wd.toInt64)) * (wd.toInt64)).toInt32)))] [(.ref xa)]))
  refine own_go (fun t k => XS.iload X553.here hx rfl (hb hby d5_51) rfl k) ?_
  show own_End p e below s _ _ _ (T553.setTop (mkF m 53 #[.val (.ref r), .val (.int bl), .val (.long ix), .second, .val (.int wd), .val (.int (xf + ((ix / (wd.toInt64)).toInt32))), .val (.int (yf + ((ix - (ix / (wd.toInt64)) * (wd.toInt64)).toInt32)))] [(.int (xf + ((ix / (wd.toInt64)).toInt32))), (.ref xa)]))
  refine own_go (fun t k => XS.iconst X553.here hx rfl (hb hby d5_53) k) ?_
  show own_End p e below s _ _ _ (T553.setTop (mkF m 54 #[.val (.ref r), .val (.int bl), .val (.long ix), .second, .val (.int wd), .val (.int (xf + ((ix / (wd.toInt64)).toInt32))), .val (.int (yf + ((ix - (ix / (wd.toInt64)) * (wd.toInt64)).toInt32)))] [(.int (1 : Int32)), (.int (xf + ((ix / (wd.toInt64)).toInt32))), (.ref xa)]))
  refine own_go (fun t k => XS.iadd X553.here hx rfl (hb hby d5_54) rfl k) ?_
  show own_End p e below s _ _ _ (T553.setTop (mkF m 55 #[.val (.ref r), .val (.int bl), .val (.long ix), .second, .val (.int wd), .val (.int (xf + ((ix / (wd.toInt64)).toInt32))), .val (.int (yf + ((ix - (ix / (wd.toInt64)) * (wd.toInt64)).toInt32)))] [(.int ((xf + ((ix / (wd.toInt64)).toInt32)) + (1 : Int32))), (.ref xa)]))
  refine own_go (own_fldJ X553 hx hZ e553 F_xa (j := ((xf + ((ix / (wd.toInt64)).toInt32)) + (1 : Int32))) (v := (.long (own_s4 ca cb cc (nx + 1)))) (nx + 1) hnx1 (by omega) rfl (pc := 55) (Ls := #[.val (.ref r), .val (.int bl), .val (.long ix), .second, .val (.int wd), .val (.int (xf + ((ix / (wd.toInt64)).toInt32))), .val (.int (yf + ((ix - (ix / (wd.toInt64)) * (wd.toInt64)).toInt32)))]) (rest := []) (hb hby d5_55)) ?_
  show own_End p e below s _ _ _ (T553.setTop (mkF m 56 #[.val (.ref r), .val (.int bl), .val (.long ix), .second, .val (.int wd), .val (.int (xf + ((ix / (wd.toInt64)).toInt32))), .val (.int (yf + ((ix - (ix / (wd.toInt64)) * (wd.toInt64)).toInt32)))] [(.long (own_s4 ca cb cc (nx + 1)))]))
  refine own_go (fun t k => XS.aloadN X553.here hx rfl (hb hby d5_56) rfl rfl k) ?_
  show own_End p e below s _ _ _ (T553.setTop (mkF m 57 #[.val (.ref r), .val (.int bl), .val (.long ix), .second, .val (.int wd), .val (.int (xf + ((ix / (wd.toInt64)).toInt32))), .val (.int (yf + ((ix - (ix / (wd.toInt64)) * (wd.toInt64)).toInt32)))] [(.ref r), (.long (own_s4 ca cb cc (nx + 1)))]))
  obtain ⟨T554, X554, e554, st554⟩ := getF X553 hx hZ hown (host := "") (Or.inl (hw _ (List.mem_of_getElem? (i := 22) rfl))) Via.refl e553 f_xWeights (g := (mkF m 57 #[.val (.ref r), .val (.int bl), .val (.long ix), .second, .val (.int wd), .val (.int (xf + ((ix / (wd.toInt64)).toInt32))), .val (.int (yf + ((ix - (ix / (wd.toInt64)) * (wd.toInt64)).toInt32)))] [(.ref r), (.long (own_s4 ca cb cc (nx + 1)))])) rfl rfl (hb hby d5_57)
  refine own_go st554 ?_
  show own_End p e below s _ _ _ (T554.setTop (mkF m 60 #[.val (.ref r), .val (.int bl), .val (.long ix), .second, .val (.int wd), .val (.int (xf + ((ix / (wd.toInt64)).toInt32))), .val (.int (yf + ((ix - (ix / (wd.toInt64)) * (wd.toInt64)).toInt32)))] [(.ref axw), (.long (own_s4 ca cb cc (nx + 1)))]))
  refine own_go (fun t k => XS.iloadN X554.here hx rfl (hb hby d5_60) rfl k) ?_
  show own_End p e below s _ _ _ (T554.setTop (mkF m 61 #[.val (.ref r), .val (.int bl), .val (.long ix), .second, .val (.int wd), .val (.int (xf + ((ix / (wd.toInt64)).toInt32))), .val (.int (yf + ((ix - (ix / (wd.toInt64)) * (wd.toInt64)).toInt32)))] [(.int bl), (.ref axw), (.long (own_s4 ca cb cc (nx + 1)))]))
  refine own_go (own_fldA X554 hx hZ e554 F_axw rfl (j := bl) (v := (.ref xa)) bi hbl hb4 h_axw (pc := 61) (Ls := #[.val (.ref r), .val (.int bl), .val (.long ix), .second, .val (.int wd), .val (.int (xf + ((ix / (wd.toInt64)).toInt32))), .val (.int (yf + ((ix - (ix / (wd.toInt64)) * (wd.toInt64)).toInt32)))]) (rest := [(.long (own_s4 ca cb cc (nx + 1)))]) (hb hby d5_61)) ?_
  show own_End p e below s _ _ _ (T554.setTop (mkF m 62 #[.val (.ref r), .val (.int bl), .val (.long ix), .second, .val (.int wd), .val (.int (xf + ((ix / (wd.toInt64)).toInt32))), .val (.int (yf + ((ix - (ix / (wd.toInt64)) * (wd.toInt64)).toInt32)))] [(.ref xa), (.long (own_s4 ca cb cc (nx + 1)))]))
  refine own_go (fun t k => XS.iload X554.here hx rfl (hb hby d5_62) rfl k) ?_
  show own_End p e below s _ _ _ (T554.setTop (mkF m 64 #[.val (.ref r), .val (.int bl), .val (.long ix), .second, .val (.int wd), .val (.int (xf + ((ix / (wd.toInt64)).toInt32))), .val (.int (yf + ((ix - (ix / (wd.toInt64)) * (wd.toInt64)).toInt32)))] [(.int (xf + ((ix / (wd.toInt64)).toInt32))), (.ref xa), (.long (own_s4 ca cb cc (nx + 1)))]))
  refine own_go (own_fldJ X554 hx hZ e554 F_xa (j := (xf + ((ix / (wd.toInt64)).toInt32))) (v := (.long (own_s4 ca cb cc nx))) nx hnx (by omega) rfl (pc := 64) (Ls := #[.val (.ref r), .val (.int bl), .val (.long ix), .second, .val (.int wd), .val (.int (xf + ((ix / (wd.toInt64)).toInt32))), .val (.int (yf + ((ix - (ix / (wd.toInt64)) * (wd.toInt64)).toInt32)))]) (rest := [(.long (own_s4 ca cb cc (nx + 1)))]) (hb hby d5_64)) ?_
  show own_End p e below s _ _ _ (T554.setTop (mkF m 65 #[.val (.ref r), .val (.int bl), .val (.long ix), .second, .val (.int wd), .val (.int (xf + ((ix / (wd.toInt64)).toInt32))), .val (.int (yf + ((ix - (ix / (wd.toInt64)) * (wd.toInt64)).toInt32)))] [(.long (own_s4 ca cb cc nx)), (.long (own_s4 ca cb cc (nx + 1)))]))
  refine own_go (fun t k => XT.lsub X554.here hx rfl (hb hby d5_65) rfl k) ?_
  show own_End p e below s _ _ _ (T554.setTop (mkF m 66 #[.val (.ref r), .val (.int bl), .val (.long ix), .second, .val (.int wd), .val (.int (xf + ((ix / (wd.toInt64)).toInt32))), .val (.int (yf + ((ix - (ix / (wd.toInt64)) * (wd.toInt64)).toInt32)))] [(.long ((own_s4 ca cb cc (nx + 1)) - (own_s4 ca cb cc nx)))]))
  refine own_go (fun t k => XS.aloadN X554.here hx rfl (hb hby d5_66) rfl rfl k) ?_
  show own_End p e below s _ _ _ (T554.setTop (mkF m 67 #[.val (.ref r), .val (.int bl), .val (.long ix), .second, .val (.int wd), .val (.int (xf + ((ix / (wd.toInt64)).toInt32))), .val (.int (yf + ((ix - (ix / (wd.toInt64)) * (wd.toInt64)).toInt32)))] [(.ref r), (.long ((own_s4 ca cb cc (nx + 1)) - (own_s4 ca cb cc nx)))]))
  obtain ⟨T555, X555, e555, st555⟩ := getF X554 hx hZ hown (host := "") (Or.inl (hw _ (List.mem_of_getElem? (i := 30) rfl))) Via.refl e554 f_yWeights (g := (mkF m 67 #[.val (.ref r), .val (.int bl), .val (.long ix), .second, .val (.int wd), .val (.int (xf + ((ix / (wd.toInt64)).toInt32))), .val (.int (yf + ((ix - (ix / (wd.toInt64)) * (wd.toInt64)).toInt32)))] [(.ref r), (.long ((own_s4 ca cb cc (nx + 1)) - (own_s4 ca cb cc nx)))])) rfl rfl (hb hby d5_67)
  refine own_go st555 ?_
  show own_End p e below s _ _ _ (T555.setTop (mkF m 70 #[.val (.ref r), .val (.int bl), .val (.long ix), .second, .val (.int wd), .val (.int (xf + ((ix / (wd.toInt64)).toInt32))), .val (.int (yf + ((ix - (ix / (wd.toInt64)) * (wd.toInt64)).toInt32)))] [(.ref ayw), (.long ((own_s4 ca cb cc (nx + 1)) - (own_s4 ca cb cc nx)))]))
  refine own_go (fun t k => XS.iloadN X555.here hx rfl (hb hby d5_70) rfl k) ?_
  show own_End p e below s _ _ _ (T555.setTop (mkF m 71 #[.val (.ref r), .val (.int bl), .val (.long ix), .second, .val (.int wd), .val (.int (xf + ((ix / (wd.toInt64)).toInt32))), .val (.int (yf + ((ix - (ix / (wd.toInt64)) * (wd.toInt64)).toInt32)))] [(.int bl), (.ref ayw), (.long ((own_s4 ca cb cc (nx + 1)) - (own_s4 ca cb cc nx)))]))
  refine own_go (own_fldA X555 hx hZ e555 F_ayw rfl (j := bl) (v := (.ref ya)) bi hbl hb4 h_ayw (pc := 71) (Ls := #[.val (.ref r), .val (.int bl), .val (.long ix), .second, .val (.int wd), .val (.int (xf + ((ix / (wd.toInt64)).toInt32))), .val (.int (yf + ((ix - (ix / (wd.toInt64)) * (wd.toInt64)).toInt32)))]) (rest := [(.long ((own_s4 ca cb cc (nx + 1)) - (own_s4 ca cb cc nx)))]) (hb hby d5_71)) ?_
  show own_End p e below s _ _ _ (T555.setTop (mkF m 72 #[.val (.ref r), .val (.int bl), .val (.long ix), .second, .val (.int wd), .val (.int (xf + ((ix / (wd.toInt64)).toInt32))), .val (.int (yf + ((ix - (ix / (wd.toInt64)) * (wd.toInt64)).toInt32)))] [(.ref ya), (.long ((own_s4 ca cb cc (nx + 1)) - (own_s4 ca cb cc nx)))]))
  refine own_go (fun t k => XS.iload X555.here hx rfl (hb hby d5_72) rfl k) ?_
  show own_End p e below s _ _ _ (T555.setTop (mkF m 74 #[.val (.ref r), .val (.int bl), .val (.long ix), .second, .val (.int wd), .val (.int (xf + ((ix / (wd.toInt64)).toInt32))), .val (.int (yf + ((ix - (ix / (wd.toInt64)) * (wd.toInt64)).toInt32)))] [(.int (yf + ((ix - (ix / (wd.toInt64)) * (wd.toInt64)).toInt32))), (.ref ya), (.long ((own_s4 ca cb cc (nx + 1)) - (own_s4 ca cb cc nx)))]))
  refine own_go (fun t k => XS.iconst X555.here hx rfl (hb hby d5_74) k) ?_
  show own_End p e below s _ _ _ (T555.setTop (mkF m 75 #[.val (.ref r), .val (.int bl), .val (.long ix), .second, .val (.int wd), .val (.int (xf + ((ix / (wd.toInt64)).toInt32))), .val (.int (yf + ((ix - (ix / (wd.toInt64)) * (wd.toInt64)).toInt32)))] [(.int (1 : Int32)), (.int (yf + ((ix - (ix / (wd.toInt64)) * (wd.toInt64)).toInt32))), (.ref ya), (.long ((own_s4 ca cb cc (nx + 1)) - (own_s4 ca cb cc nx)))]))
  refine own_go (fun t k => XS.iadd X555.here hx rfl (hb hby d5_75) rfl k) ?_
  show own_End p e below s _ _ _ (T555.setTop (mkF m 76 #[.val (.ref r), .val (.int bl), .val (.long ix), .second, .val (.int wd), .val (.int (xf + ((ix / (wd.toInt64)).toInt32))), .val (.int (yf + ((ix - (ix / (wd.toInt64)) * (wd.toInt64)).toInt32)))] [(.int ((yf + ((ix - (ix / (wd.toInt64)) * (wd.toInt64)).toInt32)) + (1 : Int32))), (.ref ya), (.long ((own_s4 ca cb cc (nx + 1)) - (own_s4 ca cb cc nx)))]))
  refine own_go (own_fldJ X555 hx hZ e555 F_ya (j := ((yf + ((ix - (ix / (wd.toInt64)) * (wd.toInt64)).toInt32)) + (1 : Int32))) (v := (.long (own_s4 da db dc (ny + 1)))) (ny + 1) hny1 (by omega) rfl (pc := 76) (Ls := #[.val (.ref r), .val (.int bl), .val (.long ix), .second, .val (.int wd), .val (.int (xf + ((ix / (wd.toInt64)).toInt32))), .val (.int (yf + ((ix - (ix / (wd.toInt64)) * (wd.toInt64)).toInt32)))]) (rest := [(.long ((own_s4 ca cb cc (nx + 1)) - (own_s4 ca cb cc nx)))]) (hb hby d5_76)) ?_
  show own_End p e below s _ _ _ (T555.setTop (mkF m 77 #[.val (.ref r), .val (.int bl), .val (.long ix), .second, .val (.int wd), .val (.int (xf + ((ix / (wd.toInt64)).toInt32))), .val (.int (yf + ((ix - (ix / (wd.toInt64)) * (wd.toInt64)).toInt32)))] [(.long (own_s4 da db dc (ny + 1))), (.long ((own_s4 ca cb cc (nx + 1)) - (own_s4 ca cb cc nx)))]))
  refine own_go (fun t k => XS.aloadN X555.here hx rfl (hb hby d5_77) rfl rfl k) ?_
  show own_End p e below s _ _ _ (T555.setTop (mkF m 78 #[.val (.ref r), .val (.int bl), .val (.long ix), .second, .val (.int wd), .val (.int (xf + ((ix / (wd.toInt64)).toInt32))), .val (.int (yf + ((ix - (ix / (wd.toInt64)) * (wd.toInt64)).toInt32)))] [(.ref r), (.long (own_s4 da db dc (ny + 1))), (.long ((own_s4 ca cb cc (nx + 1)) - (own_s4 ca cb cc nx)))]))
  obtain ⟨T556, X556, e556, st556⟩ := getF X555 hx hZ hown (host := "") (Or.inl (hw _ (List.mem_of_getElem? (i := 30) rfl))) Via.refl e555 f_yWeights (g := (mkF m 78 #[.val (.ref r), .val (.int bl), .val (.long ix), .second, .val (.int wd), .val (.int (xf + ((ix / (wd.toInt64)).toInt32))), .val (.int (yf + ((ix - (ix / (wd.toInt64)) * (wd.toInt64)).toInt32)))] [(.ref r), (.long (own_s4 da db dc (ny + 1))), (.long ((own_s4 ca cb cc (nx + 1)) - (own_s4 ca cb cc nx)))])) rfl rfl (hb hby d5_78)
  refine own_go st556 ?_
  show own_End p e below s _ _ _ (T556.setTop (mkF m 81 #[.val (.ref r), .val (.int bl), .val (.long ix), .second, .val (.int wd), .val (.int (xf + ((ix / (wd.toInt64)).toInt32))), .val (.int (yf + ((ix - (ix / (wd.toInt64)) * (wd.toInt64)).toInt32)))] [(.ref ayw), (.long (own_s4 da db dc (ny + 1))), (.long ((own_s4 ca cb cc (nx + 1)) - (own_s4 ca cb cc nx)))]))
  refine own_go (fun t k => XS.iloadN X556.here hx rfl (hb hby d5_81) rfl k) ?_
  show own_End p e below s _ _ _ (T556.setTop (mkF m 82 #[.val (.ref r), .val (.int bl), .val (.long ix), .second, .val (.int wd), .val (.int (xf + ((ix / (wd.toInt64)).toInt32))), .val (.int (yf + ((ix - (ix / (wd.toInt64)) * (wd.toInt64)).toInt32)))] [(.int bl), (.ref ayw), (.long (own_s4 da db dc (ny + 1))), (.long ((own_s4 ca cb cc (nx + 1)) - (own_s4 ca cb cc nx)))]))
  refine own_go (own_fldA X556 hx hZ e556 F_ayw rfl (j := bl) (v := (.ref ya)) bi hbl hb4 h_ayw (pc := 82) (Ls := #[.val (.ref r), .val (.int bl), .val (.long ix), .second, .val (.int wd), .val (.int (xf + ((ix / (wd.toInt64)).toInt32))), .val (.int (yf + ((ix - (ix / (wd.toInt64)) * (wd.toInt64)).toInt32)))]) (rest := [(.long (own_s4 da db dc (ny + 1))), (.long ((own_s4 ca cb cc (nx + 1)) - (own_s4 ca cb cc nx)))]) (hb hby d5_82)) ?_
  show own_End p e below s _ _ _ (T556.setTop (mkF m 83 #[.val (.ref r), .val (.int bl), .val (.long ix), .second, .val (.int wd), .val (.int (xf + ((ix / (wd.toInt64)).toInt32))), .val (.int (yf + ((ix - (ix / (wd.toInt64)) * (wd.toInt64)).toInt32)))] [(.ref ya), (.long (own_s4 da db dc (ny + 1))), (.long ((own_s4 ca cb cc (nx + 1)) - (own_s4 ca cb cc nx)))]))
  refine own_go (fun t k => XS.iload X556.here hx rfl (hb hby d5_83) rfl k) ?_
  show own_End p e below s _ _ _ (T556.setTop (mkF m 85 #[.val (.ref r), .val (.int bl), .val (.long ix), .second, .val (.int wd), .val (.int (xf + ((ix / (wd.toInt64)).toInt32))), .val (.int (yf + ((ix - (ix / (wd.toInt64)) * (wd.toInt64)).toInt32)))] [(.int (yf + ((ix - (ix / (wd.toInt64)) * (wd.toInt64)).toInt32))), (.ref ya), (.long (own_s4 da db dc (ny + 1))), (.long ((own_s4 ca cb cc (nx + 1)) - (own_s4 ca cb cc nx)))]))
  refine own_go (own_fldJ X556 hx hZ e556 F_ya (j := (yf + ((ix - (ix / (wd.toInt64)) * (wd.toInt64)).toInt32))) (v := (.long (own_s4 da db dc ny))) ny hny (by omega) rfl (pc := 85) (Ls := #[.val (.ref r), .val (.int bl), .val (.long ix), .second, .val (.int wd), .val (.int (xf + ((ix / (wd.toInt64)).toInt32))), .val (.int (yf + ((ix - (ix / (wd.toInt64)) * (wd.toInt64)).toInt32)))]) (rest := [(.long (own_s4 da db dc (ny + 1))), (.long ((own_s4 ca cb cc (nx + 1)) - (own_s4 ca cb cc nx)))]) (hb hby d5_85)) ?_
  show own_End p e below s _ _ _ (T556.setTop (mkF m 86 #[.val (.ref r), .val (.int bl), .val (.long ix), .second, .val (.int wd), .val (.int (xf + ((ix / (wd.toInt64)).toInt32))), .val (.int (yf + ((ix - (ix / (wd.toInt64)) * (wd.toInt64)).toInt32)))] [(.long (own_s4 da db dc ny)), (.long (own_s4 da db dc (ny + 1))), (.long ((own_s4 ca cb cc (nx + 1)) - (own_s4 ca cb cc nx)))]))
  refine own_go (fun t k => XT.lsub X556.here hx rfl (hb hby d5_86) rfl k) ?_
  show own_End p e below s _ _ _ (T556.setTop (mkF m 87 #[.val (.ref r), .val (.int bl), .val (.long ix), .second, .val (.int wd), .val (.int (xf + ((ix / (wd.toInt64)).toInt32))), .val (.int (yf + ((ix - (ix / (wd.toInt64)) * (wd.toInt64)).toInt32)))] [(.long ((own_s4 da db dc (ny + 1)) - (own_s4 da db dc ny))), (.long ((own_s4 ca cb cc (nx + 1)) - (own_s4 ca cb cc nx)))]))
  refine own_go (fun t k => XT.lmul X556.here hx rfl (hb hby d5_87) rfl k) ?_
  show own_End p e below s _ _ _ (T556.setTop (mkF m 88 #[.val (.ref r), .val (.int bl), .val (.long ix), .second, .val (.int wd), .val (.int (xf + ((ix / (wd.toInt64)).toInt32))), .val (.int (yf + ((ix - (ix / (wd.toInt64)) * (wd.toInt64)).toInt32)))] [(.long (((own_s4 ca cb cc (nx + 1)) - (own_s4 ca cb cc nx)) * ((own_s4 da db dc (ny + 1)) - (own_s4 da db dc ny))))]))
  exact own_retJ X556 hx hret hlk (hb hby d5_88) ⟨by rw [own_diff _ _ _ _ hnx3, own_diff _ _ _ _ hny3], N0, e556⟩ (by decide) (by decide)
set_option maxRecDepth 65536 in
set_option maxHeartbeats 40000000 in
theorem rm0 (l : Launch) (Z : State) (a0 : Array Value) (hw : ∀ d ∈ tables_1, d.before a0 Z = true) (ws : List Jvm.Cond) (p1 : Int64) (p2 : Int64) (p3 : Int64) (p4 : Int64) (p5 : Int32) (p6 : Int64) (h0 : Heap) (n0 : Nat) (Z0 : n0 ≤ h0.size)  :
    own_Met l x code maxLocals ret ws room_1 #[(.long p1), (.long p2), (.long p3), (.long p4), (.int p5), (.long p6)] Z h0 (fun v h L => v = some (.int 1) ∧ Fr n0 L) := by
  refine own_body (plainFor_of_name pn_PairBlocksWeightOfPinLaw) ?_
  intro p e s m below meth c s0 X0 hx hby hml hret hlk hown hnm hZ e0
  replace hown : s.vm.findClass "com/example/ordinate/ordinate/core/PairBlocksWeightOfPinLaw" = some m.cls := hown
  have N0 := Fr.nil n0
  have ef : entryFrame m #[(.long p1), (.long p2), (.long p3), (.long p4), (.int p5), (.long p6)] maxLocals = (mkF m 0 #[.val (.long p1), .second, .val (.long p2), .second, .val (.long p3), .second, .val (.long p4), .second, .val (.int p5), .val (.long p6), .second, .unset, .unset, .unset, .unset, .unset, .unset, .unset, .unset, .unset, .unset, .unset, .unset, .unset, .unset, .unset, .unset, .unset, .unset, .unset, .unset, .unset, .unset] []) := by first | (simp [entryFrame, mkF, argsToLocals, Value.category, maxLocals]; done) | rfl
  rw [ef]
  show own_End p e below s _ _ _ (s0.setTop (mkF m 0 #[.val (.long p1), .second, .val (.long p2), .second, .val (.long p3), .second, .val (.long p4), .second, .val (.int p5), .val (.long p6), .second, .unset, .unset, .unset, .unset, .unset, .unset, .unset, .unset, .unset, .unset, .unset, .unset, .unset, .unset, .unset, .unset, .unset, .unset, .unset, .unset, .unset, .unset] []))
  refine own_go (fun t k => XT.lloadN X0.here hx rfl (hb hby at_0) rfl k) ?_
  show own_End p e below s _ _ _ (s0.setTop (mkF m 1 #[.val (.long p1), .second, .val (.long p2), .second, .val (.long p3), .second, .val (.long p4), .second, .val (.int p5), .val (.long p6), .second, .unset, .unset, .unset, .unset, .unset, .unset, .unset, .unset, .unset, .unset, .unset, .unset, .unset, .unset, .unset, .unset, .unset, .unset, .unset, .unset, .unset, .unset] [(.long p2)]))
  refine own_go (X0.ldc2Long (own := "com/example/ordinate/ordinate/core/PairBlocksWeightOfPinLaw") (index := 7) (v := (-1)) hx hown (mvT hZ (hw _ (List.mem_of_getElem? (i := 0) rfl))) (g := (mkF m 1 #[.val (.long p1), .second, .val (.long p2), .second, .val (.long p3), .second, .val (.long p4), .second, .val (.int p5), .val (.long p6), .second, .unset, .unset, .unset, .unset, .unset, .unset, .unset, .unset, .unset, .unset, .unset, .unset, .unset, .unset, .unset, .unset, .unset, .unset, .unset, .unset, .unset, .unset] [(.long p2)])) rfl (hb hby at_1)) ?_
  show own_End p e below s _ _ _ (s0.setTop (mkF m 4 #[.val (.long p1), .second, .val (.long p2), .second, .val (.long p3), .second, .val (.long p4), .second, .val (.int p5), .val (.long p6), .second, .unset, .unset, .unset, .unset, .unset, .unset, .unset, .unset, .unset, .unset, .unset, .unset, .unset, .unset, .unset, .unset, .unset, .unset, .unset, .unset, .unset, .unset] [(.long (-1 : Int64)), (.long p2)]))
  refine own_go (fun t k => XT.lxor X0.here hx rfl (hb hby at_4) rfl k) ?_
  show own_End p e below s _ _ _ (s0.setTop (mkF m 5 #[.val (.long p1), .second, .val (.long p2), .second, .val (.long p3), .second, .val (.long p4), .second, .val (.int p5), .val (.long p6), .second, .unset, .unset, .unset, .unset, .unset, .unset, .unset, .unset, .unset, .unset, .unset, .unset, .unset, .unset, .unset, .unset, .unset, .unset, .unset, .unset, .unset, .unset] [(.long (p2 ^^^ (-1 : Int64)))]))
  obtain ⟨ve557, qve557⟩ : ∃ z : Int64, z = (p2 ^^^ (-1 : Int64)) := ⟨_, rfl⟩
  rw [← qve557]
  show own_End p e below s _ _ _ (s0.setTop (mkF m 5 #[.val (.long p1), .second, .val (.long p2), .second, .val (.long p3), .second, .val (.long p4), .second, .val (.int p5), .val (.long p6), .second, .unset, .unset, .unset, .unset, .unset, .unset, .unset, .unset, .unset, .unset, .unset, .unset, .unset, .unset, .unset, .unset, .unset, .unset, .unset, .unset, .unset, .unset] [(.long ve557)]))
  refine own_go (fun t k => XT.lstore X0.here hx rfl (hb hby at_5) rfl (l' := #[.val (.long p1), .second, .val (.long p2), .second, .val (.long p3), .second, .val (.long p4), .second, .val (.int p5), .val (.long p6), .second, .val (.long ve557), .second, .unset, .unset, .unset, .unset, .unset, .unset, .unset, .unset, .unset, .unset, .unset, .unset, .unset, .unset, .unset, .unset, .unset, .unset, .unset, .unset]) rfl k) ?_
  show own_End p e below s _ _ _ (s0.setTop (mkF m 7 #[.val (.long p1), .second, .val (.long p2), .second, .val (.long p3), .second, .val (.long p4), .second, .val (.int p5), .val (.long p6), .second, .val (.long ve557), .second, .unset, .unset, .unset, .unset, .unset, .unset, .unset, .unset, .unset, .unset, .unset, .unset, .unset, .unset, .unset, .unset, .unset, .unset, .unset, .unset] []))
  refine own_go (fun t k => XT.lloadN X0.here hx rfl (hb hby at_7) rfl k) ?_
  show own_End p e below s _ _ _ (s0.setTop (mkF m 8 #[.val (.long p1), .second, .val (.long p2), .second, .val (.long p3), .second, .val (.long p4), .second, .val (.int p5), .val (.long p6), .second, .val (.long ve557), .second, .unset, .unset, .unset, .unset, .unset, .unset, .unset, .unset, .unset, .unset, .unset, .unset, .unset, .unset, .unset, .unset, .unset, .unset, .unset, .unset] [(.long p1)]))
  refine own_go (fun t k => XT.lload X0.here hx rfl (hb hby at_8) rfl k) ?_
  show own_End p e below s _ _ _ (s0.setTop (mkF m 10 #[.val (.long p1), .second, .val (.long p2), .second, .val (.long p3), .second, .val (.long p4), .second, .val (.int p5), .val (.long p6), .second, .val (.long ve557), .second, .unset, .unset, .unset, .unset, .unset, .unset, .unset, .unset, .unset, .unset, .unset, .unset, .unset, .unset, .unset, .unset, .unset, .unset, .unset, .unset] [(.long p3), (.long p1)]))
  refine own_go (fun t k => XT.lxor X0.here hx rfl (hb hby at_10) rfl k) ?_
  show own_End p e below s _ _ _ (s0.setTop (mkF m 11 #[.val (.long p1), .second, .val (.long p2), .second, .val (.long p3), .second, .val (.long p4), .second, .val (.int p5), .val (.long p6), .second, .val (.long ve557), .second, .unset, .unset, .unset, .unset, .unset, .unset, .unset, .unset, .unset, .unset, .unset, .unset, .unset, .unset, .unset, .unset, .unset, .unset, .unset, .unset] [(.long (p1 ^^^ p3))]))
  obtain ⟨vf558, qvf558⟩ : ∃ z : Int64, z = (p1 ^^^ p3) := ⟨_, rfl⟩
  rw [← qvf558]
  show own_End p e below s _ _ _ (s0.setTop (mkF m 11 #[.val (.long p1), .second, .val (.long p2), .second, .val (.long p3), .second, .val (.long p4), .second, .val (.int p5), .val (.long p6), .second, .val (.long ve557), .second, .unset, .unset, .unset, .unset, .unset, .unset, .unset, .unset, .unset, .unset, .unset, .unset, .unset, .unset, .unset, .unset, .unset, .unset, .unset, .unset] [(.long vf558)]))
  refine own_go (fun t k => XT.lstore X0.here hx rfl (hb hby at_11) rfl (l' := #[.val (.long p1), .second, .val (.long p2), .second, .val (.long p3), .second, .val (.long p4), .second, .val (.int p5), .val (.long p6), .second, .val (.long ve557), .second, .val (.long vf558), .second, .unset, .unset, .unset, .unset, .unset, .unset, .unset, .unset, .unset, .unset, .unset, .unset, .unset, .unset, .unset, .unset, .unset, .unset]) rfl k) ?_
  show own_End p e below s _ _ _ (s0.setTop (mkF m 13 #[.val (.long p1), .second, .val (.long p2), .second, .val (.long p3), .second, .val (.long p4), .second, .val (.int p5), .val (.long p6), .second, .val (.long ve557), .second, .val (.long vf558), .second, .unset, .unset, .unset, .unset, .unset, .unset, .unset, .unset, .unset, .unset, .unset, .unset, .unset, .unset, .unset, .unset, .unset, .unset] []))
  refine own_go (fun t k => XS.iconst X0.here hx rfl (hb hby at_13) k) ?_
  show own_End p e below s _ _ _ (s0.setTop (mkF m 14 #[.val (.long p1), .second, .val (.long p2), .second, .val (.long p3), .second, .val (.long p4), .second, .val (.int p5), .val (.long p6), .second, .val (.long ve557), .second, .val (.long vf558), .second, .unset, .unset, .unset, .unset, .unset, .unset, .unset, .unset, .unset, .unset, .unset, .unset, .unset, .unset, .unset, .unset, .unset, .unset] [(.int (3 : Int32))]))
  obtain ⟨T559, h559, k559, X559, e559, E559, A559, st559⟩ := newP X0 hx hZ (hw _ (List.mem_of_getElem? (i := 1) rfl)) e0 (g := (mkF m 14 #[.val (.long p1), .second, .val (.long p2), .second, .val (.long p3), .second, .val (.long p4), .second, .val (.int p5), .val (.long p6), .second, .val (.long ve557), .second, .val (.long vf558), .second, .unset, .unset, .unset, .unset, .unset, .unset, .unset, .unset, .unset, .unset, .unset, .unset, .unset, .unset, .unset, .unset, .unset, .unset] [(.int (3 : Int32))])) rfl (hb hby at_14) rfl (by decide) (cap := 3) (by decide) (by decide) (by decide) (by decide)
  obtain ⟨b559, gb559⟩ : ∃ z, z = h0.size := ⟨_, rfl⟩
  rw [← gb559] at A559 st559
  have F559 := own_F.new A559 (n := 3) (by decide) (by decide)
  have nb559 : n0 ≤ b559 := by rw [gb559]; exact Z0
  have Z559 : n0 ≤ h559.size := Nat.le_trans Z0 E559.1
  refine own_go st559 ?_
  show own_End p e below s _ _ _ (T559.setTop (mkF m 16 #[.val (.long p1), .second, .val (.long p2), .second, .val (.long p3), .second, .val (.long p4), .second, .val (.int p5), .val (.long p6), .second, .val (.long ve557), .second, .val (.long vf558), .second, .unset, .unset, .unset, .unset, .unset, .unset, .unset, .unset, .unset, .unset, .unset, .unset, .unset, .unset, .unset, .unset, .unset, .unset] [(.ref b559)]))
  refine own_go (fun t k => XS.dup X559.here hx rfl (hb hby at_16) rfl rfl k) ?_
  show own_End p e below s _ _ _ (T559.setTop (mkF m 17 #[.val (.long p1), .second, .val (.long p2), .second, .val (.long p3), .second, .val (.long p4), .second, .val (.int p5), .val (.long p6), .second, .val (.long ve557), .second, .val (.long vf558), .second, .unset, .unset, .unset, .unset, .unset, .unset, .unset, .unset, .unset, .unset, .unset, .unset, .unset, .unset, .unset, .unset, .unset, .unset] [(.ref b559), (.ref b559)]))
  refine own_go (fun t k => XS.iconst X559.here hx rfl (hb hby at_17) k) ?_
  show own_End p e below s _ _ _ (T559.setTop (mkF m 18 #[.val (.long p1), .second, .val (.long p2), .second, .val (.long p3), .second, .val (.long p4), .second, .val (.int p5), .val (.long p6), .second, .val (.long ve557), .second, .val (.long vf558), .second, .unset, .unset, .unset, .unset, .unset, .unset, .unset, .unset, .unset, .unset, .unset, .unset, .unset, .unset, .unset, .unset, .unset, .unset] [(.int (0 : Int32)), (.ref b559), (.ref b559)]))
  refine own_go (fun t k => XT.lloadN X559.here hx rfl (hb hby at_18) rfl k) ?_
  show own_End p e below s _ _ _ (T559.setTop (mkF m 19 #[.val (.long p1), .second, .val (.long p2), .second, .val (.long p3), .second, .val (.long p4), .second, .val (.int p5), .val (.long p6), .second, .val (.long ve557), .second, .val (.long vf558), .second, .unset, .unset, .unset, .unset, .unset, .unset, .unset, .unset, .unset, .unset, .unset, .unset, .unset, .unset, .unset, .unset, .unset, .unset] [(.long p1), (.int (0 : Int32)), (.ref b559), (.ref b559)]))
  obtain ⟨T560, h560, X560, e560, W560, F560, st560⟩ := own_fstJ X559 hx hZ e559 F559 (j := (0 : Int32)) (y := p1) 0 (by decide) (by decide) (pc := 19) (Ls := #[.val (.long p1), .second, .val (.long p2), .second, .val (.long p3), .second, .val (.long p4), .second, .val (.int p5), .val (.long p6), .second, .val (.long ve557), .second, .val (.long vf558), .second, .unset, .unset, .unset, .unset, .unset, .unset, .unset, .unset, .unset, .unset, .unset, .unset, .unset, .unset, .unset, .unset, .unset, .unset]) (rest := [(.ref b559)]) (hb hby at_19)
  have N560 := Fr.snoc X560 N0 nb559
  have Z560 : n0 ≤ h560.size := by rw [W560.size]; exact Z559
  refine own_go st560 ?_
  show own_End p e below s _ _ _ (T560.setTop (mkF m 20 #[.val (.long p1), .second, .val (.long p2), .second, .val (.long p3), .second, .val (.long p4), .second, .val (.int p5), .val (.long p6), .second, .val (.long ve557), .second, .val (.long vf558), .second, .unset, .unset, .unset, .unset, .unset, .unset, .unset, .unset, .unset, .unset, .unset, .unset, .unset, .unset, .unset, .unset, .unset, .unset] [(.ref b559)]))
  refine own_go (fun t k => XS.dup X560.here hx rfl (hb hby at_20) rfl rfl k) ?_
  show own_End p e below s _ _ _ (T560.setTop (mkF m 21 #[.val (.long p1), .second, .val (.long p2), .second, .val (.long p3), .second, .val (.long p4), .second, .val (.int p5), .val (.long p6), .second, .val (.long ve557), .second, .val (.long vf558), .second, .unset, .unset, .unset, .unset, .unset, .unset, .unset, .unset, .unset, .unset, .unset, .unset, .unset, .unset, .unset, .unset, .unset, .unset] [(.ref b559), (.ref b559)]))
  refine own_go (fun t k => XS.iconst X560.here hx rfl (hb hby at_21) k) ?_
  show own_End p e below s _ _ _ (T560.setTop (mkF m 22 #[.val (.long p1), .second, .val (.long p2), .second, .val (.long p3), .second, .val (.long p4), .second, .val (.int p5), .val (.long p6), .second, .val (.long ve557), .second, .val (.long vf558), .second, .unset, .unset, .unset, .unset, .unset, .unset, .unset, .unset, .unset, .unset, .unset, .unset, .unset, .unset, .unset, .unset, .unset, .unset] [(.int (1 : Int32)), (.ref b559), (.ref b559)]))
  refine own_go (fun t k => XT.lloadN X560.here hx rfl (hb hby at_22) rfl k) ?_
  show own_End p e below s _ _ _ (T560.setTop (mkF m 23 #[.val (.long p1), .second, .val (.long p2), .second, .val (.long p3), .second, .val (.long p4), .second, .val (.int p5), .val (.long p6), .second, .val (.long ve557), .second, .val (.long vf558), .second, .unset, .unset, .unset, .unset, .unset, .unset, .unset, .unset, .unset, .unset, .unset, .unset, .unset, .unset, .unset, .unset, .unset, .unset] [(.long p2), (.int (1 : Int32)), (.ref b559), (.ref b559)]))
  obtain ⟨T562, h562, X562, e562, W562, F562, st562⟩ := own_fstJ X560 hx hZ e560 F560 (j := (1 : Int32)) (y := p2) 1 (by decide) (by decide) (pc := 23) (Ls := #[.val (.long p1), .second, .val (.long p2), .second, .val (.long p3), .second, .val (.long p4), .second, .val (.int p5), .val (.long p6), .second, .val (.long ve557), .second, .val (.long vf558), .second, .unset, .unset, .unset, .unset, .unset, .unset, .unset, .unset, .unset, .unset, .unset, .unset, .unset, .unset, .unset, .unset, .unset, .unset]) (rest := [(.ref b559)]) (hb hby at_23)
  have N562 := Fr.snoc X562 N560 nb559
  have Z562 : n0 ≤ h562.size := by rw [W562.size]; exact Z560
  refine own_go st562 ?_
  show own_End p e below s _ _ _ (T562.setTop (mkF m 24 #[.val (.long p1), .second, .val (.long p2), .second, .val (.long p3), .second, .val (.long p4), .second, .val (.int p5), .val (.long p6), .second, .val (.long ve557), .second, .val (.long vf558), .second, .unset, .unset, .unset, .unset, .unset, .unset, .unset, .unset, .unset, .unset, .unset, .unset, .unset, .unset, .unset, .unset, .unset, .unset] [(.ref b559)]))
  refine own_go (fun t k => XS.dup X562.here hx rfl (hb hby at_24) rfl rfl k) ?_
  show own_End p e below s _ _ _ (T562.setTop (mkF m 25 #[.val (.long p1), .second, .val (.long p2), .second, .val (.long p3), .second, .val (.long p4), .second, .val (.int p5), .val (.long p6), .second, .val (.long ve557), .second, .val (.long vf558), .second, .unset, .unset, .unset, .unset, .unset, .unset, .unset, .unset, .unset, .unset, .unset, .unset, .unset, .unset, .unset, .unset, .unset, .unset] [(.ref b559), (.ref b559)]))
  refine own_go (fun t k => XS.iconst X562.here hx rfl (hb hby at_25) k) ?_
  show own_End p e below s _ _ _ (T562.setTop (mkF m 26 #[.val (.long p1), .second, .val (.long p2), .second, .val (.long p3), .second, .val (.long p4), .second, .val (.int p5), .val (.long p6), .second, .val (.long ve557), .second, .val (.long vf558), .second, .unset, .unset, .unset, .unset, .unset, .unset, .unset, .unset, .unset, .unset, .unset, .unset, .unset, .unset, .unset, .unset, .unset, .unset] [(.int (2 : Int32)), (.ref b559), (.ref b559)]))
  refine own_go (fun t k => XT.lload X562.here hx rfl (hb hby at_26) rfl k) ?_
  show own_End p e below s _ _ _ (T562.setTop (mkF m 28 #[.val (.long p1), .second, .val (.long p2), .second, .val (.long p3), .second, .val (.long p4), .second, .val (.int p5), .val (.long p6), .second, .val (.long ve557), .second, .val (.long vf558), .second, .unset, .unset, .unset, .unset, .unset, .unset, .unset, .unset, .unset, .unset, .unset, .unset, .unset, .unset, .unset, .unset, .unset, .unset] [(.long p3), (.int (2 : Int32)), (.ref b559), (.ref b559)]))
  obtain ⟨T564, h564, X564, e564, W564, F564, st564⟩ := own_fstJ X562 hx hZ e562 F562 (j := (2 : Int32)) (y := p3) 2 (by decide) (by decide) (pc := 28) (Ls := #[.val (.long p1), .second, .val (.long p2), .second, .val (.long p3), .second, .val (.long p4), .second, .val (.int p5), .val (.long p6), .second, .val (.long ve557), .second, .val (.long vf558), .second, .unset, .unset, .unset, .unset, .unset, .unset, .unset, .unset, .unset, .unset, .unset, .unset, .unset, .unset, .unset, .unset, .unset, .unset]) (rest := [(.ref b559)]) (hb hby at_28)
  have N564 := Fr.snoc X564 N562 nb559
  have Z564 : n0 ≤ h564.size := by rw [W564.size]; exact Z562
  refine own_go st564 ?_
  show own_End p e below s _ _ _ (T564.setTop (mkF m 29 #[.val (.long p1), .second, .val (.long p2), .second, .val (.long p3), .second, .val (.long p4), .second, .val (.int p5), .val (.long p6), .second, .val (.long ve557), .second, .val (.long vf558), .second, .unset, .unset, .unset, .unset, .unset, .unset, .unset, .unset, .unset, .unset, .unset, .unset, .unset, .unset, .unset, .unset, .unset, .unset] [(.ref b559)]))
  have f566 := own_F.cong F564 (g := (fun i => .long (own_v3 p1 p2 p3 i))) (fun i hi => by match i, hi with | 0, _ => rfl | 1, _ => rfl | 2, _ => rfl | _ + 3, hq => exact absurd hq (by omega))
  refine own_go (fun t k => XS.astore X564.here hx rfl (hb hby at_29) rfl rfl (l' := #[.val (.long p1), .second, .val (.long p2), .second, .val (.long p3), .second, .val (.long p4), .second, .val (.int p5), .val (.long p6), .second, .val (.long ve557), .second, .val (.long vf558), .second, .val (.ref b559), .unset, .unset, .unset, .unset, .unset, .unset, .unset, .unset, .unset, .unset, .unset, .unset, .unset, .unset, .unset, .unset, .unset]) rfl k) ?_
  show own_End p e below s _ _ _ (T564.setTop (mkF m 31 #[.val (.long p1), .second, .val (.long p2), .second, .val (.long p3), .second, .val (.long p4), .second, .val (.int p5), .val (.long p6), .second, .val (.long ve557), .second, .val (.long vf558), .second, .val (.ref b559), .unset, .unset, .unset, .unset, .unset, .unset, .unset, .unset, .unset, .unset, .unset, .unset, .unset, .unset, .unset, .unset, .unset] []))
  refine own_go (fun t k => XS.iconst X564.here hx rfl (hb hby at_31) k) ?_
  show own_End p e below s _ _ _ (T564.setTop (mkF m 32 #[.val (.long p1), .second, .val (.long p2), .second, .val (.long p3), .second, .val (.long p4), .second, .val (.int p5), .val (.long p6), .second, .val (.long ve557), .second, .val (.long vf558), .second, .val (.ref b559), .unset, .unset, .unset, .unset, .unset, .unset, .unset, .unset, .unset, .unset, .unset, .unset, .unset, .unset, .unset, .unset, .unset] [(.int (3 : Int32))]))
  obtain ⟨T567, h567, k567, X567, e567, E567, A567, st567⟩ := newP X564 hx hZ (hw _ (List.mem_of_getElem? (i := 1) rfl)) e564 (g := (mkF m 32 #[.val (.long p1), .second, .val (.long p2), .second, .val (.long p3), .second, .val (.long p4), .second, .val (.int p5), .val (.long p6), .second, .val (.long ve557), .second, .val (.long vf558), .second, .val (.ref b559), .unset, .unset, .unset, .unset, .unset, .unset, .unset, .unset, .unset, .unset, .unset, .unset, .unset, .unset, .unset, .unset, .unset] [(.int (3 : Int32))])) rfl (hb hby at_32) rfl (by decide) (cap := 3) (by decide) (by decide) (by decide) (by decide)
  obtain ⟨b567, gb567⟩ : ∃ z, z = h564.size := ⟨_, rfl⟩
  rw [← gb567] at A567 st567
  have F567 := own_F.new A567 (n := 3) (by decide) (by decide)
  have nb567 : n0 ≤ b567 := by rw [gb567]; exact Z564
  have Z567 : n0 ≤ h567.size := Nat.le_trans Z564 E567.1
  have lt_b559_b567 : @LT.lt Nat _ b559 b567 := Nat.lt_of_lt_of_le f566.lt (Nat.le_of_eq gb567.symm)
  have f568 := f566.ext E567
  refine own_go st567 ?_
  show own_End p e below s _ _ _ (T567.setTop (mkF m 34 #[.val (.long p1), .second, .val (.long p2), .second, .val (.long p3), .second, .val (.long p4), .second, .val (.int p5), .val (.long p6), .second, .val (.long ve557), .second, .val (.long vf558), .second, .val (.ref b559), .unset, .unset, .unset, .unset, .unset, .unset, .unset, .unset, .unset, .unset, .unset, .unset, .unset, .unset, .unset, .unset, .unset] [(.ref b567)]))
  refine own_go (fun t k => XS.dup X567.here hx rfl (hb hby at_34) rfl rfl k) ?_
  show own_End p e below s _ _ _ (T567.setTop (mkF m 35 #[.val (.long p1), .second, .val (.long p2), .second, .val (.long p3), .second, .val (.long p4), .second, .val (.int p5), .val (.long p6), .second, .val (.long ve557), .second, .val (.long vf558), .second, .val (.ref b559), .unset, .unset, .unset, .unset, .unset, .unset, .unset, .unset, .unset, .unset, .unset, .unset, .unset, .unset, .unset, .unset, .unset] [(.ref b567), (.ref b567)]))
  refine own_go (fun t k => XS.iconst X567.here hx rfl (hb hby at_35) k) ?_
  show own_End p e below s _ _ _ (T567.setTop (mkF m 36 #[.val (.long p1), .second, .val (.long p2), .second, .val (.long p3), .second, .val (.long p4), .second, .val (.int p5), .val (.long p6), .second, .val (.long ve557), .second, .val (.long vf558), .second, .val (.ref b559), .unset, .unset, .unset, .unset, .unset, .unset, .unset, .unset, .unset, .unset, .unset, .unset, .unset, .unset, .unset, .unset, .unset] [(.int (0 : Int32)), (.ref b567), (.ref b567)]))
  refine own_go (fun t k => XT.lload X567.here hx rfl (hb hby at_36) rfl k) ?_
  show own_End p e below s _ _ _ (T567.setTop (mkF m 38 #[.val (.long p1), .second, .val (.long p2), .second, .val (.long p3), .second, .val (.long p4), .second, .val (.int p5), .val (.long p6), .second, .val (.long ve557), .second, .val (.long vf558), .second, .val (.ref b559), .unset, .unset, .unset, .unset, .unset, .unset, .unset, .unset, .unset, .unset, .unset, .unset, .unset, .unset, .unset, .unset, .unset] [(.long p4), (.int (0 : Int32)), (.ref b567), (.ref b567)]))
  obtain ⟨T569, h569, X569, e569, W569, F569, st569⟩ := own_fstJ X567 hx hZ e567 F567 (j := (0 : Int32)) (y := p4) 0 (by decide) (by decide) (pc := 38) (Ls := #[.val (.long p1), .second, .val (.long p2), .second, .val (.long p3), .second, .val (.long p4), .second, .val (.int p5), .val (.long p6), .second, .val (.long ve557), .second, .val (.long vf558), .second, .val (.ref b559), .unset, .unset, .unset, .unset, .unset, .unset, .unset, .unset, .unset, .unset, .unset, .unset, .unset, .unset, .unset, .unset, .unset]) (rest := [(.ref b567)]) (hb hby at_38)
  have N569 := Fr.snoc X569 N564 nb567
  have Z569 : n0 ≤ h569.size := by rw [W569.size]; exact Z567
  refine own_go st569 ?_
  have f570 := f568.other W569 (Nat.ne_of_lt lt_b559_b567)
  show own_End p e below s _ _ _ (T569.setTop (mkF m 39 #[.val (.long p1), .second, .val (.long p2), .second, .val (.long p3), .second, .val (.long p4), .second, .val (.int p5), .val (.long p6), .second, .val (.long ve557), .second, .val (.long vf558), .second, .val (.ref b559), .unset, .unset, .unset, .unset, .unset, .unset, .unset, .unset, .unset, .unset, .unset, .unset, .unset, .unset, .unset, .unset, .unset] [(.ref b567)]))
  refine own_go (fun t k => XS.dup X569.here hx rfl (hb hby at_39) rfl rfl k) ?_
  show own_End p e below s _ _ _ (T569.setTop (mkF m 40 #[.val (.long p1), .second, .val (.long p2), .second, .val (.long p3), .second, .val (.long p4), .second, .val (.int p5), .val (.long p6), .second, .val (.long ve557), .second, .val (.long vf558), .second, .val (.ref b559), .unset, .unset, .unset, .unset, .unset, .unset, .unset, .unset, .unset, .unset, .unset, .unset, .unset, .unset, .unset, .unset, .unset] [(.ref b567), (.ref b567)]))
  refine own_go (fun t k => XS.iconst X569.here hx rfl (hb hby at_40) k) ?_
  show own_End p e below s _ _ _ (T569.setTop (mkF m 41 #[.val (.long p1), .second, .val (.long p2), .second, .val (.long p3), .second, .val (.long p4), .second, .val (.int p5), .val (.long p6), .second, .val (.long ve557), .second, .val (.long vf558), .second, .val (.ref b559), .unset, .unset, .unset, .unset, .unset, .unset, .unset, .unset, .unset, .unset, .unset, .unset, .unset, .unset, .unset, .unset, .unset] [(.int (1 : Int32)), (.ref b567), (.ref b567)]))
  refine own_go (fun t k => XT.lload X569.here hx rfl (hb hby at_41) rfl k) ?_
  show own_End p e below s _ _ _ (T569.setTop (mkF m 43 #[.val (.long p1), .second, .val (.long p2), .second, .val (.long p3), .second, .val (.long p4), .second, .val (.int p5), .val (.long p6), .second, .val (.long ve557), .second, .val (.long vf558), .second, .val (.ref b559), .unset, .unset, .unset, .unset, .unset, .unset, .unset, .unset, .unset, .unset, .unset, .unset, .unset, .unset, .unset, .unset, .unset] [(.long ve557), (.int (1 : Int32)), (.ref b567), (.ref b567)]))
  obtain ⟨T572, h572, X572, e572, W572, F572, st572⟩ := own_fstJ X569 hx hZ e569 F569 (j := (1 : Int32)) (y := ve557) 1 (by decide) (by decide) (pc := 43) (Ls := #[.val (.long p1), .second, .val (.long p2), .second, .val (.long p3), .second, .val (.long p4), .second, .val (.int p5), .val (.long p6), .second, .val (.long ve557), .second, .val (.long vf558), .second, .val (.ref b559), .unset, .unset, .unset, .unset, .unset, .unset, .unset, .unset, .unset, .unset, .unset, .unset, .unset, .unset, .unset, .unset, .unset]) (rest := [(.ref b567)]) (hb hby at_43)
  have N572 := Fr.snoc X572 N569 nb567
  have Z572 : n0 ≤ h572.size := by rw [W572.size]; exact Z569
  refine own_go st572 ?_
  have f573 := f570.other W572 (Nat.ne_of_lt lt_b559_b567)
  show own_End p e below s _ _ _ (T572.setTop (mkF m 44 #[.val (.long p1), .second, .val (.long p2), .second, .val (.long p3), .second, .val (.long p4), .second, .val (.int p5), .val (.long p6), .second, .val (.long ve557), .second, .val (.long vf558), .second, .val (.ref b559), .unset, .unset, .unset, .unset, .unset, .unset, .unset, .unset, .unset, .unset, .unset, .unset, .unset, .unset, .unset, .unset, .unset] [(.ref b567)]))
  refine own_go (fun t k => XS.dup X572.here hx rfl (hb hby at_44) rfl rfl k) ?_
  show own_End p e below s _ _ _ (T572.setTop (mkF m 45 #[.val (.long p1), .second, .val (.long p2), .second, .val (.long p3), .second, .val (.long p4), .second, .val (.int p5), .val (.long p6), .second, .val (.long ve557), .second, .val (.long vf558), .second, .val (.ref b559), .unset, .unset, .unset, .unset, .unset, .unset, .unset, .unset, .unset, .unset, .unset, .unset, .unset, .unset, .unset, .unset, .unset] [(.ref b567), (.ref b567)]))
  refine own_go (fun t k => XS.iconst X572.here hx rfl (hb hby at_45) k) ?_
  show own_End p e below s _ _ _ (T572.setTop (mkF m 46 #[.val (.long p1), .second, .val (.long p2), .second, .val (.long p3), .second, .val (.long p4), .second, .val (.int p5), .val (.long p6), .second, .val (.long ve557), .second, .val (.long vf558), .second, .val (.ref b559), .unset, .unset, .unset, .unset, .unset, .unset, .unset, .unset, .unset, .unset, .unset, .unset, .unset, .unset, .unset, .unset, .unset] [(.int (2 : Int32)), (.ref b567), (.ref b567)]))
  refine own_go (fun t k => XT.lload X572.here hx rfl (hb hby at_46) rfl k) ?_
  show own_End p e below s _ _ _ (T572.setTop (mkF m 48 #[.val (.long p1), .second, .val (.long p2), .second, .val (.long p3), .second, .val (.long p4), .second, .val (.int p5), .val (.long p6), .second, .val (.long ve557), .second, .val (.long vf558), .second, .val (.ref b559), .unset, .unset, .unset, .unset, .unset, .unset, .unset, .unset, .unset, .unset, .unset, .unset, .unset, .unset, .unset, .unset, .unset] [(.long vf558), (.int (2 : Int32)), (.ref b567), (.ref b567)]))
  obtain ⟨T575, h575, X575, e575, W575, F575, st575⟩ := own_fstJ X572 hx hZ e572 F572 (j := (2 : Int32)) (y := vf558) 2 (by decide) (by decide) (pc := 48) (Ls := #[.val (.long p1), .second, .val (.long p2), .second, .val (.long p3), .second, .val (.long p4), .second, .val (.int p5), .val (.long p6), .second, .val (.long ve557), .second, .val (.long vf558), .second, .val (.ref b559), .unset, .unset, .unset, .unset, .unset, .unset, .unset, .unset, .unset, .unset, .unset, .unset, .unset, .unset, .unset, .unset, .unset]) (rest := [(.ref b567)]) (hb hby at_48)
  have N575 := Fr.snoc X575 N572 nb567
  have Z575 : n0 ≤ h575.size := by rw [W575.size]; exact Z572
  refine own_go st575 ?_
  have f576 := f573.other W575 (Nat.ne_of_lt lt_b559_b567)
  show own_End p e below s _ _ _ (T575.setTop (mkF m 49 #[.val (.long p1), .second, .val (.long p2), .second, .val (.long p3), .second, .val (.long p4), .second, .val (.int p5), .val (.long p6), .second, .val (.long ve557), .second, .val (.long vf558), .second, .val (.ref b559), .unset, .unset, .unset, .unset, .unset, .unset, .unset, .unset, .unset, .unset, .unset, .unset, .unset, .unset, .unset, .unset, .unset] [(.ref b567)]))
  have f578 := own_F.cong F575 (g := (fun i => .long (own_v3 p4 ve557 vf558 i))) (fun i hi => by match i, hi with | 0, _ => rfl | 1, _ => rfl | 2, _ => rfl | _ + 3, hq => exact absurd hq (by omega))
  refine own_go (fun t k => XS.astore X575.here hx rfl (hb hby at_49) rfl rfl (l' := #[.val (.long p1), .second, .val (.long p2), .second, .val (.long p3), .second, .val (.long p4), .second, .val (.int p5), .val (.long p6), .second, .val (.long ve557), .second, .val (.long vf558), .second, .val (.ref b559), .val (.ref b567), .unset, .unset, .unset, .unset, .unset, .unset, .unset, .unset, .unset, .unset, .unset, .unset, .unset, .unset, .unset, .unset]) rfl k) ?_
  show own_End p e below s _ _ _ (T575.setTop (mkF m 51 #[.val (.long p1), .second, .val (.long p2), .second, .val (.long p3), .second, .val (.long p4), .second, .val (.int p5), .val (.long p6), .second, .val (.long ve557), .second, .val (.long vf558), .second, .val (.ref b559), .val (.ref b567), .unset, .unset, .unset, .unset, .unset, .unset, .unset, .unset, .unset, .unset, .unset, .unset, .unset, .unset, .unset, .unset] []))
  refine own_go (fun t k => XS.iconst X575.here hx rfl (hb hby at_51) k) ?_
  show own_End p e below s _ _ _ (T575.setTop (mkF m 52 #[.val (.long p1), .second, .val (.long p2), .second, .val (.long p3), .second, .val (.long p4), .second, .val (.int p5), .val (.long p6), .second, .val (.long ve557), .second, .val (.long vf558), .second, .val (.ref b559), .val (.ref b567), .unset, .unset, .unset, .unset, .unset, .unset, .unset, .unset, .unset, .unset, .unset, .unset, .unset, .unset, .unset, .unset] [(.int (4 : Int32))]))
  obtain ⟨T579, h579, k579, X579, e579, E579, A579, Ex579, st579⟩ := newPE X575 hx hZ (hw _ (List.mem_of_getElem? (i := 1) rfl)) e575 (g := (mkF m 52 #[.val (.long p1), .second, .val (.long p2), .second, .val (.long p3), .second, .val (.long p4), .second, .val (.int p5), .val (.long p6), .second, .val (.long ve557), .second, .val (.long vf558), .second, .val (.ref b559), .val (.ref b567), .unset, .unset, .unset, .unset, .unset, .unset, .unset, .unset, .unset, .unset, .unset, .unset, .unset, .unset, .unset, .unset] [(.int (4 : Int32))])) rfl (hb hby at_52) rfl (by decide) (cap := 4) (by decide) (by decide) (by decide) (by decide) (ad := "[J") (by decide)
  obtain ⟨b579, gb579⟩ : ∃ z, z = h575.size := ⟨_, rfl⟩
  rw [← gb579] at A579 st579 Ex579
  have F579 := own_F.new A579 (n := 4) (by decide) (by decide)
  have nb579 : n0 ≤ b579 := by rw [gb579]; exact Z575
  have Z579 : n0 ≤ h579.size := Nat.le_trans Z575 E579.1
  have lt_b559_b579 : @LT.lt Nat _ b559 b579 := Nat.lt_of_lt_of_le f576.lt (Nat.le_of_eq gb579.symm)
  have lt_b567_b579 : @LT.lt Nat _ b567 b579 := Nat.lt_of_lt_of_le f578.lt (Nat.le_of_eq gb579.symm)
  have f580 := f576.ext E579
  have f581 := f578.ext E579
  refine own_go st579 ?_
  show own_End p e below s _ _ _ (T579.setTop (mkF m 54 #[.val (.long p1), .second, .val (.long p2), .second, .val (.long p3), .second, .val (.long p4), .second, .val (.int p5), .val (.long p6), .second, .val (.long ve557), .second, .val (.long vf558), .second, .val (.ref b559), .val (.ref b567), .unset, .unset, .unset, .unset, .unset, .unset, .unset, .unset, .unset, .unset, .unset, .unset, .unset, .unset, .unset, .unset] [(.ref b579)]))
  refine own_go (fun t k => XS.dup X579.here hx rfl (hb hby at_54) rfl rfl k) ?_
  show own_End p e below s _ _ _ (T579.setTop (mkF m 55 #[.val (.long p1), .second, .val (.long p2), .second, .val (.long p3), .second, .val (.long p4), .second, .val (.int p5), .val (.long p6), .second, .val (.long ve557), .second, .val (.long vf558), .second, .val (.ref b559), .val (.ref b567), .unset, .unset, .unset, .unset, .unset, .unset, .unset, .unset, .unset, .unset, .unset, .unset, .unset, .unset, .unset, .unset] [(.ref b579), (.ref b579)]))
  refine own_go (fun t k => XS.iconst X579.here hx rfl (hb hby at_55) k) ?_
  show own_End p e below s _ _ _ (T579.setTop (mkF m 56 #[.val (.long p1), .second, .val (.long p2), .second, .val (.long p3), .second, .val (.long p4), .second, .val (.int p5), .val (.long p6), .second, .val (.long ve557), .second, .val (.long vf558), .second, .val (.ref b559), .val (.ref b567), .unset, .unset, .unset, .unset, .unset, .unset, .unset, .unset, .unset, .unset, .unset, .unset, .unset, .unset, .unset, .unset] [(.int (0 : Int32)), (.ref b579), (.ref b579)]))
  refine own_go (fun t k => XT.lconst X579.here hx rfl (hb hby at_56) k) ?_
  show own_End p e below s _ _ _ (T579.setTop (mkF m 57 #[.val (.long p1), .second, .val (.long p2), .second, .val (.long p3), .second, .val (.long p4), .second, .val (.int p5), .val (.long p6), .second, .val (.long ve557), .second, .val (.long vf558), .second, .val (.ref b559), .val (.ref b567), .unset, .unset, .unset, .unset, .unset, .unset, .unset, .unset, .unset, .unset, .unset, .unset, .unset, .unset, .unset, .unset] [(.long (0 : Int64)), (.int (0 : Int32)), (.ref b579), (.ref b579)]))
  obtain ⟨T582, h582, X582, e582, W582, F582, st582⟩ := own_fstJ X579 hx hZ e579 F579 (j := (0 : Int32)) (y := (0 : Int64)) 0 (by decide) (by decide) (pc := 57) (Ls := #[.val (.long p1), .second, .val (.long p2), .second, .val (.long p3), .second, .val (.long p4), .second, .val (.int p5), .val (.long p6), .second, .val (.long ve557), .second, .val (.long vf558), .second, .val (.ref b559), .val (.ref b567), .unset, .unset, .unset, .unset, .unset, .unset, .unset, .unset, .unset, .unset, .unset, .unset, .unset, .unset, .unset, .unset]) (rest := [(.ref b579)]) (hb hby at_57)
  have N582 := Fr.snoc X582 N575 nb579
  have Z582 : n0 ≤ h582.size := by rw [W582.size]; exact Z579
  refine own_go st582 ?_
  have f583 := f580.other W582 (Nat.ne_of_lt lt_b559_b579)
  have f584 := f581.other W582 (Nat.ne_of_lt lt_b567_b579)
  have f586 := Ex579.wr W582
  show own_End p e below s _ _ _ (T582.setTop (mkF m 58 #[.val (.long p1), .second, .val (.long p2), .second, .val (.long p3), .second, .val (.long p4), .second, .val (.int p5), .val (.long p6), .second, .val (.long ve557), .second, .val (.long vf558), .second, .val (.ref b559), .val (.ref b567), .unset, .unset, .unset, .unset, .unset, .unset, .unset, .unset, .unset, .unset, .unset, .unset, .unset, .unset, .unset, .unset] [(.ref b579)]))
  refine own_go (fun t k => XS.dup X582.here hx rfl (hb hby at_58) rfl rfl k) ?_
  show own_End p e below s _ _ _ (T582.setTop (mkF m 59 #[.val (.long p1), .second, .val (.long p2), .second, .val (.long p3), .second, .val (.long p4), .second, .val (.int p5), .val (.long p6), .second, .val (.long ve557), .second, .val (.long vf558), .second, .val (.ref b559), .val (.ref b567), .unset, .unset, .unset, .unset, .unset, .unset, .unset, .unset, .unset, .unset, .unset, .unset, .unset, .unset, .unset, .unset] [(.ref b579), (.ref b579)]))
  refine own_go (fun t k => XS.iconst X582.here hx rfl (hb hby at_59) k) ?_
  show own_End p e below s _ _ _ (T582.setTop (mkF m 60 #[.val (.long p1), .second, .val (.long p2), .second, .val (.long p3), .second, .val (.long p4), .second, .val (.int p5), .val (.long p6), .second, .val (.long ve557), .second, .val (.long vf558), .second, .val (.ref b559), .val (.ref b567), .unset, .unset, .unset, .unset, .unset, .unset, .unset, .unset, .unset, .unset, .unset, .unset, .unset, .unset, .unset, .unset] [(.int (1 : Int32)), (.ref b579), (.ref b579)]))
  refine own_go (fun t k => XT.lloadN X582.here hx rfl (hb hby at_60) rfl k) ?_
  show own_End p e below s _ _ _ (T582.setTop (mkF m 61 #[.val (.long p1), .second, .val (.long p2), .second, .val (.long p3), .second, .val (.long p4), .second, .val (.int p5), .val (.long p6), .second, .val (.long ve557), .second, .val (.long vf558), .second, .val (.ref b559), .val (.ref b567), .unset, .unset, .unset, .unset, .unset, .unset, .unset, .unset, .unset, .unset, .unset, .unset, .unset, .unset, .unset, .unset] [(.long p1), (.int (1 : Int32)), (.ref b579), (.ref b579)]))
  obtain ⟨T587, h587, X587, e587, W587, F587, st587⟩ := own_fstJ X582 hx hZ e582 F582 (j := (1 : Int32)) (y := p1) 1 (by decide) (by decide) (pc := 61) (Ls := #[.val (.long p1), .second, .val (.long p2), .second, .val (.long p3), .second, .val (.long p4), .second, .val (.int p5), .val (.long p6), .second, .val (.long ve557), .second, .val (.long vf558), .second, .val (.ref b559), .val (.ref b567), .unset, .unset, .unset, .unset, .unset, .unset, .unset, .unset, .unset, .unset, .unset, .unset, .unset, .unset, .unset, .unset]) (rest := [(.ref b579)]) (hb hby at_61)
  have N587 := Fr.snoc X587 N582 nb579
  have Z587 : n0 ≤ h587.size := by rw [W587.size]; exact Z582
  refine own_go st587 ?_
  have f588 := f583.other W587 (Nat.ne_of_lt lt_b559_b579)
  have f589 := f584.other W587 (Nat.ne_of_lt lt_b567_b579)
  have f591 := f586.wr W587
  show own_End p e below s _ _ _ (T587.setTop (mkF m 62 #[.val (.long p1), .second, .val (.long p2), .second, .val (.long p3), .second, .val (.long p4), .second, .val (.int p5), .val (.long p6), .second, .val (.long ve557), .second, .val (.long vf558), .second, .val (.ref b559), .val (.ref b567), .unset, .unset, .unset, .unset, .unset, .unset, .unset, .unset, .unset, .unset, .unset, .unset, .unset, .unset, .unset, .unset] [(.ref b579)]))
  refine own_go (fun t k => XS.dup X587.here hx rfl (hb hby at_62) rfl rfl k) ?_
  show own_End p e below s _ _ _ (T587.setTop (mkF m 63 #[.val (.long p1), .second, .val (.long p2), .second, .val (.long p3), .second, .val (.long p4), .second, .val (.int p5), .val (.long p6), .second, .val (.long ve557), .second, .val (.long vf558), .second, .val (.ref b559), .val (.ref b567), .unset, .unset, .unset, .unset, .unset, .unset, .unset, .unset, .unset, .unset, .unset, .unset, .unset, .unset, .unset, .unset] [(.ref b579), (.ref b579)]))
  refine own_go (fun t k => XS.iconst X587.here hx rfl (hb hby at_63) k) ?_
  show own_End p e below s _ _ _ (T587.setTop (mkF m 64 #[.val (.long p1), .second, .val (.long p2), .second, .val (.long p3), .second, .val (.long p4), .second, .val (.int p5), .val (.long p6), .second, .val (.long ve557), .second, .val (.long vf558), .second, .val (.ref b559), .val (.ref b567), .unset, .unset, .unset, .unset, .unset, .unset, .unset, .unset, .unset, .unset, .unset, .unset, .unset, .unset, .unset, .unset] [(.int (2 : Int32)), (.ref b579), (.ref b579)]))
  refine own_go (fun t k => XT.lloadN X587.here hx rfl (hb hby at_64) rfl k) ?_
  show own_End p e below s _ _ _ (T587.setTop (mkF m 65 #[.val (.long p1), .second, .val (.long p2), .second, .val (.long p3), .second, .val (.long p4), .second, .val (.int p5), .val (.long p6), .second, .val (.long ve557), .second, .val (.long vf558), .second, .val (.ref b559), .val (.ref b567), .unset, .unset, .unset, .unset, .unset, .unset, .unset, .unset, .unset, .unset, .unset, .unset, .unset, .unset, .unset, .unset] [(.long p1), (.int (2 : Int32)), (.ref b579), (.ref b579)]))
  refine own_go (fun t k => XT.lloadN X587.here hx rfl (hb hby at_65) rfl k) ?_
  show own_End p e below s _ _ _ (T587.setTop (mkF m 66 #[.val (.long p1), .second, .val (.long p2), .second, .val (.long p3), .second, .val (.long p4), .second, .val (.int p5), .val (.long p6), .second, .val (.long ve557), .second, .val (.long vf558), .second, .val (.ref b559), .val (.ref b567), .unset, .unset, .unset, .unset, .unset, .unset, .unset, .unset, .unset, .unset, .unset, .unset, .unset, .unset, .unset, .unset] [(.long p2), (.long p1), (.int (2 : Int32)), (.ref b579), (.ref b579)]))
  refine own_go (fun t k => XT.ladd X587.here hx rfl (hb hby at_66) rfl k) ?_
  show own_End p e below s _ _ _ (T587.setTop (mkF m 67 #[.val (.long p1), .second, .val (.long p2), .second, .val (.long p3), .second, .val (.long p4), .second, .val (.int p5), .val (.long p6), .second, .val (.long ve557), .second, .val (.long vf558), .second, .val (.ref b559), .val (.ref b567), .unset, .unset, .unset, .unset, .unset, .unset, .unset, .unset, .unset, .unset, .unset, .unset, .unset, .unset, .unset, .unset] [(.long (p1 + p2)), (.int (2 : Int32)), (.ref b579), (.ref b579)]))
  obtain ⟨T592, h592, X592, e592, W592, F592, st592⟩ := own_fstJ X587 hx hZ e587 F587 (j := (2 : Int32)) (y := (p1 + p2)) 2 (by decide) (by decide) (pc := 67) (Ls := #[.val (.long p1), .second, .val (.long p2), .second, .val (.long p3), .second, .val (.long p4), .second, .val (.int p5), .val (.long p6), .second, .val (.long ve557), .second, .val (.long vf558), .second, .val (.ref b559), .val (.ref b567), .unset, .unset, .unset, .unset, .unset, .unset, .unset, .unset, .unset, .unset, .unset, .unset, .unset, .unset, .unset, .unset]) (rest := [(.ref b579)]) (hb hby at_67)
  have N592 := Fr.snoc X592 N587 nb579
  have Z592 : n0 ≤ h592.size := by rw [W592.size]; exact Z587
  refine own_go st592 ?_
  have f593 := f588.other W592 (Nat.ne_of_lt lt_b559_b579)
  have f594 := f589.other W592 (Nat.ne_of_lt lt_b567_b579)
  have f596 := f591.wr W592
  show own_End p e below s _ _ _ (T592.setTop (mkF m 68 #[.val (.long p1), .second, .val (.long p2), .second, .val (.long p3), .second, .val (.long p4), .second, .val (.int p5), .val (.long p6), .second, .val (.long ve557), .second, .val (.long vf558), .second, .val (.ref b559), .val (.ref b567), .unset, .unset, .unset, .unset, .unset, .unset, .unset, .unset, .unset, .unset, .unset, .unset, .unset, .unset, .unset, .unset] [(.ref b579)]))
  refine own_go (fun t k => XS.dup X592.here hx rfl (hb hby at_68) rfl rfl k) ?_
  show own_End p e below s _ _ _ (T592.setTop (mkF m 69 #[.val (.long p1), .second, .val (.long p2), .second, .val (.long p3), .second, .val (.long p4), .second, .val (.int p5), .val (.long p6), .second, .val (.long ve557), .second, .val (.long vf558), .second, .val (.ref b559), .val (.ref b567), .unset, .unset, .unset, .unset, .unset, .unset, .unset, .unset, .unset, .unset, .unset, .unset, .unset, .unset, .unset, .unset] [(.ref b579), (.ref b579)]))
  refine own_go (fun t k => XS.iconst X592.here hx rfl (hb hby at_69) k) ?_
  show own_End p e below s _ _ _ (T592.setTop (mkF m 70 #[.val (.long p1), .second, .val (.long p2), .second, .val (.long p3), .second, .val (.long p4), .second, .val (.int p5), .val (.long p6), .second, .val (.long ve557), .second, .val (.long vf558), .second, .val (.ref b559), .val (.ref b567), .unset, .unset, .unset, .unset, .unset, .unset, .unset, .unset, .unset, .unset, .unset, .unset, .unset, .unset, .unset, .unset] [(.int (3 : Int32)), (.ref b579), (.ref b579)]))
  refine own_go (fun t k => XT.lloadN X592.here hx rfl (hb hby at_70) rfl k) ?_
  show own_End p e below s _ _ _ (T592.setTop (mkF m 71 #[.val (.long p1), .second, .val (.long p2), .second, .val (.long p3), .second, .val (.long p4), .second, .val (.int p5), .val (.long p6), .second, .val (.long ve557), .second, .val (.long vf558), .second, .val (.ref b559), .val (.ref b567), .unset, .unset, .unset, .unset, .unset, .unset, .unset, .unset, .unset, .unset, .unset, .unset, .unset, .unset, .unset, .unset] [(.long p1), (.int (3 : Int32)), (.ref b579), (.ref b579)]))
  refine own_go (fun t k => XT.lloadN X592.here hx rfl (hb hby at_71) rfl k) ?_
  show own_End p e below s _ _ _ (T592.setTop (mkF m 72 #[.val (.long p1), .second, .val (.long p2), .second, .val (.long p3), .second, .val (.long p4), .second, .val (.int p5), .val (.long p6), .second, .val (.long ve557), .second, .val (.long vf558), .second, .val (.ref b559), .val (.ref b567), .unset, .unset, .unset, .unset, .unset, .unset, .unset, .unset, .unset, .unset, .unset, .unset, .unset, .unset, .unset, .unset] [(.long p2), (.long p1), (.int (3 : Int32)), (.ref b579), (.ref b579)]))
  refine own_go (fun t k => XT.ladd X592.here hx rfl (hb hby at_72) rfl k) ?_
  show own_End p e below s _ _ _ (T592.setTop (mkF m 73 #[.val (.long p1), .second, .val (.long p2), .second, .val (.long p3), .second, .val (.long p4), .second, .val (.int p5), .val (.long p6), .second, .val (.long ve557), .second, .val (.long vf558), .second, .val (.ref b559), .val (.ref b567), .unset, .unset, .unset, .unset, .unset, .unset, .unset, .unset, .unset, .unset, .unset, .unset, .unset, .unset, .unset, .unset] [(.long (p1 + p2)), (.int (3 : Int32)), (.ref b579), (.ref b579)]))
  refine own_go (fun t k => XT.lload X592.here hx rfl (hb hby at_73) rfl k) ?_
  show own_End p e below s _ _ _ (T592.setTop (mkF m 75 #[.val (.long p1), .second, .val (.long p2), .second, .val (.long p3), .second, .val (.long p4), .second, .val (.int p5), .val (.long p6), .second, .val (.long ve557), .second, .val (.long vf558), .second, .val (.ref b559), .val (.ref b567), .unset, .unset, .unset, .unset, .unset, .unset, .unset, .unset, .unset, .unset, .unset, .unset, .unset, .unset, .unset, .unset] [(.long p3), (.long (p1 + p2)), (.int (3 : Int32)), (.ref b579), (.ref b579)]))
  refine own_go (fun t k => XT.ladd X592.here hx rfl (hb hby at_75) rfl k) ?_
  show own_End p e below s _ _ _ (T592.setTop (mkF m 76 #[.val (.long p1), .second, .val (.long p2), .second, .val (.long p3), .second, .val (.long p4), .second, .val (.int p5), .val (.long p6), .second, .val (.long ve557), .second, .val (.long vf558), .second, .val (.ref b559), .val (.ref b567), .unset, .unset, .unset, .unset, .unset, .unset, .unset, .unset, .unset, .unset, .unset, .unset, .unset, .unset, .unset, .unset] [(.long ((p1 + p2) + p3)), (.int (3 : Int32)), (.ref b579), (.ref b579)]))
  obtain ⟨T597, h597, X597, e597, W597, F597, st597⟩ := own_fstJ X592 hx hZ e592 F592 (j := (3 : Int32)) (y := ((p1 + p2) + p3)) 3 (by decide) (by decide) (pc := 76) (Ls := #[.val (.long p1), .second, .val (.long p2), .second, .val (.long p3), .second, .val (.long p4), .second, .val (.int p5), .val (.long p6), .second, .val (.long ve557), .second, .val (.long vf558), .second, .val (.ref b559), .val (.ref b567), .unset, .unset, .unset, .unset, .unset, .unset, .unset, .unset, .unset, .unset, .unset, .unset, .unset, .unset, .unset, .unset]) (rest := [(.ref b579)]) (hb hby at_76)
  have N597 := Fr.snoc X597 N592 nb579
  have Z597 : n0 ≤ h597.size := by rw [W597.size]; exact Z592
  refine own_go st597 ?_
  have f598 := f593.other W597 (Nat.ne_of_lt lt_b559_b579)
  have f599 := f594.other W597 (Nat.ne_of_lt lt_b567_b579)
  have f601 := f596.wr W597
  show own_End p e below s _ _ _ (T597.setTop (mkF m 77 #[.val (.long p1), .second, .val (.long p2), .second, .val (.long p3), .second, .val (.long p4), .second, .val (.int p5), .val (.long p6), .second, .val (.long ve557), .second, .val (.long vf558), .second, .val (.ref b559), .val (.ref b567), .unset, .unset, .unset, .unset, .unset, .unset, .unset, .unset, .unset, .unset, .unset, .unset, .unset, .unset, .unset, .unset] [(.ref b579)]))
  have f602 := own_F.cong F597 (g := (fun i => .long (own_s4 p1 p2 p3 i))) (fun i hi => by match i, hi with | 0, _ => rfl | 1, _ => rfl | 2, _ => rfl | 3, _ => rfl | _ + 4, hq => exact absurd hq (by omega))
  refine own_go (fun t k => XS.astore X597.here hx rfl (hb hby at_77) rfl rfl (l' := #[.val (.long p1), .second, .val (.long p2), .second, .val (.long p3), .second, .val (.long p4), .second, .val (.int p5), .val (.long p6), .second, .val (.long ve557), .second, .val (.long vf558), .second, .val (.ref b559), .val (.ref b567), .val (.ref b579), .unset, .unset, .unset, .unset, .unset, .unset, .unset, .unset, .unset, .unset, .unset, .unset, .unset, .unset, .unset]) rfl k) ?_
  show own_End p e below s _ _ _ (T597.setTop (mkF m 79 #[.val (.long p1), .second, .val (.long p2), .second, .val (.long p3), .second, .val (.long p4), .second, .val (.int p5), .val (.long p6), .second, .val (.long ve557), .second, .val (.long vf558), .second, .val (.ref b559), .val (.ref b567), .val (.ref b579), .unset, .unset, .unset, .unset, .unset, .unset, .unset, .unset, .unset, .unset, .unset, .unset, .unset, .unset, .unset] []))
  refine own_go (fun t k => XS.iconst X597.here hx rfl (hb hby at_79) k) ?_
  show own_End p e below s _ _ _ (T597.setTop (mkF m 80 #[.val (.long p1), .second, .val (.long p2), .second, .val (.long p3), .second, .val (.long p4), .second, .val (.int p5), .val (.long p6), .second, .val (.long ve557), .second, .val (.long vf558), .second, .val (.ref b559), .val (.ref b567), .val (.ref b579), .unset, .unset, .unset, .unset, .unset, .unset, .unset, .unset, .unset, .unset, .unset, .unset, .unset, .unset, .unset] [(.int (4 : Int32))]))
  obtain ⟨T603, h603, k603, X603, e603, E603, A603, Ex603, st603⟩ := newPE X597 hx hZ (hw _ (List.mem_of_getElem? (i := 1) rfl)) e597 (g := (mkF m 80 #[.val (.long p1), .second, .val (.long p2), .second, .val (.long p3), .second, .val (.long p4), .second, .val (.int p5), .val (.long p6), .second, .val (.long ve557), .second, .val (.long vf558), .second, .val (.ref b559), .val (.ref b567), .val (.ref b579), .unset, .unset, .unset, .unset, .unset, .unset, .unset, .unset, .unset, .unset, .unset, .unset, .unset, .unset, .unset] [(.int (4 : Int32))])) rfl (hb hby at_80) rfl (by decide) (cap := 4) (by decide) (by decide) (by decide) (by decide) (ad := "[J") (by decide)
  obtain ⟨b603, gb603⟩ : ∃ z, z = h597.size := ⟨_, rfl⟩
  rw [← gb603] at A603 st603 Ex603
  have F603 := own_F.new A603 (n := 4) (by decide) (by decide)
  have nb603 : n0 ≤ b603 := by rw [gb603]; exact Z597
  have Z603 : n0 ≤ h603.size := Nat.le_trans Z597 E603.1
  have lt_b559_b603 : @LT.lt Nat _ b559 b603 := Nat.lt_of_lt_of_le f598.lt (Nat.le_of_eq gb603.symm)
  have lt_b567_b603 : @LT.lt Nat _ b567 b603 := Nat.lt_of_lt_of_le f599.lt (Nat.le_of_eq gb603.symm)
  have lt_b579_b603 : @LT.lt Nat _ b579 b603 := Nat.lt_of_lt_of_le f602.lt (Nat.le_of_eq gb603.symm)
  have f604 := f598.ext E603
  have f605 := f599.ext E603
  have f606 := f602.ext E603
  have f607 := f601.ext E603
  refine own_go st603 ?_
  show own_End p e below s _ _ _ (T603.setTop (mkF m 82 #[.val (.long p1), .second, .val (.long p2), .second, .val (.long p3), .second, .val (.long p4), .second, .val (.int p5), .val (.long p6), .second, .val (.long ve557), .second, .val (.long vf558), .second, .val (.ref b559), .val (.ref b567), .val (.ref b579), .unset, .unset, .unset, .unset, .unset, .unset, .unset, .unset, .unset, .unset, .unset, .unset, .unset, .unset, .unset] [(.ref b603)]))
  refine own_go (fun t k => XS.dup X603.here hx rfl (hb hby at_82) rfl rfl k) ?_
  show own_End p e below s _ _ _ (T603.setTop (mkF m 83 #[.val (.long p1), .second, .val (.long p2), .second, .val (.long p3), .second, .val (.long p4), .second, .val (.int p5), .val (.long p6), .second, .val (.long ve557), .second, .val (.long vf558), .second, .val (.ref b559), .val (.ref b567), .val (.ref b579), .unset, .unset, .unset, .unset, .unset, .unset, .unset, .unset, .unset, .unset, .unset, .unset, .unset, .unset, .unset] [(.ref b603), (.ref b603)]))
  refine own_go (fun t k => XS.iconst X603.here hx rfl (hb hby at_83) k) ?_
  show own_End p e below s _ _ _ (T603.setTop (mkF m 84 #[.val (.long p1), .second, .val (.long p2), .second, .val (.long p3), .second, .val (.long p4), .second, .val (.int p5), .val (.long p6), .second, .val (.long ve557), .second, .val (.long vf558), .second, .val (.ref b559), .val (.ref b567), .val (.ref b579), .unset, .unset, .unset, .unset, .unset, .unset, .unset, .unset, .unset, .unset, .unset, .unset, .unset, .unset, .unset] [(.int (0 : Int32)), (.ref b603), (.ref b603)]))
  refine own_go (fun t k => XT.lconst X603.here hx rfl (hb hby at_84) k) ?_
  show own_End p e below s _ _ _ (T603.setTop (mkF m 85 #[.val (.long p1), .second, .val (.long p2), .second, .val (.long p3), .second, .val (.long p4), .second, .val (.int p5), .val (.long p6), .second, .val (.long ve557), .second, .val (.long vf558), .second, .val (.ref b559), .val (.ref b567), .val (.ref b579), .unset, .unset, .unset, .unset, .unset, .unset, .unset, .unset, .unset, .unset, .unset, .unset, .unset, .unset, .unset] [(.long (0 : Int64)), (.int (0 : Int32)), (.ref b603), (.ref b603)]))
  obtain ⟨T608, h608, X608, e608, W608, F608, st608⟩ := own_fstJ X603 hx hZ e603 F603 (j := (0 : Int32)) (y := (0 : Int64)) 0 (by decide) (by decide) (pc := 85) (Ls := #[.val (.long p1), .second, .val (.long p2), .second, .val (.long p3), .second, .val (.long p4), .second, .val (.int p5), .val (.long p6), .second, .val (.long ve557), .second, .val (.long vf558), .second, .val (.ref b559), .val (.ref b567), .val (.ref b579), .unset, .unset, .unset, .unset, .unset, .unset, .unset, .unset, .unset, .unset, .unset, .unset, .unset, .unset, .unset]) (rest := [(.ref b603)]) (hb hby at_85)
  have N608 := Fr.snoc X608 N597 nb603
  have Z608 : n0 ≤ h608.size := by rw [W608.size]; exact Z603
  refine own_go st608 ?_
  have f609 := f604.other W608 (Nat.ne_of_lt lt_b559_b603)
  have f610 := f605.other W608 (Nat.ne_of_lt lt_b567_b603)
  have f611 := f606.other W608 (Nat.ne_of_lt lt_b579_b603)
  have f612 := f607.wr W608
  have f614 := Ex603.wr W608
  show own_End p e below s _ _ _ (T608.setTop (mkF m 86 #[.val (.long p1), .second, .val (.long p2), .second, .val (.long p3), .second, .val (.long p4), .second, .val (.int p5), .val (.long p6), .second, .val (.long ve557), .second, .val (.long vf558), .second, .val (.ref b559), .val (.ref b567), .val (.ref b579), .unset, .unset, .unset, .unset, .unset, .unset, .unset, .unset, .unset, .unset, .unset, .unset, .unset, .unset, .unset] [(.ref b603)]))
  refine own_go (fun t k => XS.dup X608.here hx rfl (hb hby at_86) rfl rfl k) ?_
  show own_End p e below s _ _ _ (T608.setTop (mkF m 87 #[.val (.long p1), .second, .val (.long p2), .second, .val (.long p3), .second, .val (.long p4), .second, .val (.int p5), .val (.long p6), .second, .val (.long ve557), .second, .val (.long vf558), .second, .val (.ref b559), .val (.ref b567), .val (.ref b579), .unset, .unset, .unset, .unset, .unset, .unset, .unset, .unset, .unset, .unset, .unset, .unset, .unset, .unset, .unset] [(.ref b603), (.ref b603)]))
  refine own_go (fun t k => XS.iconst X608.here hx rfl (hb hby at_87) k) ?_
  show own_End p e below s _ _ _ (T608.setTop (mkF m 88 #[.val (.long p1), .second, .val (.long p2), .second, .val (.long p3), .second, .val (.long p4), .second, .val (.int p5), .val (.long p6), .second, .val (.long ve557), .second, .val (.long vf558), .second, .val (.ref b559), .val (.ref b567), .val (.ref b579), .unset, .unset, .unset, .unset, .unset, .unset, .unset, .unset, .unset, .unset, .unset, .unset, .unset, .unset, .unset] [(.int (1 : Int32)), (.ref b603), (.ref b603)]))
  refine own_go (fun t k => XT.lload X608.here hx rfl (hb hby at_88) rfl k) ?_
  show own_End p e below s _ _ _ (T608.setTop (mkF m 90 #[.val (.long p1), .second, .val (.long p2), .second, .val (.long p3), .second, .val (.long p4), .second, .val (.int p5), .val (.long p6), .second, .val (.long ve557), .second, .val (.long vf558), .second, .val (.ref b559), .val (.ref b567), .val (.ref b579), .unset, .unset, .unset, .unset, .unset, .unset, .unset, .unset, .unset, .unset, .unset, .unset, .unset, .unset, .unset] [(.long p4), (.int (1 : Int32)), (.ref b603), (.ref b603)]))
  obtain ⟨T615, h615, X615, e615, W615, F615, st615⟩ := own_fstJ X608 hx hZ e608 F608 (j := (1 : Int32)) (y := p4) 1 (by decide) (by decide) (pc := 90) (Ls := #[.val (.long p1), .second, .val (.long p2), .second, .val (.long p3), .second, .val (.long p4), .second, .val (.int p5), .val (.long p6), .second, .val (.long ve557), .second, .val (.long vf558), .second, .val (.ref b559), .val (.ref b567), .val (.ref b579), .unset, .unset, .unset, .unset, .unset, .unset, .unset, .unset, .unset, .unset, .unset, .unset, .unset, .unset, .unset]) (rest := [(.ref b603)]) (hb hby at_90)
  have N615 := Fr.snoc X615 N608 nb603
  have Z615 : n0 ≤ h615.size := by rw [W615.size]; exact Z608
  refine own_go st615 ?_
  have f616 := f609.other W615 (Nat.ne_of_lt lt_b559_b603)
  have f617 := f610.other W615 (Nat.ne_of_lt lt_b567_b603)
  have f618 := f611.other W615 (Nat.ne_of_lt lt_b579_b603)
  have f619 := f612.wr W615
  have f621 := f614.wr W615
  show own_End p e below s _ _ _ (T615.setTop (mkF m 91 #[.val (.long p1), .second, .val (.long p2), .second, .val (.long p3), .second, .val (.long p4), .second, .val (.int p5), .val (.long p6), .second, .val (.long ve557), .second, .val (.long vf558), .second, .val (.ref b559), .val (.ref b567), .val (.ref b579), .unset, .unset, .unset, .unset, .unset, .unset, .unset, .unset, .unset, .unset, .unset, .unset, .unset, .unset, .unset] [(.ref b603)]))
  refine own_go (fun t k => XS.dup X615.here hx rfl (hb hby at_91) rfl rfl k) ?_
  show own_End p e below s _ _ _ (T615.setTop (mkF m 92 #[.val (.long p1), .second, .val (.long p2), .second, .val (.long p3), .second, .val (.long p4), .second, .val (.int p5), .val (.long p6), .second, .val (.long ve557), .second, .val (.long vf558), .second, .val (.ref b559), .val (.ref b567), .val (.ref b579), .unset, .unset, .unset, .unset, .unset, .unset, .unset, .unset, .unset, .unset, .unset, .unset, .unset, .unset, .unset] [(.ref b603), (.ref b603)]))
  refine own_go (fun t k => XS.iconst X615.here hx rfl (hb hby at_92) k) ?_
  show own_End p e below s _ _ _ (T615.setTop (mkF m 93 #[.val (.long p1), .second, .val (.long p2), .second, .val (.long p3), .second, .val (.long p4), .second, .val (.int p5), .val (.long p6), .second, .val (.long ve557), .second, .val (.long vf558), .second, .val (.ref b559), .val (.ref b567), .val (.ref b579), .unset, .unset, .unset, .unset, .unset, .unset, .unset, .unset, .unset, .unset, .unset, .unset, .unset, .unset, .unset] [(.int (2 : Int32)), (.ref b603), (.ref b603)]))
  refine own_go (fun t k => XT.lload X615.here hx rfl (hb hby at_93) rfl k) ?_
  show own_End p e below s _ _ _ (T615.setTop (mkF m 95 #[.val (.long p1), .second, .val (.long p2), .second, .val (.long p3), .second, .val (.long p4), .second, .val (.int p5), .val (.long p6), .second, .val (.long ve557), .second, .val (.long vf558), .second, .val (.ref b559), .val (.ref b567), .val (.ref b579), .unset, .unset, .unset, .unset, .unset, .unset, .unset, .unset, .unset, .unset, .unset, .unset, .unset, .unset, .unset] [(.long p4), (.int (2 : Int32)), (.ref b603), (.ref b603)]))
  refine own_go (fun t k => XT.lload X615.here hx rfl (hb hby at_95) rfl k) ?_
  show own_End p e below s _ _ _ (T615.setTop (mkF m 97 #[.val (.long p1), .second, .val (.long p2), .second, .val (.long p3), .second, .val (.long p4), .second, .val (.int p5), .val (.long p6), .second, .val (.long ve557), .second, .val (.long vf558), .second, .val (.ref b559), .val (.ref b567), .val (.ref b579), .unset, .unset, .unset, .unset, .unset, .unset, .unset, .unset, .unset, .unset, .unset, .unset, .unset, .unset, .unset] [(.long ve557), (.long p4), (.int (2 : Int32)), (.ref b603), (.ref b603)]))
  refine own_go (fun t k => XT.ladd X615.here hx rfl (hb hby at_97) rfl k) ?_
  show own_End p e below s _ _ _ (T615.setTop (mkF m 98 #[.val (.long p1), .second, .val (.long p2), .second, .val (.long p3), .second, .val (.long p4), .second, .val (.int p5), .val (.long p6), .second, .val (.long ve557), .second, .val (.long vf558), .second, .val (.ref b559), .val (.ref b567), .val (.ref b579), .unset, .unset, .unset, .unset, .unset, .unset, .unset, .unset, .unset, .unset, .unset, .unset, .unset, .unset, .unset] [(.long (p4 + ve557)), (.int (2 : Int32)), (.ref b603), (.ref b603)]))
  obtain ⟨T622, h622, X622, e622, W622, F622, st622⟩ := own_fstJ X615 hx hZ e615 F615 (j := (2 : Int32)) (y := (p4 + ve557)) 2 (by decide) (by decide) (pc := 98) (Ls := #[.val (.long p1), .second, .val (.long p2), .second, .val (.long p3), .second, .val (.long p4), .second, .val (.int p5), .val (.long p6), .second, .val (.long ve557), .second, .val (.long vf558), .second, .val (.ref b559), .val (.ref b567), .val (.ref b579), .unset, .unset, .unset, .unset, .unset, .unset, .unset, .unset, .unset, .unset, .unset, .unset, .unset, .unset, .unset]) (rest := [(.ref b603)]) (hb hby at_98)
  have N622 := Fr.snoc X622 N615 nb603
  have Z622 : n0 ≤ h622.size := by rw [W622.size]; exact Z615
  refine own_go st622 ?_
  have f623 := f616.other W622 (Nat.ne_of_lt lt_b559_b603)
  have f624 := f617.other W622 (Nat.ne_of_lt lt_b567_b603)
  have f625 := f618.other W622 (Nat.ne_of_lt lt_b579_b603)
  have f626 := f619.wr W622
  have f628 := f621.wr W622
  show own_End p e below s _ _ _ (T622.setTop (mkF m 99 #[.val (.long p1), .second, .val (.long p2), .second, .val (.long p3), .second, .val (.long p4), .second, .val (.int p5), .val (.long p6), .second, .val (.long ve557), .second, .val (.long vf558), .second, .val (.ref b559), .val (.ref b567), .val (.ref b579), .unset, .unset, .unset, .unset, .unset, .unset, .unset, .unset, .unset, .unset, .unset, .unset, .unset, .unset, .unset] [(.ref b603)]))
  refine own_go (fun t k => XS.dup X622.here hx rfl (hb hby at_99) rfl rfl k) ?_
  show own_End p e below s _ _ _ (T622.setTop (mkF m 100 #[.val (.long p1), .second, .val (.long p2), .second, .val (.long p3), .second, .val (.long p4), .second, .val (.int p5), .val (.long p6), .second, .val (.long ve557), .second, .val (.long vf558), .second, .val (.ref b559), .val (.ref b567), .val (.ref b579), .unset, .unset, .unset, .unset, .unset, .unset, .unset, .unset, .unset, .unset, .unset, .unset, .unset, .unset, .unset] [(.ref b603), (.ref b603)]))
  refine own_go (fun t k => XS.iconst X622.here hx rfl (hb hby at_100) k) ?_
  show own_End p e below s _ _ _ (T622.setTop (mkF m 101 #[.val (.long p1), .second, .val (.long p2), .second, .val (.long p3), .second, .val (.long p4), .second, .val (.int p5), .val (.long p6), .second, .val (.long ve557), .second, .val (.long vf558), .second, .val (.ref b559), .val (.ref b567), .val (.ref b579), .unset, .unset, .unset, .unset, .unset, .unset, .unset, .unset, .unset, .unset, .unset, .unset, .unset, .unset, .unset] [(.int (3 : Int32)), (.ref b603), (.ref b603)]))
  refine own_go (fun t k => XT.lload X622.here hx rfl (hb hby at_101) rfl k) ?_
  show own_End p e below s _ _ _ (T622.setTop (mkF m 103 #[.val (.long p1), .second, .val (.long p2), .second, .val (.long p3), .second, .val (.long p4), .second, .val (.int p5), .val (.long p6), .second, .val (.long ve557), .second, .val (.long vf558), .second, .val (.ref b559), .val (.ref b567), .val (.ref b579), .unset, .unset, .unset, .unset, .unset, .unset, .unset, .unset, .unset, .unset, .unset, .unset, .unset, .unset, .unset] [(.long p4), (.int (3 : Int32)), (.ref b603), (.ref b603)]))
  refine own_go (fun t k => XT.lload X622.here hx rfl (hb hby at_103) rfl k) ?_
  show own_End p e below s _ _ _ (T622.setTop (mkF m 105 #[.val (.long p1), .second, .val (.long p2), .second, .val (.long p3), .second, .val (.long p4), .second, .val (.int p5), .val (.long p6), .second, .val (.long ve557), .second, .val (.long vf558), .second, .val (.ref b559), .val (.ref b567), .val (.ref b579), .unset, .unset, .unset, .unset, .unset, .unset, .unset, .unset, .unset, .unset, .unset, .unset, .unset, .unset, .unset] [(.long ve557), (.long p4), (.int (3 : Int32)), (.ref b603), (.ref b603)]))
  refine own_go (fun t k => XT.ladd X622.here hx rfl (hb hby at_105) rfl k) ?_
  show own_End p e below s _ _ _ (T622.setTop (mkF m 106 #[.val (.long p1), .second, .val (.long p2), .second, .val (.long p3), .second, .val (.long p4), .second, .val (.int p5), .val (.long p6), .second, .val (.long ve557), .second, .val (.long vf558), .second, .val (.ref b559), .val (.ref b567), .val (.ref b579), .unset, .unset, .unset, .unset, .unset, .unset, .unset, .unset, .unset, .unset, .unset, .unset, .unset, .unset, .unset] [(.long (p4 + ve557)), (.int (3 : Int32)), (.ref b603), (.ref b603)]))
  refine own_go (fun t k => XT.lload X622.here hx rfl (hb hby at_106) rfl k) ?_
  show own_End p e below s _ _ _ (T622.setTop (mkF m 108 #[.val (.long p1), .second, .val (.long p2), .second, .val (.long p3), .second, .val (.long p4), .second, .val (.int p5), .val (.long p6), .second, .val (.long ve557), .second, .val (.long vf558), .second, .val (.ref b559), .val (.ref b567), .val (.ref b579), .unset, .unset, .unset, .unset, .unset, .unset, .unset, .unset, .unset, .unset, .unset, .unset, .unset, .unset, .unset] [(.long vf558), (.long (p4 + ve557)), (.int (3 : Int32)), (.ref b603), (.ref b603)]))
  refine own_go (fun t k => XT.ladd X622.here hx rfl (hb hby at_108) rfl k) ?_
  show own_End p e below s _ _ _ (T622.setTop (mkF m 109 #[.val (.long p1), .second, .val (.long p2), .second, .val (.long p3), .second, .val (.long p4), .second, .val (.int p5), .val (.long p6), .second, .val (.long ve557), .second, .val (.long vf558), .second, .val (.ref b559), .val (.ref b567), .val (.ref b579), .unset, .unset, .unset, .unset, .unset, .unset, .unset, .unset, .unset, .unset, .unset, .unset, .unset, .unset, .unset] [(.long ((p4 + ve557) + vf558)), (.int (3 : Int32)), (.ref b603), (.ref b603)]))
  obtain ⟨T629, h629, X629, e629, W629, F629, st629⟩ := own_fstJ X622 hx hZ e622 F622 (j := (3 : Int32)) (y := ((p4 + ve557) + vf558)) 3 (by decide) (by decide) (pc := 109) (Ls := #[.val (.long p1), .second, .val (.long p2), .second, .val (.long p3), .second, .val (.long p4), .second, .val (.int p5), .val (.long p6), .second, .val (.long ve557), .second, .val (.long vf558), .second, .val (.ref b559), .val (.ref b567), .val (.ref b579), .unset, .unset, .unset, .unset, .unset, .unset, .unset, .unset, .unset, .unset, .unset, .unset, .unset, .unset, .unset]) (rest := [(.ref b603)]) (hb hby at_109)
  have N629 := Fr.snoc X629 N622 nb603
  have Z629 : n0 ≤ h629.size := by rw [W629.size]; exact Z622
  refine own_go st629 ?_
  have f630 := f623.other W629 (Nat.ne_of_lt lt_b559_b603)
  have f631 := f624.other W629 (Nat.ne_of_lt lt_b567_b603)
  have f632 := f625.other W629 (Nat.ne_of_lt lt_b579_b603)
  have f633 := f626.wr W629
  have f635 := f628.wr W629
  show own_End p e below s _ _ _ (T629.setTop (mkF m 110 #[.val (.long p1), .second, .val (.long p2), .second, .val (.long p3), .second, .val (.long p4), .second, .val (.int p5), .val (.long p6), .second, .val (.long ve557), .second, .val (.long vf558), .second, .val (.ref b559), .val (.ref b567), .val (.ref b579), .unset, .unset, .unset, .unset, .unset, .unset, .unset, .unset, .unset, .unset, .unset, .unset, .unset, .unset, .unset] [(.ref b603)]))
  have f636 := own_F.cong F629 (g := (fun i => .long (own_s4 p4 ve557 vf558 i))) (fun i hi => by match i, hi with | 0, _ => rfl | 1, _ => rfl | 2, _ => rfl | 3, _ => rfl | _ + 4, hq => exact absurd hq (by omega))
  refine own_go (fun t k => XS.astore X629.here hx rfl (hb hby at_110) rfl rfl (l' := #[.val (.long p1), .second, .val (.long p2), .second, .val (.long p3), .second, .val (.long p4), .second, .val (.int p5), .val (.long p6), .second, .val (.long ve557), .second, .val (.long vf558), .second, .val (.ref b559), .val (.ref b567), .val (.ref b579), .val (.ref b603), .unset, .unset, .unset, .unset, .unset, .unset, .unset, .unset, .unset, .unset, .unset, .unset, .unset, .unset]) rfl k) ?_
  show own_End p e below s _ _ _ (T629.setTop (mkF m 112 #[.val (.long p1), .second, .val (.long p2), .second, .val (.long p3), .second, .val (.long p4), .second, .val (.int p5), .val (.long p6), .second, .val (.long ve557), .second, .val (.long vf558), .second, .val (.ref b559), .val (.ref b567), .val (.ref b579), .val (.ref b603), .unset, .unset, .unset, .unset, .unset, .unset, .unset, .unset, .unset, .unset, .unset, .unset, .unset, .unset] []))
  refine own_go (fun t k => XS.iconst X629.here hx rfl (hb hby at_112) k) ?_
  show own_End p e below s _ _ _ (T629.setTop (mkF m 113 #[.val (.long p1), .second, .val (.long p2), .second, .val (.long p3), .second, .val (.long p4), .second, .val (.int p5), .val (.long p6), .second, .val (.long ve557), .second, .val (.long vf558), .second, .val (.ref b559), .val (.ref b567), .val (.ref b579), .val (.ref b603), .unset, .unset, .unset, .unset, .unset, .unset, .unset, .unset, .unset, .unset, .unset, .unset, .unset, .unset] [(.int (3 : Int32))]))
  obtain ⟨T637, h637, k637, X637, e637, E637, A637, Ex637, st637⟩ := newPE X629 hx hZ (hw _ (List.mem_of_getElem? (i := 2) rfl)) e629 (g := (mkF m 113 #[.val (.long p1), .second, .val (.long p2), .second, .val (.long p3), .second, .val (.long p4), .second, .val (.int p5), .val (.long p6), .second, .val (.long ve557), .second, .val (.long vf558), .second, .val (.ref b559), .val (.ref b567), .val (.ref b579), .val (.ref b603), .unset, .unset, .unset, .unset, .unset, .unset, .unset, .unset, .unset, .unset, .unset, .unset, .unset, .unset] [(.int (3 : Int32))])) rfl (hb hby at_113) rfl (by decide) (cap := 3) (by decide) (by decide) (by decide) (by decide) (ad := "[I") (by decide)
  obtain ⟨b637, gb637⟩ : ∃ z, z = h629.size := ⟨_, rfl⟩
  rw [← gb637] at A637 st637 Ex637
  have F637 := own_F.new A637 (n := 3) (by decide) (by decide)
  have nb637 : n0 ≤ b637 := by rw [gb637]; exact Z629
  have Z637 : n0 ≤ h637.size := Nat.le_trans Z629 E637.1
  have lt_b559_b637 : @LT.lt Nat _ b559 b637 := Nat.lt_of_lt_of_le f630.lt (Nat.le_of_eq gb637.symm)
  have lt_b567_b637 : @LT.lt Nat _ b567 b637 := Nat.lt_of_lt_of_le f631.lt (Nat.le_of_eq gb637.symm)
  have lt_b579_b637 : @LT.lt Nat _ b579 b637 := Nat.lt_of_lt_of_le f632.lt (Nat.le_of_eq gb637.symm)
  have lt_b603_b637 : @LT.lt Nat _ b603 b637 := Nat.lt_of_lt_of_le f636.lt (Nat.le_of_eq gb637.symm)
  have f638 := f630.ext E637
  have f639 := f631.ext E637
  have f640 := f632.ext E637
  have f641 := f633.ext E637
  have f642 := f636.ext E637
  have f643 := f635.ext E637
  refine own_go st637 ?_
  show own_End p e below s _ _ _ (T637.setTop (mkF m 115 #[.val (.long p1), .second, .val (.long p2), .second, .val (.long p3), .second, .val (.long p4), .second, .val (.int p5), .val (.long p6), .second, .val (.long ve557), .second, .val (.long vf558), .second, .val (.ref b559), .val (.ref b567), .val (.ref b579), .val (.ref b603), .unset, .unset, .unset, .unset, .unset, .unset, .unset, .unset, .unset, .unset, .unset, .unset, .unset, .unset] [(.ref b637)]))
  refine own_go (fun t k => XS.dup X637.here hx rfl (hb hby at_115) rfl rfl k) ?_
  show own_End p e below s _ _ _ (T637.setTop (mkF m 116 #[.val (.long p1), .second, .val (.long p2), .second, .val (.long p3), .second, .val (.long p4), .second, .val (.int p5), .val (.long p6), .second, .val (.long ve557), .second, .val (.long vf558), .second, .val (.ref b559), .val (.ref b567), .val (.ref b579), .val (.ref b603), .unset, .unset, .unset, .unset, .unset, .unset, .unset, .unset, .unset, .unset, .unset, .unset, .unset, .unset] [(.ref b637), (.ref b637)]))
  refine own_go (fun t k => XS.iconst X637.here hx rfl (hb hby at_116) k) ?_
  show own_End p e below s _ _ _ (T637.setTop (mkF m 117 #[.val (.long p1), .second, .val (.long p2), .second, .val (.long p3), .second, .val (.long p4), .second, .val (.int p5), .val (.long p6), .second, .val (.long ve557), .second, .val (.long vf558), .second, .val (.ref b559), .val (.ref b567), .val (.ref b579), .val (.ref b603), .unset, .unset, .unset, .unset, .unset, .unset, .unset, .unset, .unset, .unset, .unset, .unset, .unset, .unset] [(.int (0 : Int32)), (.ref b637), (.ref b637)]))
  refine own_go (fun t k => XS.bipush X637.here hx rfl (hb hby at_117) k) ?_
  show own_End p e below s _ _ _ (T637.setTop (mkF m 119 #[.val (.long p1), .second, .val (.long p2), .second, .val (.long p3), .second, .val (.long p4), .second, .val (.int p5), .val (.long p6), .second, .val (.long ve557), .second, .val (.long vf558), .second, .val (.ref b559), .val (.ref b567), .val (.ref b579), .val (.ref b603), .unset, .unset, .unset, .unset, .unset, .unset, .unset, .unset, .unset, .unset, .unset, .unset, .unset, .unset] [(.int (10 : Int32)), (.int (0 : Int32)), (.ref b637), (.ref b637)]))
  obtain ⟨T644, h644, X644, e644, W644, F644, st644⟩ := own_fstI X637 hx hZ e637 F637 (j := (0 : Int32)) (x := (10 : Int32)) 0 (by decide) (by decide) (pc := 119) (Ls := #[.val (.long p1), .second, .val (.long p2), .second, .val (.long p3), .second, .val (.long p4), .second, .val (.int p5), .val (.long p6), .second, .val (.long ve557), .second, .val (.long vf558), .second, .val (.ref b559), .val (.ref b567), .val (.ref b579), .val (.ref b603), .unset, .unset, .unset, .unset, .unset, .unset, .unset, .unset, .unset, .unset, .unset, .unset, .unset, .unset]) (rest := [(.ref b637)]) (hb hby at_119)
  have N644 := Fr.snoc X644 N629 nb637
  have Z644 : n0 ≤ h644.size := by rw [W644.size]; exact Z637
  refine own_go st644 ?_
  have f645 := f638.other W644 (Nat.ne_of_lt lt_b559_b637)
  have f646 := f639.other W644 (Nat.ne_of_lt lt_b567_b637)
  have f647 := f640.other W644 (Nat.ne_of_lt lt_b579_b637)
  have f648 := f641.wr W644
  have f649 := f642.other W644 (Nat.ne_of_lt lt_b603_b637)
  have f650 := f643.wr W644
  have f652 := Ex637.wr W644
  show own_End p e below s _ _ _ (T644.setTop (mkF m 120 #[.val (.long p1), .second, .val (.long p2), .second, .val (.long p3), .second, .val (.long p4), .second, .val (.int p5), .val (.long p6), .second, .val (.long ve557), .second, .val (.long vf558), .second, .val (.ref b559), .val (.ref b567), .val (.ref b579), .val (.ref b603), .unset, .unset, .unset, .unset, .unset, .unset, .unset, .unset, .unset, .unset, .unset, .unset, .unset, .unset] [(.ref b637)]))
  refine own_go (fun t k => XS.dup X644.here hx rfl (hb hby at_120) rfl rfl k) ?_
  show own_End p e below s _ _ _ (T644.setTop (mkF m 121 #[.val (.long p1), .second, .val (.long p2), .second, .val (.long p3), .second, .val (.long p4), .second, .val (.int p5), .val (.long p6), .second, .val (.long ve557), .second, .val (.long vf558), .second, .val (.ref b559), .val (.ref b567), .val (.ref b579), .val (.ref b603), .unset, .unset, .unset, .unset, .unset, .unset, .unset, .unset, .unset, .unset, .unset, .unset, .unset, .unset] [(.ref b637), (.ref b637)]))
  refine own_go (fun t k => XS.iconst X644.here hx rfl (hb hby at_121) k) ?_
  show own_End p e below s _ _ _ (T644.setTop (mkF m 122 #[.val (.long p1), .second, .val (.long p2), .second, .val (.long p3), .second, .val (.long p4), .second, .val (.int p5), .val (.long p6), .second, .val (.long ve557), .second, .val (.long vf558), .second, .val (.ref b559), .val (.ref b567), .val (.ref b579), .val (.ref b603), .unset, .unset, .unset, .unset, .unset, .unset, .unset, .unset, .unset, .unset, .unset, .unset, .unset, .unset] [(.int (1 : Int32)), (.ref b637), (.ref b637)]))
  refine own_go (fun t k => XS.bipush X644.here hx rfl (hb hby at_122) k) ?_
  show own_End p e below s _ _ _ (T644.setTop (mkF m 124 #[.val (.long p1), .second, .val (.long p2), .second, .val (.long p3), .second, .val (.long p4), .second, .val (.int p5), .val (.long p6), .second, .val (.long ve557), .second, .val (.long vf558), .second, .val (.ref b559), .val (.ref b567), .val (.ref b579), .val (.ref b603), .unset, .unset, .unset, .unset, .unset, .unset, .unset, .unset, .unset, .unset, .unset, .unset, .unset, .unset] [(.int (11 : Int32)), (.int (1 : Int32)), (.ref b637), (.ref b637)]))
  obtain ⟨T653, h653, X653, e653, W653, F653, st653⟩ := own_fstI X644 hx hZ e644 F644 (j := (1 : Int32)) (x := (11 : Int32)) 1 (by decide) (by decide) (pc := 124) (Ls := #[.val (.long p1), .second, .val (.long p2), .second, .val (.long p3), .second, .val (.long p4), .second, .val (.int p5), .val (.long p6), .second, .val (.long ve557), .second, .val (.long vf558), .second, .val (.ref b559), .val (.ref b567), .val (.ref b579), .val (.ref b603), .unset, .unset, .unset, .unset, .unset, .unset, .unset, .unset, .unset, .unset, .unset, .unset, .unset, .unset]) (rest := [(.ref b637)]) (hb hby at_124)
  have N653 := Fr.snoc X653 N644 nb637
  have Z653 : n0 ≤ h653.size := by rw [W653.size]; exact Z644
  refine own_go st653 ?_
  have f654 := f645.other W653 (Nat.ne_of_lt lt_b559_b637)
  have f655 := f646.other W653 (Nat.ne_of_lt lt_b567_b637)
  have f656 := f647.other W653 (Nat.ne_of_lt lt_b579_b637)
  have f657 := f648.wr W653
  have f658 := f649.other W653 (Nat.ne_of_lt lt_b603_b637)
  have f659 := f650.wr W653
  have f661 := f652.wr W653
  show own_End p e below s _ _ _ (T653.setTop (mkF m 125 #[.val (.long p1), .second, .val (.long p2), .second, .val (.long p3), .second, .val (.long p4), .second, .val (.int p5), .val (.long p6), .second, .val (.long ve557), .second, .val (.long vf558), .second, .val (.ref b559), .val (.ref b567), .val (.ref b579), .val (.ref b603), .unset, .unset, .unset, .unset, .unset, .unset, .unset, .unset, .unset, .unset, .unset, .unset, .unset, .unset] [(.ref b637)]))
  refine own_go (fun t k => XS.dup X653.here hx rfl (hb hby at_125) rfl rfl k) ?_
  show own_End p e below s _ _ _ (T653.setTop (mkF m 126 #[.val (.long p1), .second, .val (.long p2), .second, .val (.long p3), .second, .val (.long p4), .second, .val (.int p5), .val (.long p6), .second, .val (.long ve557), .second, .val (.long vf558), .second, .val (.ref b559), .val (.ref b567), .val (.ref b579), .val (.ref b603), .unset, .unset, .unset, .unset, .unset, .unset, .unset, .unset, .unset, .unset, .unset, .unset, .unset, .unset] [(.ref b637), (.ref b637)]))
  refine own_go (fun t k => XS.iconst X653.here hx rfl (hb hby at_126) k) ?_
  show own_End p e below s _ _ _ (T653.setTop (mkF m 127 #[.val (.long p1), .second, .val (.long p2), .second, .val (.long p3), .second, .val (.long p4), .second, .val (.int p5), .val (.long p6), .second, .val (.long ve557), .second, .val (.long vf558), .second, .val (.ref b559), .val (.ref b567), .val (.ref b579), .val (.ref b603), .unset, .unset, .unset, .unset, .unset, .unset, .unset, .unset, .unset, .unset, .unset, .unset, .unset, .unset] [(.int (2 : Int32)), (.ref b637), (.ref b637)]))
  refine own_go (fun t k => XS.bipush X653.here hx rfl (hb hby at_127) k) ?_
  show own_End p e below s _ _ _ (T653.setTop (mkF m 129 #[.val (.long p1), .second, .val (.long p2), .second, .val (.long p3), .second, .val (.long p4), .second, .val (.int p5), .val (.long p6), .second, .val (.long ve557), .second, .val (.long vf558), .second, .val (.ref b559), .val (.ref b567), .val (.ref b579), .val (.ref b603), .unset, .unset, .unset, .unset, .unset, .unset, .unset, .unset, .unset, .unset, .unset, .unset, .unset, .unset] [(.int (12 : Int32)), (.int (2 : Int32)), (.ref b637), (.ref b637)]))
  obtain ⟨T662, h662, X662, e662, W662, F662, st662⟩ := own_fstI X653 hx hZ e653 F653 (j := (2 : Int32)) (x := (12 : Int32)) 2 (by decide) (by decide) (pc := 129) (Ls := #[.val (.long p1), .second, .val (.long p2), .second, .val (.long p3), .second, .val (.long p4), .second, .val (.int p5), .val (.long p6), .second, .val (.long ve557), .second, .val (.long vf558), .second, .val (.ref b559), .val (.ref b567), .val (.ref b579), .val (.ref b603), .unset, .unset, .unset, .unset, .unset, .unset, .unset, .unset, .unset, .unset, .unset, .unset, .unset, .unset]) (rest := [(.ref b637)]) (hb hby at_129)
  have N662 := Fr.snoc X662 N653 nb637
  have Z662 : n0 ≤ h662.size := by rw [W662.size]; exact Z653
  refine own_go st662 ?_
  have f663 := f654.other W662 (Nat.ne_of_lt lt_b559_b637)
  have f664 := f655.other W662 (Nat.ne_of_lt lt_b567_b637)
  have f665 := f656.other W662 (Nat.ne_of_lt lt_b579_b637)
  have f666 := f657.wr W662
  have f667 := f658.other W662 (Nat.ne_of_lt lt_b603_b637)
  have f668 := f659.wr W662
  have f670 := f661.wr W662
  show own_End p e below s _ _ _ (T662.setTop (mkF m 130 #[.val (.long p1), .second, .val (.long p2), .second, .val (.long p3), .second, .val (.long p4), .second, .val (.int p5), .val (.long p6), .second, .val (.long ve557), .second, .val (.long vf558), .second, .val (.ref b559), .val (.ref b567), .val (.ref b579), .val (.ref b603), .unset, .unset, .unset, .unset, .unset, .unset, .unset, .unset, .unset, .unset, .unset, .unset, .unset, .unset] [(.ref b637)]))
  refine own_go (fun t k => XS.astore X662.here hx rfl (hb hby at_130) rfl rfl (l' := #[.val (.long p1), .second, .val (.long p2), .second, .val (.long p3), .second, .val (.long p4), .second, .val (.int p5), .val (.long p6), .second, .val (.long ve557), .second, .val (.long vf558), .second, .val (.ref b559), .val (.ref b567), .val (.ref b579), .val (.ref b603), .val (.ref b637), .unset, .unset, .unset, .unset, .unset, .unset, .unset, .unset, .unset, .unset, .unset, .unset, .unset]) rfl k) ?_
  show own_End p e below s _ _ _ (T662.setTop (mkF m 132 #[.val (.long p1), .second, .val (.long p2), .second, .val (.long p3), .second, .val (.long p4), .second, .val (.int p5), .val (.long p6), .second, .val (.long ve557), .second, .val (.long vf558), .second, .val (.ref b559), .val (.ref b567), .val (.ref b579), .val (.ref b603), .val (.ref b637), .unset, .unset, .unset, .unset, .unset, .unset, .unset, .unset, .unset, .unset, .unset, .unset, .unset] []))
  refine own_go (fun t k => XS.iconst X662.here hx rfl (hb hby at_132) k) ?_
  show own_End p e below s _ _ _ (T662.setTop (mkF m 133 #[.val (.long p1), .second, .val (.long p2), .second, .val (.long p3), .second, .val (.long p4), .second, .val (.int p5), .val (.long p6), .second, .val (.long ve557), .second, .val (.long vf558), .second, .val (.ref b559), .val (.ref b567), .val (.ref b579), .val (.ref b603), .val (.ref b637), .unset, .unset, .unset, .unset, .unset, .unset, .unset, .unset, .unset, .unset, .unset, .unset, .unset] [(.int (3 : Int32))]))
  obtain ⟨T671, h671, k671, X671, e671, E671, A671, Ex671, st671⟩ := newPE X662 hx hZ (hw _ (List.mem_of_getElem? (i := 2) rfl)) e662 (g := (mkF m 133 #[.val (.long p1), .second, .val (.long p2), .second, .val (.long p3), .second, .val (.long p4), .second, .val (.int p5), .val (.long p6), .second, .val (.long ve557), .second, .val (.long vf558), .second, .val (.ref b559), .val (.ref b567), .val (.ref b579), .val (.ref b603), .val (.ref b637), .unset, .unset, .unset, .unset, .unset, .unset, .unset, .unset, .unset, .unset, .unset, .unset, .unset] [(.int (3 : Int32))])) rfl (hb hby at_133) rfl (by decide) (cap := 3) (by decide) (by decide) (by decide) (by decide) (ad := "[I") (by decide)
  obtain ⟨b671, gb671⟩ : ∃ z, z = h662.size := ⟨_, rfl⟩
  rw [← gb671] at A671 st671 Ex671
  have F671 := own_F.new A671 (n := 3) (by decide) (by decide)
  have nb671 : n0 ≤ b671 := by rw [gb671]; exact Z662
  have Z671 : n0 ≤ h671.size := Nat.le_trans Z662 E671.1
  have lt_b559_b671 : @LT.lt Nat _ b559 b671 := Nat.lt_of_lt_of_le f663.lt (Nat.le_of_eq gb671.symm)
  have lt_b567_b671 : @LT.lt Nat _ b567 b671 := Nat.lt_of_lt_of_le f664.lt (Nat.le_of_eq gb671.symm)
  have lt_b579_b671 : @LT.lt Nat _ b579 b671 := Nat.lt_of_lt_of_le f665.lt (Nat.le_of_eq gb671.symm)
  have lt_b603_b671 : @LT.lt Nat _ b603 b671 := Nat.lt_of_lt_of_le f667.lt (Nat.le_of_eq gb671.symm)
  have lt_b637_b671 : @LT.lt Nat _ b637 b671 := Nat.lt_of_lt_of_le f670.lt (Nat.le_of_eq gb671.symm)
  have f672 := f663.ext E671
  have f673 := f664.ext E671
  have f674 := f665.ext E671
  have f675 := f666.ext E671
  have f676 := f667.ext E671
  have f677 := f668.ext E671
  have f678 := f670.ext E671
  refine own_go st671 ?_
  show own_End p e below s _ _ _ (T671.setTop (mkF m 135 #[.val (.long p1), .second, .val (.long p2), .second, .val (.long p3), .second, .val (.long p4), .second, .val (.int p5), .val (.long p6), .second, .val (.long ve557), .second, .val (.long vf558), .second, .val (.ref b559), .val (.ref b567), .val (.ref b579), .val (.ref b603), .val (.ref b637), .unset, .unset, .unset, .unset, .unset, .unset, .unset, .unset, .unset, .unset, .unset, .unset, .unset] [(.ref b671)]))
  refine own_go (fun t k => XS.dup X671.here hx rfl (hb hby at_135) rfl rfl k) ?_
  show own_End p e below s _ _ _ (T671.setTop (mkF m 136 #[.val (.long p1), .second, .val (.long p2), .second, .val (.long p3), .second, .val (.long p4), .second, .val (.int p5), .val (.long p6), .second, .val (.long ve557), .second, .val (.long vf558), .second, .val (.ref b559), .val (.ref b567), .val (.ref b579), .val (.ref b603), .val (.ref b637), .unset, .unset, .unset, .unset, .unset, .unset, .unset, .unset, .unset, .unset, .unset, .unset, .unset] [(.ref b671), (.ref b671)]))
  refine own_go (fun t k => XS.iconst X671.here hx rfl (hb hby at_136) k) ?_
  show own_End p e below s _ _ _ (T671.setTop (mkF m 137 #[.val (.long p1), .second, .val (.long p2), .second, .val (.long p3), .second, .val (.long p4), .second, .val (.int p5), .val (.long p6), .second, .val (.long ve557), .second, .val (.long vf558), .second, .val (.ref b559), .val (.ref b567), .val (.ref b579), .val (.ref b603), .val (.ref b637), .unset, .unset, .unset, .unset, .unset, .unset, .unset, .unset, .unset, .unset, .unset, .unset, .unset] [(.int (0 : Int32)), (.ref b671), (.ref b671)]))
  refine own_go (fun t k => XS.bipush X671.here hx rfl (hb hby at_137) k) ?_
  show own_End p e below s _ _ _ (T671.setTop (mkF m 139 #[.val (.long p1), .second, .val (.long p2), .second, .val (.long p3), .second, .val (.long p4), .second, .val (.int p5), .val (.long p6), .second, .val (.long ve557), .second, .val (.long vf558), .second, .val (.ref b559), .val (.ref b567), .val (.ref b579), .val (.ref b603), .val (.ref b637), .unset, .unset, .unset, .unset, .unset, .unset, .unset, .unset, .unset, .unset, .unset, .unset, .unset] [(.int (20 : Int32)), (.int (0 : Int32)), (.ref b671), (.ref b671)]))
  obtain ⟨T679, h679, X679, e679, W679, F679, st679⟩ := own_fstI X671 hx hZ e671 F671 (j := (0 : Int32)) (x := (20 : Int32)) 0 (by decide) (by decide) (pc := 139) (Ls := #[.val (.long p1), .second, .val (.long p2), .second, .val (.long p3), .second, .val (.long p4), .second, .val (.int p5), .val (.long p6), .second, .val (.long ve557), .second, .val (.long vf558), .second, .val (.ref b559), .val (.ref b567), .val (.ref b579), .val (.ref b603), .val (.ref b637), .unset, .unset, .unset, .unset, .unset, .unset, .unset, .unset, .unset, .unset, .unset, .unset, .unset]) (rest := [(.ref b671)]) (hb hby at_139)
  have N679 := Fr.snoc X679 N662 nb671
  have Z679 : n0 ≤ h679.size := by rw [W679.size]; exact Z671
  refine own_go st679 ?_
  have f680 := f672.other W679 (Nat.ne_of_lt lt_b559_b671)
  have f681 := f673.other W679 (Nat.ne_of_lt lt_b567_b671)
  have f682 := f674.other W679 (Nat.ne_of_lt lt_b579_b671)
  have f683 := f675.wr W679
  have f684 := f676.other W679 (Nat.ne_of_lt lt_b603_b671)
  have f685 := f677.wr W679
  have f686 := f678.wr W679
  have f688 := Ex671.wr W679
  show own_End p e below s _ _ _ (T679.setTop (mkF m 140 #[.val (.long p1), .second, .val (.long p2), .second, .val (.long p3), .second, .val (.long p4), .second, .val (.int p5), .val (.long p6), .second, .val (.long ve557), .second, .val (.long vf558), .second, .val (.ref b559), .val (.ref b567), .val (.ref b579), .val (.ref b603), .val (.ref b637), .unset, .unset, .unset, .unset, .unset, .unset, .unset, .unset, .unset, .unset, .unset, .unset, .unset] [(.ref b671)]))
  refine own_go (fun t k => XS.dup X679.here hx rfl (hb hby at_140) rfl rfl k) ?_
  show own_End p e below s _ _ _ (T679.setTop (mkF m 141 #[.val (.long p1), .second, .val (.long p2), .second, .val (.long p3), .second, .val (.long p4), .second, .val (.int p5), .val (.long p6), .second, .val (.long ve557), .second, .val (.long vf558), .second, .val (.ref b559), .val (.ref b567), .val (.ref b579), .val (.ref b603), .val (.ref b637), .unset, .unset, .unset, .unset, .unset, .unset, .unset, .unset, .unset, .unset, .unset, .unset, .unset] [(.ref b671), (.ref b671)]))
  refine own_go (fun t k => XS.iconst X679.here hx rfl (hb hby at_141) k) ?_
  show own_End p e below s _ _ _ (T679.setTop (mkF m 142 #[.val (.long p1), .second, .val (.long p2), .second, .val (.long p3), .second, .val (.long p4), .second, .val (.int p5), .val (.long p6), .second, .val (.long ve557), .second, .val (.long vf558), .second, .val (.ref b559), .val (.ref b567), .val (.ref b579), .val (.ref b603), .val (.ref b637), .unset, .unset, .unset, .unset, .unset, .unset, .unset, .unset, .unset, .unset, .unset, .unset, .unset] [(.int (1 : Int32)), (.ref b671), (.ref b671)]))
  refine own_go (fun t k => XS.bipush X679.here hx rfl (hb hby at_142) k) ?_
  show own_End p e below s _ _ _ (T679.setTop (mkF m 144 #[.val (.long p1), .second, .val (.long p2), .second, .val (.long p3), .second, .val (.long p4), .second, .val (.int p5), .val (.long p6), .second, .val (.long ve557), .second, .val (.long vf558), .second, .val (.ref b559), .val (.ref b567), .val (.ref b579), .val (.ref b603), .val (.ref b637), .unset, .unset, .unset, .unset, .unset, .unset, .unset, .unset, .unset, .unset, .unset, .unset, .unset] [(.int (21 : Int32)), (.int (1 : Int32)), (.ref b671), (.ref b671)]))
  obtain ⟨T689, h689, X689, e689, W689, F689, st689⟩ := own_fstI X679 hx hZ e679 F679 (j := (1 : Int32)) (x := (21 : Int32)) 1 (by decide) (by decide) (pc := 144) (Ls := #[.val (.long p1), .second, .val (.long p2), .second, .val (.long p3), .second, .val (.long p4), .second, .val (.int p5), .val (.long p6), .second, .val (.long ve557), .second, .val (.long vf558), .second, .val (.ref b559), .val (.ref b567), .val (.ref b579), .val (.ref b603), .val (.ref b637), .unset, .unset, .unset, .unset, .unset, .unset, .unset, .unset, .unset, .unset, .unset, .unset, .unset]) (rest := [(.ref b671)]) (hb hby at_144)
  have N689 := Fr.snoc X689 N679 nb671
  have Z689 : n0 ≤ h689.size := by rw [W689.size]; exact Z679
  refine own_go st689 ?_
  have f690 := f680.other W689 (Nat.ne_of_lt lt_b559_b671)
  have f691 := f681.other W689 (Nat.ne_of_lt lt_b567_b671)
  have f692 := f682.other W689 (Nat.ne_of_lt lt_b579_b671)
  have f693 := f683.wr W689
  have f694 := f684.other W689 (Nat.ne_of_lt lt_b603_b671)
  have f695 := f685.wr W689
  have f696 := f686.wr W689
  have f698 := f688.wr W689
  show own_End p e below s _ _ _ (T689.setTop (mkF m 145 #[.val (.long p1), .second, .val (.long p2), .second, .val (.long p3), .second, .val (.long p4), .second, .val (.int p5), .val (.long p6), .second, .val (.long ve557), .second, .val (.long vf558), .second, .val (.ref b559), .val (.ref b567), .val (.ref b579), .val (.ref b603), .val (.ref b637), .unset, .unset, .unset, .unset, .unset, .unset, .unset, .unset, .unset, .unset, .unset, .unset, .unset] [(.ref b671)]))
  refine own_go (fun t k => XS.dup X689.here hx rfl (hb hby at_145) rfl rfl k) ?_
  show own_End p e below s _ _ _ (T689.setTop (mkF m 146 #[.val (.long p1), .second, .val (.long p2), .second, .val (.long p3), .second, .val (.long p4), .second, .val (.int p5), .val (.long p6), .second, .val (.long ve557), .second, .val (.long vf558), .second, .val (.ref b559), .val (.ref b567), .val (.ref b579), .val (.ref b603), .val (.ref b637), .unset, .unset, .unset, .unset, .unset, .unset, .unset, .unset, .unset, .unset, .unset, .unset, .unset] [(.ref b671), (.ref b671)]))
  refine own_go (fun t k => XS.iconst X689.here hx rfl (hb hby at_146) k) ?_
  show own_End p e below s _ _ _ (T689.setTop (mkF m 147 #[.val (.long p1), .second, .val (.long p2), .second, .val (.long p3), .second, .val (.long p4), .second, .val (.int p5), .val (.long p6), .second, .val (.long ve557), .second, .val (.long vf558), .second, .val (.ref b559), .val (.ref b567), .val (.ref b579), .val (.ref b603), .val (.ref b637), .unset, .unset, .unset, .unset, .unset, .unset, .unset, .unset, .unset, .unset, .unset, .unset, .unset] [(.int (2 : Int32)), (.ref b671), (.ref b671)]))
  refine own_go (fun t k => XS.bipush X689.here hx rfl (hb hby at_147) k) ?_
  show own_End p e below s _ _ _ (T689.setTop (mkF m 149 #[.val (.long p1), .second, .val (.long p2), .second, .val (.long p3), .second, .val (.long p4), .second, .val (.int p5), .val (.long p6), .second, .val (.long ve557), .second, .val (.long vf558), .second, .val (.ref b559), .val (.ref b567), .val (.ref b579), .val (.ref b603), .val (.ref b637), .unset, .unset, .unset, .unset, .unset, .unset, .unset, .unset, .unset, .unset, .unset, .unset, .unset] [(.int (22 : Int32)), (.int (2 : Int32)), (.ref b671), (.ref b671)]))
  obtain ⟨T699, h699, X699, e699, W699, F699, st699⟩ := own_fstI X689 hx hZ e689 F689 (j := (2 : Int32)) (x := (22 : Int32)) 2 (by decide) (by decide) (pc := 149) (Ls := #[.val (.long p1), .second, .val (.long p2), .second, .val (.long p3), .second, .val (.long p4), .second, .val (.int p5), .val (.long p6), .second, .val (.long ve557), .second, .val (.long vf558), .second, .val (.ref b559), .val (.ref b567), .val (.ref b579), .val (.ref b603), .val (.ref b637), .unset, .unset, .unset, .unset, .unset, .unset, .unset, .unset, .unset, .unset, .unset, .unset, .unset]) (rest := [(.ref b671)]) (hb hby at_149)
  have N699 := Fr.snoc X699 N689 nb671
  have Z699 : n0 ≤ h699.size := by rw [W699.size]; exact Z689
  refine own_go st699 ?_
  have f700 := f690.other W699 (Nat.ne_of_lt lt_b559_b671)
  have f701 := f691.other W699 (Nat.ne_of_lt lt_b567_b671)
  have f702 := f692.other W699 (Nat.ne_of_lt lt_b579_b671)
  have f703 := f693.wr W699
  have f704 := f694.other W699 (Nat.ne_of_lt lt_b603_b671)
  have f705 := f695.wr W699
  have f706 := f696.wr W699
  have f708 := f698.wr W699
  show own_End p e below s _ _ _ (T699.setTop (mkF m 150 #[.val (.long p1), .second, .val (.long p2), .second, .val (.long p3), .second, .val (.long p4), .second, .val (.int p5), .val (.long p6), .second, .val (.long ve557), .second, .val (.long vf558), .second, .val (.ref b559), .val (.ref b567), .val (.ref b579), .val (.ref b603), .val (.ref b637), .unset, .unset, .unset, .unset, .unset, .unset, .unset, .unset, .unset, .unset, .unset, .unset, .unset] [(.ref b671)]))
  refine own_go (fun t k => XS.astore X699.here hx rfl (hb hby at_150) rfl rfl (l' := #[.val (.long p1), .second, .val (.long p2), .second, .val (.long p3), .second, .val (.long p4), .second, .val (.int p5), .val (.long p6), .second, .val (.long ve557), .second, .val (.long vf558), .second, .val (.ref b559), .val (.ref b567), .val (.ref b579), .val (.ref b603), .val (.ref b637), .val (.ref b671), .unset, .unset, .unset, .unset, .unset, .unset, .unset, .unset, .unset, .unset, .unset, .unset]) rfl k) ?_
  show own_End p e below s _ _ _ (T699.setTop (mkF m 152 #[.val (.long p1), .second, .val (.long p2), .second, .val (.long p3), .second, .val (.long p4), .second, .val (.int p5), .val (.long p6), .second, .val (.long ve557), .second, .val (.long vf558), .second, .val (.ref b559), .val (.ref b567), .val (.ref b579), .val (.ref b603), .val (.ref b637), .val (.ref b671), .unset, .unset, .unset, .unset, .unset, .unset, .unset, .unset, .unset, .unset, .unset, .unset] []))
  refine own_go (fun t k => XS.iload X699.here hx rfl (hb hby at_152) rfl k) ?_
  show own_End p e below s _ _ _ (T699.setTop (mkF m 154 #[.val (.long p1), .second, .val (.long p2), .second, .val (.long p3), .second, .val (.long p4), .second, .val (.int p5), .val (.long p6), .second, .val (.long ve557), .second, .val (.long vf558), .second, .val (.ref b559), .val (.ref b567), .val (.ref b579), .val (.ref b603), .val (.ref b637), .val (.ref b671), .unset, .unset, .unset, .unset, .unset, .unset, .unset, .unset, .unset, .unset, .unset, .unset] [(.int p5)]))
  refine own_go (fun t k => XS.iconst X699.here hx rfl (hb hby at_154) k) ?_
  show own_End p e below s _ _ _ (T699.setTop (mkF m 155 #[.val (.long p1), .second, .val (.long p2), .second, .val (.long p3), .second, .val (.long p4), .second, .val (.int p5), .val (.long p6), .second, .val (.long ve557), .second, .val (.long vf558), .second, .val (.ref b559), .val (.ref b567), .val (.ref b579), .val (.ref b603), .val (.ref b637), .val (.ref b671), .unset, .unset, .unset, .unset, .unset, .unset, .unset, .unset, .unset, .unset, .unset, .unset] [(.int (1 : Int32)), (.int p5)]))
  refine own_go (fun t k => XS.iand X699.here hx rfl (hb hby at_155) rfl k) ?_
  show own_End p e below s _ _ _ (T699.setTop (mkF m 156 #[.val (.long p1), .second, .val (.long p2), .second, .val (.long p3), .second, .val (.long p4), .second, .val (.int p5), .val (.long p6), .second, .val (.long ve557), .second, .val (.long vf558), .second, .val (.ref b559), .val (.ref b567), .val (.ref b579), .val (.ref b603), .val (.ref b637), .val (.ref b671), .unset, .unset, .unset, .unset, .unset, .unset, .unset, .unset, .unset, .unset, .unset, .unset] [(.int (p5 &&& (1 : Int32)))]))
  obtain ⟨xf709, qxf709⟩ : ∃ z : Int32, z = (p5 &&& (1 : Int32)) := ⟨_, rfl⟩
  rw [← qxf709]
  show own_End p e below s _ _ _ (T699.setTop (mkF m 156 #[.val (.long p1), .second, .val (.long p2), .second, .val (.long p3), .second, .val (.long p4), .second, .val (.int p5), .val (.long p6), .second, .val (.long ve557), .second, .val (.long vf558), .second, .val (.ref b559), .val (.ref b567), .val (.ref b579), .val (.ref b603), .val (.ref b637), .val (.ref b671), .unset, .unset, .unset, .unset, .unset, .unset, .unset, .unset, .unset, .unset, .unset, .unset] [(.int xf709)]))
  have e1 : (1 : Int32).toInt = 1 := by decide
  have e3 : (3 : Int32).toInt = 3 := by decide
  have rxf : 0 ≤ xf709.toInt ∧ xf709.toInt ≤ 1 := by rw [qxf709]; have := c_and p5 1 (by decide); omega
  refine own_go (fun t k => XS.istore X699.here hx rfl (hb hby at_156) rfl (l' := #[.val (.long p1), .second, .val (.long p2), .second, .val (.long p3), .second, .val (.long p4), .second, .val (.int p5), .val (.long p6), .second, .val (.long ve557), .second, .val (.long vf558), .second, .val (.ref b559), .val (.ref b567), .val (.ref b579), .val (.ref b603), .val (.ref b637), .val (.ref b671), .val (.int xf709), .unset, .unset, .unset, .unset, .unset, .unset, .unset, .unset, .unset, .unset, .unset]) rfl k) ?_
  show own_End p e below s _ _ _ (T699.setTop (mkF m 158 #[.val (.long p1), .second, .val (.long p2), .second, .val (.long p3), .second, .val (.long p4), .second, .val (.int p5), .val (.long p6), .second, .val (.long ve557), .second, .val (.long vf558), .second, .val (.ref b559), .val (.ref b567), .val (.ref b579), .val (.ref b603), .val (.ref b637), .val (.ref b671), .val (.int xf709), .unset, .unset, .unset, .unset, .unset, .unset, .unset, .unset, .unset, .unset, .unset] []))
  refine own_go (fun t k => XS.iconst X699.here hx rfl (hb hby at_158) k) ?_
  show own_End p e below s _ _ _ (T699.setTop (mkF m 159 #[.val (.long p1), .second, .val (.long p2), .second, .val (.long p3), .second, .val (.long p4), .second, .val (.int p5), .val (.long p6), .second, .val (.long ve557), .second, .val (.long vf558), .second, .val (.ref b559), .val (.ref b567), .val (.ref b579), .val (.ref b603), .val (.ref b637), .val (.ref b671), .val (.int xf709), .unset, .unset, .unset, .unset, .unset, .unset, .unset, .unset, .unset, .unset, .unset] [(.int (1 : Int32))]))
  refine own_go (fun t k => XS.iload X699.here hx rfl (hb hby at_159) rfl k) ?_
  show own_End p e below s _ _ _ (T699.setTop (mkF m 161 #[.val (.long p1), .second, .val (.long p2), .second, .val (.long p3), .second, .val (.long p4), .second, .val (.int p5), .val (.long p6), .second, .val (.long ve557), .second, .val (.long vf558), .second, .val (.ref b559), .val (.ref b567), .val (.ref b579), .val (.ref b603), .val (.ref b637), .val (.ref b671), .val (.int xf709), .unset, .unset, .unset, .unset, .unset, .unset, .unset, .unset, .unset, .unset, .unset] [(.int p5), (.int (1 : Int32))]))
  refine own_go (fun t k => XS.iconst X699.here hx rfl (hb hby at_161) k) ?_
  show own_End p e below s _ _ _ (T699.setTop (mkF m 162 #[.val (.long p1), .second, .val (.long p2), .second, .val (.long p3), .second, .val (.long p4), .second, .val (.int p5), .val (.long p6), .second, .val (.long ve557), .second, .val (.long vf558), .second, .val (.ref b559), .val (.ref b567), .val (.ref b579), .val (.ref b603), .val (.ref b637), .val (.ref b671), .val (.int xf709), .unset, .unset, .unset, .unset, .unset, .unset, .unset, .unset, .unset, .unset, .unset] [(.int (1 : Int32)), (.int p5), (.int (1 : Int32))]))
  refine own_go (fun t k => XT.iushr X699.here hx rfl (hb hby at_162) rfl k) ?_
  show own_End p e below s _ _ _ (T699.setTop (mkF m 163 #[.val (.long p1), .second, .val (.long p2), .second, .val (.long p3), .second, .val (.long p4), .second, .val (.int p5), .val (.long p6), .second, .val (.long ve557), .second, .val (.long vf558), .second, .val (.ref b559), .val (.ref b567), .val (.ref b579), .val (.ref b603), .val (.ref b637), .val (.ref b671), .val (.int xf709), .unset, .unset, .unset, .unset, .unset, .unset, .unset, .unset, .unset, .unset, .unset] [(.int (XT.ushr p5 (1 : Int32))), (.int (1 : Int32))]))
  refine own_go (fun t k => XS.iconst X699.here hx rfl (hb hby at_163) k) ?_
  show own_End p e below s _ _ _ (T699.setTop (mkF m 164 #[.val (.long p1), .second, .val (.long p2), .second, .val (.long p3), .second, .val (.long p4), .second, .val (.int p5), .val (.long p6), .second, .val (.long ve557), .second, .val (.long vf558), .second, .val (.ref b559), .val (.ref b567), .val (.ref b579), .val (.ref b603), .val (.ref b637), .val (.ref b671), .val (.int xf709), .unset, .unset, .unset, .unset, .unset, .unset, .unset, .unset, .unset, .unset, .unset] [(.int (3 : Int32)), (.int (XT.ushr p5 (1 : Int32))), (.int (1 : Int32))]))
  refine own_go (fun t k => XS.iand X699.here hx rfl (hb hby at_164) rfl k) ?_
  show own_End p e below s _ _ _ (T699.setTop (mkF m 165 #[.val (.long p1), .second, .val (.long p2), .second, .val (.long p3), .second, .val (.long p4), .second, .val (.int p5), .val (.long p6), .second, .val (.long ve557), .second, .val (.long vf558), .second, .val (.ref b559), .val (.ref b567), .val (.ref b579), .val (.ref b603), .val (.ref b637), .val (.ref b671), .val (.int xf709), .unset, .unset, .unset, .unset, .unset, .unset, .unset, .unset, .unset, .unset, .unset] [(.int ((XT.ushr p5 (1 : Int32)) &&& (3 : Int32))), (.int (1 : Int32))]))
  refine own_go (fun t k => XS.iconst X699.here hx rfl (hb hby at_165) k) ?_
  show own_End p e below s _ _ _ (T699.setTop (mkF m 166 #[.val (.long p1), .second, .val (.long p2), .second, .val (.long p3), .second, .val (.long p4), .second, .val (.int p5), .val (.long p6), .second, .val (.long ve557), .second, .val (.long vf558), .second, .val (.ref b559), .val (.ref b567), .val (.ref b579), .val (.ref b603), .val (.ref b637), .val (.ref b671), .val (.int xf709), .unset, .unset, .unset, .unset, .unset, .unset, .unset, .unset, .unset, .unset, .unset] [(.int (3 : Int32)), (.int ((XT.ushr p5 (1 : Int32)) &&& (3 : Int32))), (.int (1 : Int32))]))
  refine own_go (fun t k => XS.iload X699.here hx rfl (hb hby at_166) rfl k) ?_
  show own_End p e below s _ _ _ (T699.setTop (mkF m 168 #[.val (.long p1), .second, .val (.long p2), .second, .val (.long p3), .second, .val (.long p4), .second, .val (.int p5), .val (.long p6), .second, .val (.long ve557), .second, .val (.long vf558), .second, .val (.ref b559), .val (.ref b567), .val (.ref b579), .val (.ref b603), .val (.ref b637), .val (.ref b671), .val (.int xf709), .unset, .unset, .unset, .unset, .unset, .unset, .unset, .unset, .unset, .unset, .unset] [(.int xf709), (.int (3 : Int32)), (.int ((XT.ushr p5 (1 : Int32)) &&& (3 : Int32))), (.int (1 : Int32))]))
  refine own_go (fun t k => XS.isub X699.here hx rfl (hb hby at_168) rfl k) ?_
  show own_End p e below s _ _ _ (T699.setTop (mkF m 169 #[.val (.long p1), .second, .val (.long p2), .second, .val (.long p3), .second, .val (.long p4), .second, .val (.int p5), .val (.long p6), .second, .val (.long ve557), .second, .val (.long vf558), .second, .val (.ref b559), .val (.ref b567), .val (.ref b579), .val (.ref b603), .val (.ref b637), .val (.ref b671), .val (.int xf709), .unset, .unset, .unset, .unset, .unset, .unset, .unset, .unset, .unset, .unset, .unset] [(.int ((3 : Int32) - xf709)), (.int ((XT.ushr p5 (1 : Int32)) &&& (3 : Int32))), (.int (1 : Int32))]))
  have h3rw : ((3 : Int32) - xf709).toInt = 3 - xf709.toInt := by have := c_isub 3 xf709; have := rng32 (3 - xf709); omega
  refine own_go (fun t k => XS.irem X699.here hx rfl (hb hby at_169) rfl (fun z => by have := congrArg Int32.toInt z; have e0 : (0 : Int32).toInt = 0 := (by decide); omega) k) ?_
  show own_End p e below s _ _ _ (T699.setTop (mkF m 170 #[.val (.long p1), .second, .val (.long p2), .second, .val (.long p3), .second, .val (.long p4), .second, .val (.int p5), .val (.long p6), .second, .val (.long ve557), .second, .val (.long vf558), .second, .val (.ref b559), .val (.ref b567), .val (.ref b579), .val (.ref b603), .val (.ref b637), .val (.ref b671), .val (.int xf709), .unset, .unset, .unset, .unset, .unset, .unset, .unset, .unset, .unset, .unset, .unset] [(.int (((XT.ushr p5 (1 : Int32)) &&& (3 : Int32)) - (((XT.ushr p5 (1 : Int32)) &&& (3 : Int32)) / ((3 : Int32) - xf709)) * ((3 : Int32) - xf709))), (.int (1 : Int32))]))
  rw [irem_eq_mod ((XT.ushr p5 (1 : Int32)) &&& (3 : Int32)) ((3 : Int32) - xf709)]
  show own_End p e below s _ _ _ (T699.setTop (mkF m 170 #[.val (.long p1), .second, .val (.long p2), .second, .val (.long p3), .second, .val (.long p4), .second, .val (.int p5), .val (.long p6), .second, .val (.long ve557), .second, .val (.long vf558), .second, .val (.ref b559), .val (.ref b567), .val (.ref b579), .val (.ref b603), .val (.ref b637), .val (.ref b671), .val (.int xf709), .unset, .unset, .unset, .unset, .unset, .unset, .unset, .unset, .unset, .unset, .unset] [(.int (((XT.ushr p5 (1 : Int32)) &&& (3 : Int32)) % ((3 : Int32) - xf709))), (.int (1 : Int32))]))
  refine own_go (fun t k => XS.iadd X699.here hx rfl (hb hby at_170) rfl k) ?_
  show own_End p e below s _ _ _ (T699.setTop (mkF m 171 #[.val (.long p1), .second, .val (.long p2), .second, .val (.long p3), .second, .val (.long p4), .second, .val (.int p5), .val (.long p6), .second, .val (.long ve557), .second, .val (.long vf558), .second, .val (.ref b559), .val (.ref b567), .val (.ref b579), .val (.ref b603), .val (.ref b637), .val (.ref b671), .val (.int xf709), .unset, .unset, .unset, .unset, .unset, .unset, .unset, .unset, .unset, .unset, .unset] [(.int ((1 : Int32) + (((XT.ushr p5 (1 : Int32)) &&& (3 : Int32)) % ((3 : Int32) - xf709))))]))
  obtain ⟨rw710, qrw710⟩ : ∃ z : Int32, z = ((1 : Int32) + (((XT.ushr p5 (1 : Int32)) &&& (3 : Int32)) % ((3 : Int32) - xf709))) := ⟨_, rfl⟩
  rw [← qrw710]
  show own_End p e below s _ _ _ (T699.setTop (mkF m 171 #[.val (.long p1), .second, .val (.long p2), .second, .val (.long p3), .second, .val (.long p4), .second, .val (.int p5), .val (.long p6), .second, .val (.long ve557), .second, .val (.long vf558), .second, .val (.ref b559), .val (.ref b567), .val (.ref b579), .val (.ref b603), .val (.ref b637), .val (.ref b671), .val (.int xf709), .unset, .unset, .unset, .unset, .unset, .unset, .unset, .unset, .unset, .unset, .unset] [(.int rw710)]))
  have rrw : 1 ≤ rw710.toInt ∧ rw710.toInt + xf709.toInt ≤ 3 := by
    have h1 := c_and (XT.ushr p5 1) 3 (by decide)
    have h2 := (c_iremV (XT.ushr p5 1 &&& 3) (3 - xf709)).1 (by omega) (by omega)
    have h4 := c_iadd 1 ((XT.ushr p5 1 &&& 3) % (3 - xf709)); have h5 := rng32 (1 + ((XT.ushr p5 1 &&& 3) % (3 - xf709))); rw [qrw710]; omega
  refine own_go (fun t k => XS.istore X699.here hx rfl (hb hby at_171) rfl (l' := #[.val (.long p1), .second, .val (.long p2), .second, .val (.long p3), .second, .val (.long p4), .second, .val (.int p5), .val (.long p6), .second, .val (.long ve557), .second, .val (.long vf558), .second, .val (.ref b559), .val (.ref b567), .val (.ref b579), .val (.ref b603), .val (.ref b637), .val (.ref b671), .val (.int xf709), .val (.int rw710), .unset, .unset, .unset, .unset, .unset, .unset, .unset, .unset, .unset, .unset]) rfl k) ?_
  show own_End p e below s _ _ _ (T699.setTop (mkF m 173 #[.val (.long p1), .second, .val (.long p2), .second, .val (.long p3), .second, .val (.long p4), .second, .val (.int p5), .val (.long p6), .second, .val (.long ve557), .second, .val (.long vf558), .second, .val (.ref b559), .val (.ref b567), .val (.ref b579), .val (.ref b603), .val (.ref b637), .val (.ref b671), .val (.int xf709), .val (.int rw710), .unset, .unset, .unset, .unset, .unset, .unset, .unset, .unset, .unset, .unset] []))
  refine own_go (fun t k => XS.iload X699.here hx rfl (hb hby at_173) rfl k) ?_
  show own_End p e below s _ _ _ (T699.setTop (mkF m 175 #[.val (.long p1), .second, .val (.long p2), .second, .val (.long p3), .second, .val (.long p4), .second, .val (.int p5), .val (.long p6), .second, .val (.long ve557), .second, .val (.long vf558), .second, .val (.ref b559), .val (.ref b567), .val (.ref b579), .val (.ref b603), .val (.ref b637), .val (.ref b671), .val (.int xf709), .val (.int rw710), .unset, .unset, .unset, .unset, .unset, .unset, .unset, .unset, .unset, .unset] [(.int p5)]))
  refine own_go (fun t k => XS.iconst X699.here hx rfl (hb hby at_175) k) ?_
  show own_End p e below s _ _ _ (T699.setTop (mkF m 176 #[.val (.long p1), .second, .val (.long p2), .second, .val (.long p3), .second, .val (.long p4), .second, .val (.int p5), .val (.long p6), .second, .val (.long ve557), .second, .val (.long vf558), .second, .val (.ref b559), .val (.ref b567), .val (.ref b579), .val (.ref b603), .val (.ref b637), .val (.ref b671), .val (.int xf709), .val (.int rw710), .unset, .unset, .unset, .unset, .unset, .unset, .unset, .unset, .unset, .unset] [(.int (3 : Int32)), (.int p5)]))
  refine own_go (fun t k => XT.iushr X699.here hx rfl (hb hby at_176) rfl k) ?_
  show own_End p e below s _ _ _ (T699.setTop (mkF m 177 #[.val (.long p1), .second, .val (.long p2), .second, .val (.long p3), .second, .val (.long p4), .second, .val (.int p5), .val (.long p6), .second, .val (.long ve557), .second, .val (.long vf558), .second, .val (.ref b559), .val (.ref b567), .val (.ref b579), .val (.ref b603), .val (.ref b637), .val (.ref b671), .val (.int xf709), .val (.int rw710), .unset, .unset, .unset, .unset, .unset, .unset, .unset, .unset, .unset, .unset] [(.int (XT.ushr p5 (3 : Int32)))]))
  refine own_go (fun t k => XS.iconst X699.here hx rfl (hb hby at_177) k) ?_
  show own_End p e below s _ _ _ (T699.setTop (mkF m 178 #[.val (.long p1), .second, .val (.long p2), .second, .val (.long p3), .second, .val (.long p4), .second, .val (.int p5), .val (.long p6), .second, .val (.long ve557), .second, .val (.long vf558), .second, .val (.ref b559), .val (.ref b567), .val (.ref b579), .val (.ref b603), .val (.ref b637), .val (.ref b671), .val (.int xf709), .val (.int rw710), .unset, .unset, .unset, .unset, .unset, .unset, .unset, .unset, .unset, .unset] [(.int (1 : Int32)), (.int (XT.ushr p5 (3 : Int32)))]))
  refine own_go (fun t k => XS.iand X699.here hx rfl (hb hby at_178) rfl k) ?_
  show own_End p e below s _ _ _ (T699.setTop (mkF m 179 #[.val (.long p1), .second, .val (.long p2), .second, .val (.long p3), .second, .val (.long p4), .second, .val (.int p5), .val (.long p6), .second, .val (.long ve557), .second, .val (.long vf558), .second, .val (.ref b559), .val (.ref b567), .val (.ref b579), .val (.ref b603), .val (.ref b637), .val (.ref b671), .val (.int xf709), .val (.int rw710), .unset, .unset, .unset, .unset, .unset, .unset, .unset, .unset, .unset, .unset] [(.int ((XT.ushr p5 (3 : Int32)) &&& (1 : Int32)))]))
  obtain ⟨yf711, qyf711⟩ : ∃ z : Int32, z = ((XT.ushr p5 (3 : Int32)) &&& (1 : Int32)) := ⟨_, rfl⟩
  rw [← qyf711]
  show own_End p e below s _ _ _ (T699.setTop (mkF m 179 #[.val (.long p1), .second, .val (.long p2), .second, .val (.long p3), .second, .val (.long p4), .second, .val (.int p5), .val (.long p6), .second, .val (.long ve557), .second, .val (.long vf558), .second, .val (.ref b559), .val (.ref b567), .val (.ref b579), .val (.ref b603), .val (.ref b637), .val (.ref b671), .val (.int xf709), .val (.int rw710), .unset, .unset, .unset, .unset, .unset, .unset, .unset, .unset, .unset, .unset] [(.int yf711)]))
  have ryf : 0 ≤ yf711.toInt ∧ yf711.toInt ≤ 1 := by rw [qyf711]; have := c_and (XT.ushr p5 3) 1 (by decide); omega
  refine own_go (fun t k => XS.istore X699.here hx rfl (hb hby at_179) rfl (l' := #[.val (.long p1), .second, .val (.long p2), .second, .val (.long p3), .second, .val (.long p4), .second, .val (.int p5), .val (.long p6), .second, .val (.long ve557), .second, .val (.long vf558), .second, .val (.ref b559), .val (.ref b567), .val (.ref b579), .val (.ref b603), .val (.ref b637), .val (.ref b671), .val (.int xf709), .val (.int rw710), .val (.int yf711), .unset, .unset, .unset, .unset, .unset, .unset, .unset, .unset, .unset]) rfl k) ?_
  show own_End p e below s _ _ _ (T699.setTop (mkF m 181 #[.val (.long p1), .second, .val (.long p2), .second, .val (.long p3), .second, .val (.long p4), .second, .val (.int p5), .val (.long p6), .second, .val (.long ve557), .second, .val (.long vf558), .second, .val (.ref b559), .val (.ref b567), .val (.ref b579), .val (.ref b603), .val (.ref b637), .val (.ref b671), .val (.int xf709), .val (.int rw710), .val (.int yf711), .unset, .unset, .unset, .unset, .unset, .unset, .unset, .unset, .unset] []))
  refine own_go (fun t k => XS.iconst X699.here hx rfl (hb hby at_181) k) ?_
  show own_End p e below s _ _ _ (T699.setTop (mkF m 182 #[.val (.long p1), .second, .val (.long p2), .second, .val (.long p3), .second, .val (.long p4), .second, .val (.int p5), .val (.long p6), .second, .val (.long ve557), .second, .val (.long vf558), .second, .val (.ref b559), .val (.ref b567), .val (.ref b579), .val (.ref b603), .val (.ref b637), .val (.ref b671), .val (.int xf709), .val (.int rw710), .val (.int yf711), .unset, .unset, .unset, .unset, .unset, .unset, .unset, .unset, .unset] [(.int (1 : Int32))]))
  refine own_go (fun t k => XS.iload X699.here hx rfl (hb hby at_182) rfl k) ?_
  show own_End p e below s _ _ _ (T699.setTop (mkF m 184 #[.val (.long p1), .second, .val (.long p2), .second, .val (.long p3), .second, .val (.long p4), .second, .val (.int p5), .val (.long p6), .second, .val (.long ve557), .second, .val (.long vf558), .second, .val (.ref b559), .val (.ref b567), .val (.ref b579), .val (.ref b603), .val (.ref b637), .val (.ref b671), .val (.int xf709), .val (.int rw710), .val (.int yf711), .unset, .unset, .unset, .unset, .unset, .unset, .unset, .unset, .unset] [(.int p5), (.int (1 : Int32))]))
  refine own_go (fun t k => XS.iconst X699.here hx rfl (hb hby at_184) k) ?_
  show own_End p e below s _ _ _ (T699.setTop (mkF m 185 #[.val (.long p1), .second, .val (.long p2), .second, .val (.long p3), .second, .val (.long p4), .second, .val (.int p5), .val (.long p6), .second, .val (.long ve557), .second, .val (.long vf558), .second, .val (.ref b559), .val (.ref b567), .val (.ref b579), .val (.ref b603), .val (.ref b637), .val (.ref b671), .val (.int xf709), .val (.int rw710), .val (.int yf711), .unset, .unset, .unset, .unset, .unset, .unset, .unset, .unset, .unset] [(.int (4 : Int32)), (.int p5), (.int (1 : Int32))]))
  refine own_go (fun t k => XT.iushr X699.here hx rfl (hb hby at_185) rfl k) ?_
  show own_End p e below s _ _ _ (T699.setTop (mkF m 186 #[.val (.long p1), .second, .val (.long p2), .second, .val (.long p3), .second, .val (.long p4), .second, .val (.int p5), .val (.long p6), .second, .val (.long ve557), .second, .val (.long vf558), .second, .val (.ref b559), .val (.ref b567), .val (.ref b579), .val (.ref b603), .val (.ref b637), .val (.ref b671), .val (.int xf709), .val (.int rw710), .val (.int yf711), .unset, .unset, .unset, .unset, .unset, .unset, .unset, .unset, .unset] [(.int (XT.ushr p5 (4 : Int32))), (.int (1 : Int32))]))
  refine own_go (fun t k => XS.iconst X699.here hx rfl (hb hby at_186) k) ?_
  show own_End p e below s _ _ _ (T699.setTop (mkF m 187 #[.val (.long p1), .second, .val (.long p2), .second, .val (.long p3), .second, .val (.long p4), .second, .val (.int p5), .val (.long p6), .second, .val (.long ve557), .second, .val (.long vf558), .second, .val (.ref b559), .val (.ref b567), .val (.ref b579), .val (.ref b603), .val (.ref b637), .val (.ref b671), .val (.int xf709), .val (.int rw710), .val (.int yf711), .unset, .unset, .unset, .unset, .unset, .unset, .unset, .unset, .unset] [(.int (3 : Int32)), (.int (XT.ushr p5 (4 : Int32))), (.int (1 : Int32))]))
  refine own_go (fun t k => XS.iand X699.here hx rfl (hb hby at_187) rfl k) ?_
  show own_End p e below s _ _ _ (T699.setTop (mkF m 188 #[.val (.long p1), .second, .val (.long p2), .second, .val (.long p3), .second, .val (.long p4), .second, .val (.int p5), .val (.long p6), .second, .val (.long ve557), .second, .val (.long vf558), .second, .val (.ref b559), .val (.ref b567), .val (.ref b579), .val (.ref b603), .val (.ref b637), .val (.ref b671), .val (.int xf709), .val (.int rw710), .val (.int yf711), .unset, .unset, .unset, .unset, .unset, .unset, .unset, .unset, .unset] [(.int ((XT.ushr p5 (4 : Int32)) &&& (3 : Int32))), (.int (1 : Int32))]))
  refine own_go (fun t k => XS.iconst X699.here hx rfl (hb hby at_188) k) ?_
  show own_End p e below s _ _ _ (T699.setTop (mkF m 189 #[.val (.long p1), .second, .val (.long p2), .second, .val (.long p3), .second, .val (.long p4), .second, .val (.int p5), .val (.long p6), .second, .val (.long ve557), .second, .val (.long vf558), .second, .val (.ref b559), .val (.ref b567), .val (.ref b579), .val (.ref b603), .val (.ref b637), .val (.ref b671), .val (.int xf709), .val (.int rw710), .val (.int yf711), .unset, .unset, .unset, .unset, .unset, .unset, .unset, .unset, .unset] [(.int (3 : Int32)), (.int ((XT.ushr p5 (4 : Int32)) &&& (3 : Int32))), (.int (1 : Int32))]))
  refine own_go (fun t k => XS.iload X699.here hx rfl (hb hby at_189) rfl k) ?_
  show own_End p e below s _ _ _ (T699.setTop (mkF m 191 #[.val (.long p1), .second, .val (.long p2), .second, .val (.long p3), .second, .val (.long p4), .second, .val (.int p5), .val (.long p6), .second, .val (.long ve557), .second, .val (.long vf558), .second, .val (.ref b559), .val (.ref b567), .val (.ref b579), .val (.ref b603), .val (.ref b637), .val (.ref b671), .val (.int xf709), .val (.int rw710), .val (.int yf711), .unset, .unset, .unset, .unset, .unset, .unset, .unset, .unset, .unset] [(.int yf711), (.int (3 : Int32)), (.int ((XT.ushr p5 (4 : Int32)) &&& (3 : Int32))), (.int (1 : Int32))]))
  refine own_go (fun t k => XS.isub X699.here hx rfl (hb hby at_191) rfl k) ?_
  show own_End p e below s _ _ _ (T699.setTop (mkF m 192 #[.val (.long p1), .second, .val (.long p2), .second, .val (.long p3), .second, .val (.long p4), .second, .val (.int p5), .val (.long p6), .second, .val (.long ve557), .second, .val (.long vf558), .second, .val (.ref b559), .val (.ref b567), .val (.ref b579), .val (.ref b603), .val (.ref b637), .val (.ref b671), .val (.int xf709), .val (.int rw710), .val (.int yf711), .unset, .unset, .unset, .unset, .unset, .unset, .unset, .unset, .unset] [(.int ((3 : Int32) - yf711)), (.int ((XT.ushr p5 (4 : Int32)) &&& (3 : Int32))), (.int (1 : Int32))]))
  have h3wd : ((3 : Int32) - yf711).toInt = 3 - yf711.toInt := by have := c_isub 3 yf711; have := rng32 (3 - yf711); omega
  refine own_go (fun t k => XS.irem X699.here hx rfl (hb hby at_192) rfl (fun z => by have := congrArg Int32.toInt z; have e0 : (0 : Int32).toInt = 0 := (by decide); omega) k) ?_
  show own_End p e below s _ _ _ (T699.setTop (mkF m 193 #[.val (.long p1), .second, .val (.long p2), .second, .val (.long p3), .second, .val (.long p4), .second, .val (.int p5), .val (.long p6), .second, .val (.long ve557), .second, .val (.long vf558), .second, .val (.ref b559), .val (.ref b567), .val (.ref b579), .val (.ref b603), .val (.ref b637), .val (.ref b671), .val (.int xf709), .val (.int rw710), .val (.int yf711), .unset, .unset, .unset, .unset, .unset, .unset, .unset, .unset, .unset] [(.int (((XT.ushr p5 (4 : Int32)) &&& (3 : Int32)) - (((XT.ushr p5 (4 : Int32)) &&& (3 : Int32)) / ((3 : Int32) - yf711)) * ((3 : Int32) - yf711))), (.int (1 : Int32))]))
  rw [irem_eq_mod ((XT.ushr p5 (4 : Int32)) &&& (3 : Int32)) ((3 : Int32) - yf711)]
  show own_End p e below s _ _ _ (T699.setTop (mkF m 193 #[.val (.long p1), .second, .val (.long p2), .second, .val (.long p3), .second, .val (.long p4), .second, .val (.int p5), .val (.long p6), .second, .val (.long ve557), .second, .val (.long vf558), .second, .val (.ref b559), .val (.ref b567), .val (.ref b579), .val (.ref b603), .val (.ref b637), .val (.ref b671), .val (.int xf709), .val (.int rw710), .val (.int yf711), .unset, .unset, .unset, .unset, .unset, .unset, .unset, .unset, .unset] [(.int (((XT.ushr p5 (4 : Int32)) &&& (3 : Int32)) % ((3 : Int32) - yf711))), (.int (1 : Int32))]))
  refine own_go (fun t k => XS.iadd X699.here hx rfl (hb hby at_193) rfl k) ?_
  show own_End p e below s _ _ _ (T699.setTop (mkF m 194 #[.val (.long p1), .second, .val (.long p2), .second, .val (.long p3), .second, .val (.long p4), .second, .val (.int p5), .val (.long p6), .second, .val (.long ve557), .second, .val (.long vf558), .second, .val (.ref b559), .val (.ref b567), .val (.ref b579), .val (.ref b603), .val (.ref b637), .val (.ref b671), .val (.int xf709), .val (.int rw710), .val (.int yf711), .unset, .unset, .unset, .unset, .unset, .unset, .unset, .unset, .unset] [(.int ((1 : Int32) + (((XT.ushr p5 (4 : Int32)) &&& (3 : Int32)) % ((3 : Int32) - yf711))))]))
  obtain ⟨wd712, qwd712⟩ : ∃ z : Int32, z = ((1 : Int32) + (((XT.ushr p5 (4 : Int32)) &&& (3 : Int32)) % ((3 : Int32) - yf711))) := ⟨_, rfl⟩
  rw [← qwd712]
  show own_End p e below s _ _ _ (T699.setTop (mkF m 194 #[.val (.long p1), .second, .val (.long p2), .second, .val (.long p3), .second, .val (.long p4), .second, .val (.int p5), .val (.long p6), .second, .val (.long ve557), .second, .val (.long vf558), .second, .val (.ref b559), .val (.ref b567), .val (.ref b579), .val (.ref b603), .val (.ref b637), .val (.ref b671), .val (.int xf709), .val (.int rw710), .val (.int yf711), .unset, .unset, .unset, .unset, .unset, .unset, .unset, .unset, .unset] [(.int wd712)]))
  have rwd : 1 ≤ wd712.toInt ∧ wd712.toInt + yf711.toInt ≤ 3 := by
    have h1 := c_and (XT.ushr p5 4) 3 (by decide)
    have h2 := (c_iremV (XT.ushr p5 4 &&& 3) (3 - yf711)).1 (by omega) (by omega)
    have h4 := c_iadd 1 ((XT.ushr p5 4 &&& 3) % (3 - yf711)); have h5 := rng32 (1 + ((XT.ushr p5 4 &&& 3) % (3 - yf711))); rw [qwd712]; omega
  refine own_go (fun t k => XS.istore X699.here hx rfl (hb hby at_194) rfl (l' := #[.val (.long p1), .second, .val (.long p2), .second, .val (.long p3), .second, .val (.long p4), .second, .val (.int p5), .val (.long p6), .second, .val (.long ve557), .second, .val (.long vf558), .second, .val (.ref b559), .val (.ref b567), .val (.ref b579), .val (.ref b603), .val (.ref b637), .val (.ref b671), .val (.int xf709), .val (.int rw710), .val (.int yf711), .val (.int wd712), .unset, .unset, .unset, .unset, .unset, .unset, .unset, .unset]) rfl k) ?_
  show own_End p e below s _ _ _ (T699.setTop (mkF m 196 #[.val (.long p1), .second, .val (.long p2), .second, .val (.long p3), .second, .val (.long p4), .second, .val (.int p5), .val (.long p6), .second, .val (.long ve557), .second, .val (.long vf558), .second, .val (.ref b559), .val (.ref b567), .val (.ref b579), .val (.ref b603), .val (.ref b637), .val (.ref b671), .val (.int xf709), .val (.int rw710), .val (.int yf711), .val (.int wd712), .unset, .unset, .unset, .unset, .unset, .unset, .unset, .unset] []))
  refine own_go (fun t k => XS.iload X699.here hx rfl (hb hby at_196) rfl k) ?_
  show own_End p e below s _ _ _ (T699.setTop (mkF m 198 #[.val (.long p1), .second, .val (.long p2), .second, .val (.long p3), .second, .val (.long p4), .second, .val (.int p5), .val (.long p6), .second, .val (.long ve557), .second, .val (.long vf558), .second, .val (.ref b559), .val (.ref b567), .val (.ref b579), .val (.ref b603), .val (.ref b637), .val (.ref b671), .val (.int xf709), .val (.int rw710), .val (.int yf711), .val (.int wd712), .unset, .unset, .unset, .unset, .unset, .unset, .unset, .unset] [(.int p5)]))
  refine own_go (fun t k => XS.bipush X699.here hx rfl (hb hby at_198) k) ?_
  show own_End p e below s _ _ _ (T699.setTop (mkF m 200 #[.val (.long p1), .second, .val (.long p2), .second, .val (.long p3), .second, .val (.long p4), .second, .val (.int p5), .val (.long p6), .second, .val (.long ve557), .second, .val (.long vf558), .second, .val (.ref b559), .val (.ref b567), .val (.ref b579), .val (.ref b603), .val (.ref b637), .val (.ref b671), .val (.int xf709), .val (.int rw710), .val (.int yf711), .val (.int wd712), .unset, .unset, .unset, .unset, .unset, .unset, .unset, .unset] [(.int (6 : Int32)), (.int p5)]))
  refine own_go (fun t k => XT.iushr X699.here hx rfl (hb hby at_200) rfl k) ?_
  show own_End p e below s _ _ _ (T699.setTop (mkF m 201 #[.val (.long p1), .second, .val (.long p2), .second, .val (.long p3), .second, .val (.long p4), .second, .val (.int p5), .val (.long p6), .second, .val (.long ve557), .second, .val (.long vf558), .second, .val (.ref b559), .val (.ref b567), .val (.ref b579), .val (.ref b603), .val (.ref b637), .val (.ref b671), .val (.int xf709), .val (.int rw710), .val (.int yf711), .val (.int wd712), .unset, .unset, .unset, .unset, .unset, .unset, .unset, .unset] [(.int (XT.ushr p5 (6 : Int32)))]))
  refine own_go (fun t k => XS.iconst X699.here hx rfl (hb hby at_201) k) ?_
  show own_End p e below s _ _ _ (T699.setTop (mkF m 202 #[.val (.long p1), .second, .val (.long p2), .second, .val (.long p3), .second, .val (.long p4), .second, .val (.int p5), .val (.long p6), .second, .val (.long ve557), .second, .val (.long vf558), .second, .val (.ref b559), .val (.ref b567), .val (.ref b579), .val (.ref b603), .val (.ref b637), .val (.ref b671), .val (.int xf709), .val (.int rw710), .val (.int yf711), .val (.int wd712), .unset, .unset, .unset, .unset, .unset, .unset, .unset, .unset] [(.int (1 : Int32)), (.int (XT.ushr p5 (6 : Int32)))]))
  refine own_go (fun t k => XS.iand X699.here hx rfl (hb hby at_202) rfl k) ?_
  show own_End p e below s _ _ _ (T699.setTop (mkF m 203 #[.val (.long p1), .second, .val (.long p2), .second, .val (.long p3), .second, .val (.long p4), .second, .val (.int p5), .val (.long p6), .second, .val (.long ve557), .second, .val (.long vf558), .second, .val (.ref b559), .val (.ref b567), .val (.ref b579), .val (.ref b603), .val (.ref b637), .val (.ref b671), .val (.int xf709), .val (.int rw710), .val (.int yf711), .val (.int wd712), .unset, .unset, .unset, .unset, .unset, .unset, .unset, .unset] [(.int ((XT.ushr p5 (6 : Int32)) &&& (1 : Int32)))]))
  obtain ⟨bl713, qbl713⟩ : ∃ z : Int32, z = ((XT.ushr p5 (6 : Int32)) &&& (1 : Int32)) := ⟨_, rfl⟩
  rw [← qbl713]
  show own_End p e below s _ _ _ (T699.setTop (mkF m 203 #[.val (.long p1), .second, .val (.long p2), .second, .val (.long p3), .second, .val (.long p4), .second, .val (.int p5), .val (.long p6), .second, .val (.long ve557), .second, .val (.long vf558), .second, .val (.ref b559), .val (.ref b567), .val (.ref b579), .val (.ref b603), .val (.ref b637), .val (.ref b671), .val (.int xf709), .val (.int rw710), .val (.int yf711), .val (.int wd712), .unset, .unset, .unset, .unset, .unset, .unset, .unset, .unset] [(.int bl713)]))
  have rbl : 0 ≤ bl713.toInt ∧ bl713.toInt ≤ 1 := by rw [qbl713]; have := c_and (XT.ushr p5 6) 1 (by decide); omega
  refine own_go (fun t k => XS.istore X699.here hx rfl (hb hby at_203) rfl (l' := #[.val (.long p1), .second, .val (.long p2), .second, .val (.long p3), .second, .val (.long p4), .second, .val (.int p5), .val (.long p6), .second, .val (.long ve557), .second, .val (.long vf558), .second, .val (.ref b559), .val (.ref b567), .val (.ref b579), .val (.ref b603), .val (.ref b637), .val (.ref b671), .val (.int xf709), .val (.int rw710), .val (.int yf711), .val (.int wd712), .val (.int bl713), .unset, .unset, .unset, .unset, .unset, .unset, .unset]) rfl k) ?_
  show own_End p e below s _ _ _ (T699.setTop (mkF m 205 #[.val (.long p1), .second, .val (.long p2), .second, .val (.long p3), .second, .val (.long p4), .second, .val (.int p5), .val (.long p6), .second, .val (.long ve557), .second, .val (.long vf558), .second, .val (.ref b559), .val (.ref b567), .val (.ref b579), .val (.ref b603), .val (.ref b637), .val (.ref b671), .val (.int xf709), .val (.int rw710), .val (.int yf711), .val (.int wd712), .val (.int bl713), .unset, .unset, .unset, .unset, .unset, .unset, .unset] []))
  obtain ⟨T714, h714, X714, e714, E714, A714, D714, -, st714⟩ := newO X699 hx hZ hown (hw _ (List.mem_of_getElem? (i := 3) rfl)) (hw _ (List.mem_of_getElem? (i := 4) rfl)) (hw _ (List.mem_of_getElem? (i := 5) rfl)) e699 (g := (mkF m 205 #[.val (.long p1), .second, .val (.long p2), .second, .val (.long p3), .second, .val (.long p4), .second, .val (.int p5), .val (.long p6), .second, .val (.long ve557), .second, .val (.long vf558), .second, .val (.ref b559), .val (.ref b567), .val (.ref b579), .val (.ref b603), .val (.ref b637), .val (.ref b671), .val (.int xf709), .val (.int rw710), .val (.int yf711), .val (.int wd712), .val (.int bl713), .unset, .unset, .unset, .unset, .unset, .unset, .unset] [])) rfl (hb hby at_205) (by decide) (by decide)
  obtain ⟨b714, gb714⟩ : ∃ z, z = h699.size := ⟨_, rfl⟩
  rw [← gb714] at A714 D714 st714
  have nb714 : n0 ≤ b714 := by rw [gb714]; exact Z699
  have Z714 : n0 ≤ h714.size := Nat.le_trans Z699 E714.1
  have lt_b559_b714 : @LT.lt Nat _ b559 b714 := Nat.lt_of_lt_of_le f700.lt (Nat.le_of_eq gb714.symm)
  have lt_b567_b714 : @LT.lt Nat _ b567 b714 := Nat.lt_of_lt_of_le f701.lt (Nat.le_of_eq gb714.symm)
  have lt_b579_b714 : @LT.lt Nat _ b579 b714 := Nat.lt_of_lt_of_le f702.lt (Nat.le_of_eq gb714.symm)
  have lt_b603_b714 : @LT.lt Nat _ b603 b714 := Nat.lt_of_lt_of_le f704.lt (Nat.le_of_eq gb714.symm)
  have lt_b637_b714 : @LT.lt Nat _ b637 b714 := Nat.lt_of_lt_of_le f706.lt (Nat.le_of_eq gb714.symm)
  have lt_b671_b714 : @LT.lt Nat _ b671 b714 := Nat.lt_of_lt_of_le f708.lt (Nat.le_of_eq gb714.symm)
  have f715 := f700.ext E714
  have f716 := f701.ext E714
  have f717 := f702.ext E714
  have f718 := f703.ext E714
  have f719 := f704.ext E714
  have f720 := f705.ext E714
  have f721 := f706.ext E714
  have f722 := f708.ext E714
  have f723 : Fld Z h714 b714 "com/example/ordinate/ordinate/core/PairBlocks" "xRuns" "[[I" .null := D714 (Or.inl (hw _ (List.mem_of_getElem? (i := 15) rfl))) (ty := (.array (.array .int))) (by decide)
  have f724 : Fld Z h714 b714 "com/example/ordinate/ordinate/core/PairBlocks" "xFroms" "[I" .null := D714 (Or.inl (hw _ (List.mem_of_getElem? (i := 17) rfl))) (ty := (.array .int)) (by decide)
  have f725 : Fld Z h714 b714 "com/example/ordinate/ordinate/core/PairBlocks" "xTos" "[I" .null := D714 (Or.inl (hw _ (List.mem_of_getElem? (i := 19) rfl))) (ty := (.array .int)) (by decide)
  have f726 : Fld Z h714 b714 "com/example/ordinate/ordinate/core/PairBlocks" "xWeights" "[[J" .null := D714 (Or.inl (hw _ (List.mem_of_getElem? (i := 23) rfl))) (ty := (.array (.array .long))) (by decide)
  have f727 : Fld Z h714 b714 "com/example/ordinate/ordinate/core/PairBlocks" "yRuns" "[[I" .null := D714 (Or.inl (hw _ (List.mem_of_getElem? (i := 25) rfl))) (ty := (.array (.array .int))) (by decide)
  have f728 : Fld Z h714 b714 "com/example/ordinate/ordinate/core/PairBlocks" "yFroms" "[I" .null := D714 (Or.inl (hw _ (List.mem_of_getElem? (i := 27) rfl))) (ty := (.array .int)) (by decide)
  have f729 : Fld Z h714 b714 "com/example/ordinate/ordinate/core/PairBlocks" "yTos" "[I" .null := D714 (Or.inl (hw _ (List.mem_of_getElem? (i := 29) rfl))) (ty := (.array .int)) (by decide)
  have f730 : Fld Z h714 b714 "com/example/ordinate/ordinate/core/PairBlocks" "yWeights" "[[J" .null := D714 (Or.inl (hw _ (List.mem_of_getElem? (i := 31) rfl))) (ty := (.array (.array .long))) (by decide)
  have f731 : Fld Z h714 b714 "com/example/ordinate/ordinate/core/PairBlocks" "count" "I" (.int (0 : Int32)) := D714 (Or.inl (hw _ (List.mem_of_getElem? (i := 38) rfl))) (ty := .int) (by decide)
  have f732 : Fld Z h714 b714 "com/example/ordinate/ordinate/core/PairBlocks" "xPlaces" "I" (.int (0 : Int32)) := D714 (Or.inl (hw _ (List.mem_of_getElem? (i := 42) rfl))) (ty := .int) (by decide)
  refine own_go st714 ?_
  show own_End p e below s _ _ _ (T714.setTop (mkF m 208 #[.val (.long p1), .second, .val (.long p2), .second, .val (.long p3), .second, .val (.long p4), .second, .val (.int p5), .val (.long p6), .second, .val (.long ve557), .second, .val (.long vf558), .second, .val (.ref b559), .val (.ref b567), .val (.ref b579), .val (.ref b603), .val (.ref b637), .val (.ref b671), .val (.int xf709), .val (.int rw710), .val (.int yf711), .val (.int wd712), .val (.int bl713), .unset, .unset, .unset, .unset, .unset, .unset, .unset] [(.ref b714)]))
  refine own_go (fun t k => XS.dup X714.here hx rfl (hb hby at_208) rfl rfl k) ?_
  show own_End p e below s _ _ _ (T714.setTop (mkF m 209 #[.val (.long p1), .second, .val (.long p2), .second, .val (.long p3), .second, .val (.long p4), .second, .val (.int p5), .val (.long p6), .second, .val (.long ve557), .second, .val (.long vf558), .second, .val (.ref b559), .val (.ref b567), .val (.ref b579), .val (.ref b603), .val (.ref b637), .val (.ref b671), .val (.int xf709), .val (.int rw710), .val (.int yf711), .val (.int wd712), .val (.int bl713), .unset, .unset, .unset, .unset, .unset, .unset, .unset] [(.ref b714), (.ref b714)]))
  obtain ⟨v733, T733, L733, X733, hQ733, st733⟩ := own_callI X714 hx hZ (y := (⟨"com/example/ordinate/ordinate/core/PairBlocks", "<init>", "()V"⟩ : MethodName)) 1 rfl hown (hw _ (List.mem_of_getElem? (i := 6) rfl)) (hw _ (List.mem_of_getElem? (i := 7) rfl)) (hw _ (List.mem_of_getElem? (i := 5) rfl)) (hw _ (List.mem_of_getElem? (i := 8) rfl)) (by decide) (rm1 l Z a0 hw [] b714 h714 n0 Z714 nb714 A714 f723 f724 f725 f726 f727 f728 f729 f730 f731 f732) e714 (b := b714) (pc := 209) (Ls := #[.val (.long p1), .second, .val (.long p2), .second, .val (.long p3), .second, .val (.long p4), .second, .val (.int p5), .val (.long p6), .second, .val (.long ve557), .second, .val (.long vf558), .second, .val (.ref b559), .val (.ref b567), .val (.ref b579), .val (.ref b603), .val (.ref b637), .val (.ref b671), .val (.int xf709), .val (.int rw710), .val (.int yf711), .val (.int wd712), .val (.int bl713), .unset, .unset, .unset, .unset, .unset, .unset, .unset]) [] [(.ref b714)] (by rw [hml]; rfl) rfl rfl (lenOf pd__V rfl) (Nat.le_of_eq rfl) (hb hby at_209) (by decide) (by decide) (by decide) (by decide)
  obtain ⟨h734, e734⟩ : ∃ z, T733.heap = z := ⟨_, rfl⟩
  rw [e734] at hQ733
  obtain ⟨rfl, Nc, Kc, axr, axf, axt, axw, ayr, ayf, ayt, ayw, kaxr, kaxf, kaxt, kaxw, kayr, kayf, kayt, kayw, hord, ⟨Oaxr, Oaxw, Oayr, Oayw⟩, F0_axr, F0_axf, F0_axt, F0_axw, F0_ayr, F0_ayf, F0_ayt, F0_ayw, f0_xRuns, f0_xFroms, f0_xTos, f0_xWeights, f0_yRuns, f0_yFroms, f0_yTos, f0_yWeights, f0_count, f0_xPlaces⟩ := hQ733
  have N_c := Fr.app N699 Nc
  have Z734 : n0 ≤ h734.size := Nat.le_trans Z714 Kc.1
  have f735 := f715.keep Kc (ninS (Nat.ne_of_lt lt_b559_b714) nin0)
  have f736 := f716.keep Kc (ninS (Nat.ne_of_lt lt_b567_b714) nin0)
  have f737 := f717.keep Kc (ninS (Nat.ne_of_lt lt_b579_b714) nin0)
  have f738 := f718.keep Kc
  have f739 := f719.keep Kc (ninS (Nat.ne_of_lt lt_b603_b714) nin0)
  have f740 := f720.keep Kc
  have f741 := f721.keep Kc
  have f742 := f722.keep Kc
  have f743 := A714.keep Kc
  refine own_go st733 ?_
  show own_End p e below s _ _ _ (T733.setTop (mkF m 212 #[.val (.long p1), .second, .val (.long p2), .second, .val (.long p3), .second, .val (.long p4), .second, .val (.int p5), .val (.long p6), .second, .val (.long ve557), .second, .val (.long vf558), .second, .val (.ref b559), .val (.ref b567), .val (.ref b579), .val (.ref b603), .val (.ref b637), .val (.ref b671), .val (.int xf709), .val (.int rw710), .val (.int yf711), .val (.int wd712), .val (.int bl713), .unset, .unset, .unset, .unset, .unset, .unset, .unset] [(.ref b714)]))
  have lt_b714_axr : @LT.lt Nat _ b714 axr := hord.1
  have lt_axr_axf : @LT.lt Nat _ axr axf := hord.2.1
  have lt_axf_axt : @LT.lt Nat _ axf axt := hord.2.2.1
  have lt_axt_axw : @LT.lt Nat _ axt axw := hord.2.2.2.1
  have lt_axw_ayr : @LT.lt Nat _ axw ayr := hord.2.2.2.2.1
  have lt_ayr_ayf : @LT.lt Nat _ ayr ayf := hord.2.2.2.2.2.1
  have lt_ayf_ayt : @LT.lt Nat _ ayf ayt := hord.2.2.2.2.2.2.1
  have lt_ayt_ayw : @LT.lt Nat _ ayt ayw := hord.2.2.2.2.2.2.2
  have lt_b714_axf : @LT.lt Nat _ b714 axf := Nat.lt_trans lt_b714_axr lt_axr_axf
  have lt_axr_axt : @LT.lt Nat _ axr axt := Nat.lt_trans lt_axr_axf lt_axf_axt
  have lt_axf_axw : @LT.lt Nat _ axf axw := Nat.lt_trans lt_axf_axt lt_axt_axw
  have lt_axt_ayr : @LT.lt Nat _ axt ayr := Nat.lt_trans lt_axt_axw lt_axw_ayr
  have lt_axw_ayf : @LT.lt Nat _ axw ayf := Nat.lt_trans lt_axw_ayr lt_ayr_ayf
  have lt_ayr_ayt : @LT.lt Nat _ ayr ayt := Nat.lt_trans lt_ayr_ayf lt_ayf_ayt
  have lt_ayf_ayw : @LT.lt Nat _ ayf ayw := Nat.lt_trans lt_ayf_ayt lt_ayt_ayw
  have lt_b714_axt : @LT.lt Nat _ b714 axt := Nat.lt_trans lt_b714_axf lt_axf_axt
  have lt_axr_axw : @LT.lt Nat _ axr axw := Nat.lt_trans lt_axr_axt lt_axt_axw
  have lt_axf_ayr : @LT.lt Nat _ axf ayr := Nat.lt_trans lt_axf_axw lt_axw_ayr
  have lt_axt_ayf : @LT.lt Nat _ axt ayf := Nat.lt_trans lt_axt_ayr lt_ayr_ayf
  have lt_axw_ayt : @LT.lt Nat _ axw ayt := Nat.lt_trans lt_axw_ayf lt_ayf_ayt
  have lt_ayr_ayw : @LT.lt Nat _ ayr ayw := Nat.lt_trans lt_ayr_ayt lt_ayt_ayw
  have lt_b714_axw : @LT.lt Nat _ b714 axw := Nat.lt_trans lt_b714_axt lt_axt_axw
  have lt_axr_ayr : @LT.lt Nat _ axr ayr := Nat.lt_trans lt_axr_axw lt_axw_ayr
  have lt_axf_ayf : @LT.lt Nat _ axf ayf := Nat.lt_trans lt_axf_ayr lt_ayr_ayf
  have lt_axt_ayt : @LT.lt Nat _ axt ayt := Nat.lt_trans lt_axt_ayf lt_ayf_ayt
  have lt_axw_ayw : @LT.lt Nat _ axw ayw := Nat.lt_trans lt_axw_ayt lt_ayt_ayw
  have lt_b714_ayr : @LT.lt Nat _ b714 ayr := Nat.lt_trans lt_b714_axw lt_axw_ayr
  have lt_axr_ayf : @LT.lt Nat _ axr ayf := Nat.lt_trans lt_axr_ayr lt_ayr_ayf
  have lt_axf_ayt : @LT.lt Nat _ axf ayt := Nat.lt_trans lt_axf_ayf lt_ayf_ayt
  have lt_axt_ayw : @LT.lt Nat _ axt ayw := Nat.lt_trans lt_axt_ayt lt_ayt_ayw
  have lt_b714_ayf : @LT.lt Nat _ b714 ayf := Nat.lt_trans lt_b714_ayr lt_ayr_ayf
  have lt_axr_ayt : @LT.lt Nat _ axr ayt := Nat.lt_trans lt_axr_ayf lt_ayf_ayt
  have lt_axf_ayw : @LT.lt Nat _ axf ayw := Nat.lt_trans lt_axf_ayt lt_ayt_ayw
  have lt_b714_ayt : @LT.lt Nat _ b714 ayt := Nat.lt_trans lt_b714_ayf lt_ayf_ayt
  have lt_axr_ayw : @LT.lt Nat _ axr ayw := Nat.lt_trans lt_axr_ayt lt_ayt_ayw
  have lt_b714_ayw : @LT.lt Nat _ b714 ayw := Nat.lt_trans lt_b714_ayt lt_ayt_ayw
  have lt_b559_axr : @LT.lt Nat _ b559 axr := Nat.lt_trans lt_b559_b714 lt_b714_axr
  have lt_b559_axf : @LT.lt Nat _ b559 axf := Nat.lt_trans lt_b559_b714 lt_b714_axf
  have lt_b559_axt : @LT.lt Nat _ b559 axt := Nat.lt_trans lt_b559_b714 lt_b714_axt
  have lt_b559_axw : @LT.lt Nat _ b559 axw := Nat.lt_trans lt_b559_b714 lt_b714_axw
  have lt_b559_ayr : @LT.lt Nat _ b559 ayr := Nat.lt_trans lt_b559_b714 lt_b714_ayr
  have lt_b559_ayf : @LT.lt Nat _ b559 ayf := Nat.lt_trans lt_b559_b714 lt_b714_ayf
  have lt_b559_ayt : @LT.lt Nat _ b559 ayt := Nat.lt_trans lt_b559_b714 lt_b714_ayt
  have lt_b559_ayw : @LT.lt Nat _ b559 ayw := Nat.lt_trans lt_b559_b714 lt_b714_ayw
  have lt_b567_axr : @LT.lt Nat _ b567 axr := Nat.lt_trans lt_b567_b714 lt_b714_axr
  have lt_b567_axf : @LT.lt Nat _ b567 axf := Nat.lt_trans lt_b567_b714 lt_b714_axf
  have lt_b567_axt : @LT.lt Nat _ b567 axt := Nat.lt_trans lt_b567_b714 lt_b714_axt
  have lt_b567_axw : @LT.lt Nat _ b567 axw := Nat.lt_trans lt_b567_b714 lt_b714_axw
  have lt_b567_ayr : @LT.lt Nat _ b567 ayr := Nat.lt_trans lt_b567_b714 lt_b714_ayr
  have lt_b567_ayf : @LT.lt Nat _ b567 ayf := Nat.lt_trans lt_b567_b714 lt_b714_ayf
  have lt_b567_ayt : @LT.lt Nat _ b567 ayt := Nat.lt_trans lt_b567_b714 lt_b714_ayt
  have lt_b567_ayw : @LT.lt Nat _ b567 ayw := Nat.lt_trans lt_b567_b714 lt_b714_ayw
  have lt_b579_axr : @LT.lt Nat _ b579 axr := Nat.lt_trans lt_b579_b714 lt_b714_axr
  have lt_b579_axf : @LT.lt Nat _ b579 axf := Nat.lt_trans lt_b579_b714 lt_b714_axf
  have lt_b579_axt : @LT.lt Nat _ b579 axt := Nat.lt_trans lt_b579_b714 lt_b714_axt
  have lt_b579_axw : @LT.lt Nat _ b579 axw := Nat.lt_trans lt_b579_b714 lt_b714_axw
  have lt_b579_ayr : @LT.lt Nat _ b579 ayr := Nat.lt_trans lt_b579_b714 lt_b714_ayr
  have lt_b579_ayf : @LT.lt Nat _ b579 ayf := Nat.lt_trans lt_b579_b714 lt_b714_ayf
  have lt_b579_ayt : @LT.lt Nat _ b579 ayt := Nat.lt_trans lt_b579_b714 lt_b714_ayt
  have lt_b579_ayw : @LT.lt Nat _ b579 ayw := Nat.lt_trans lt_b579_b714 lt_b714_ayw
  have lt_b603_axr : @LT.lt Nat _ b603 axr := Nat.lt_trans lt_b603_b714 lt_b714_axr
  have lt_b603_axf : @LT.lt Nat _ b603 axf := Nat.lt_trans lt_b603_b714 lt_b714_axf
  have lt_b603_axt : @LT.lt Nat _ b603 axt := Nat.lt_trans lt_b603_b714 lt_b714_axt
  have lt_b603_axw : @LT.lt Nat _ b603 axw := Nat.lt_trans lt_b603_b714 lt_b714_axw
  have lt_b603_ayr : @LT.lt Nat _ b603 ayr := Nat.lt_trans lt_b603_b714 lt_b714_ayr
  have lt_b603_ayf : @LT.lt Nat _ b603 ayf := Nat.lt_trans lt_b603_b714 lt_b714_ayf
  have lt_b603_ayt : @LT.lt Nat _ b603 ayt := Nat.lt_trans lt_b603_b714 lt_b714_ayt
  have lt_b603_ayw : @LT.lt Nat _ b603 ayw := Nat.lt_trans lt_b603_b714 lt_b714_ayw
  refine own_go (fun t k => XS.astore X733.here hx rfl (hb hby at_212) rfl rfl (l' := #[.val (.long p1), .second, .val (.long p2), .second, .val (.long p3), .second, .val (.long p4), .second, .val (.int p5), .val (.long p6), .second, .val (.long ve557), .second, .val (.long vf558), .second, .val (.ref b559), .val (.ref b567), .val (.ref b579), .val (.ref b603), .val (.ref b637), .val (.ref b671), .val (.int xf709), .val (.int rw710), .val (.int yf711), .val (.int wd712), .val (.int bl713), .val (.ref b714), .unset, .unset, .unset, .unset, .unset, .unset]) rfl k) ?_
  show own_End p e below s _ _ _ (T733.setTop (mkF m 214 #[.val (.long p1), .second, .val (.long p2), .second, .val (.long p3), .second, .val (.long p4), .second, .val (.int p5), .val (.long p6), .second, .val (.long ve557), .second, .val (.long vf558), .second, .val (.ref b559), .val (.ref b567), .val (.ref b579), .val (.ref b603), .val (.ref b637), .val (.ref b671), .val (.int xf709), .val (.int rw710), .val (.int yf711), .val (.int wd712), .val (.int bl713), .val (.ref b714), .unset, .unset, .unset, .unset, .unset, .unset] []))
  refine own_go (fun t k => XS.aload X733.here hx rfl (hb hby at_214) rfl rfl k) ?_
  show own_End p e below s _ _ _ (T733.setTop (mkF m 216 #[.val (.long p1), .second, .val (.long p2), .second, .val (.long p3), .second, .val (.long p4), .second, .val (.int p5), .val (.long p6), .second, .val (.long ve557), .second, .val (.long vf558), .second, .val (.ref b559), .val (.ref b567), .val (.ref b579), .val (.ref b603), .val (.ref b637), .val (.ref b671), .val (.int xf709), .val (.int rw710), .val (.int yf711), .val (.int wd712), .val (.int bl713), .val (.ref b714), .unset, .unset, .unset, .unset, .unset, .unset] [(.ref b714)]))
  refine own_go (fun t k => XS.aload X733.here hx rfl (hb hby at_216) rfl rfl k) ?_
  show own_End p e below s _ _ _ (T733.setTop (mkF m 218 #[.val (.long p1), .second, .val (.long p2), .second, .val (.long p3), .second, .val (.long p4), .second, .val (.int p5), .val (.long p6), .second, .val (.long ve557), .second, .val (.long vf558), .second, .val (.ref b559), .val (.ref b567), .val (.ref b579), .val (.ref b603), .val (.ref b637), .val (.ref b671), .val (.int xf709), .val (.int rw710), .val (.int yf711), .val (.int wd712), .val (.int bl713), .val (.ref b714), .unset, .unset, .unset, .unset, .unset, .unset] [(.ref b637), (.ref b714)]))
  refine own_go (fun t k => XS.aload X733.here hx rfl (hb hby at_218) rfl rfl k) ?_
  show own_End p e below s _ _ _ (T733.setTop (mkF m 220 #[.val (.long p1), .second, .val (.long p2), .second, .val (.long p3), .second, .val (.long p4), .second, .val (.int p5), .val (.long p6), .second, .val (.long ve557), .second, .val (.long vf558), .second, .val (.ref b559), .val (.ref b567), .val (.ref b579), .val (.ref b603), .val (.ref b637), .val (.ref b671), .val (.int xf709), .val (.int rw710), .val (.int yf711), .val (.int wd712), .val (.int bl713), .val (.ref b714), .unset, .unset, .unset, .unset, .unset, .unset] [(.ref b579), (.ref b637), (.ref b714)]))
  refine own_go (fun t k => XS.iload X733.here hx rfl (hb hby at_220) rfl k) ?_
  show own_End p e below s _ _ _ (T733.setTop (mkF m 222 #[.val (.long p1), .second, .val (.long p2), .second, .val (.long p3), .second, .val (.long p4), .second, .val (.int p5), .val (.long p6), .second, .val (.long ve557), .second, .val (.long vf558), .second, .val (.ref b559), .val (.ref b567), .val (.ref b579), .val (.ref b603), .val (.ref b637), .val (.ref b671), .val (.int xf709), .val (.int rw710), .val (.int yf711), .val (.int wd712), .val (.int bl713), .val (.ref b714), .unset, .unset, .unset, .unset, .unset, .unset] [(.int xf709), (.ref b579), (.ref b637), (.ref b714)]))
  refine own_go (fun t k => XS.iload X733.here hx rfl (hb hby at_222) rfl k) ?_
  show own_End p e below s _ _ _ (T733.setTop (mkF m 224 #[.val (.long p1), .second, .val (.long p2), .second, .val (.long p3), .second, .val (.long p4), .second, .val (.int p5), .val (.long p6), .second, .val (.long ve557), .second, .val (.long vf558), .second, .val (.ref b559), .val (.ref b567), .val (.ref b579), .val (.ref b603), .val (.ref b637), .val (.ref b671), .val (.int xf709), .val (.int rw710), .val (.int yf711), .val (.int wd712), .val (.int bl713), .val (.ref b714), .unset, .unset, .unset, .unset, .unset, .unset] [(.int xf709), (.int xf709), (.ref b579), (.ref b637), (.ref b714)]))
  refine own_go (fun t k => XS.iload X733.here hx rfl (hb hby at_224) rfl k) ?_
  show own_End p e below s _ _ _ (T733.setTop (mkF m 226 #[.val (.long p1), .second, .val (.long p2), .second, .val (.long p3), .second, .val (.long p4), .second, .val (.int p5), .val (.long p6), .second, .val (.long ve557), .second, .val (.long vf558), .second, .val (.ref b559), .val (.ref b567), .val (.ref b579), .val (.ref b603), .val (.ref b637), .val (.ref b671), .val (.int xf709), .val (.int rw710), .val (.int yf711), .val (.int wd712), .val (.int bl713), .val (.ref b714), .unset, .unset, .unset, .unset, .unset, .unset] [(.int rw710), (.int xf709), (.int xf709), (.ref b579), (.ref b637), (.ref b714)]))
  refine own_go (fun t k => XS.iadd X733.here hx rfl (hb hby at_226) rfl k) ?_
  show own_End p e below s _ _ _ (T733.setTop (mkF m 227 #[.val (.long p1), .second, .val (.long p2), .second, .val (.long p3), .second, .val (.long p4), .second, .val (.int p5), .val (.long p6), .second, .val (.long ve557), .second, .val (.long vf558), .second, .val (.ref b559), .val (.ref b567), .val (.ref b579), .val (.ref b603), .val (.ref b637), .val (.ref b671), .val (.int xf709), .val (.int rw710), .val (.int yf711), .val (.int wd712), .val (.int bl713), .val (.ref b714), .unset, .unset, .unset, .unset, .unset, .unset] [(.int (xf709 + rw710)), (.int xf709), (.ref b579), (.ref b637), (.ref b714)]))
  refine own_go (fun t k => XS.aload X733.here hx rfl (hb hby at_227) rfl rfl k) ?_
  show own_End p e below s _ _ _ (T733.setTop (mkF m 229 #[.val (.long p1), .second, .val (.long p2), .second, .val (.long p3), .second, .val (.long p4), .second, .val (.int p5), .val (.long p6), .second, .val (.long ve557), .second, .val (.long vf558), .second, .val (.ref b559), .val (.ref b567), .val (.ref b579), .val (.ref b603), .val (.ref b637), .val (.ref b671), .val (.int xf709), .val (.int rw710), .val (.int yf711), .val (.int wd712), .val (.int bl713), .val (.ref b714), .unset, .unset, .unset, .unset, .unset, .unset] [(.ref b671), (.int (xf709 + rw710)), (.int xf709), (.ref b579), (.ref b637), (.ref b714)]))
  refine own_go (fun t k => XS.aload X733.here hx rfl (hb hby at_229) rfl rfl k) ?_
  show own_End p e below s _ _ _ (T733.setTop (mkF m 231 #[.val (.long p1), .second, .val (.long p2), .second, .val (.long p3), .second, .val (.long p4), .second, .val (.int p5), .val (.long p6), .second, .val (.long ve557), .second, .val (.long vf558), .second, .val (.ref b559), .val (.ref b567), .val (.ref b579), .val (.ref b603), .val (.ref b637), .val (.ref b671), .val (.int xf709), .val (.int rw710), .val (.int yf711), .val (.int wd712), .val (.int bl713), .val (.ref b714), .unset, .unset, .unset, .unset, .unset, .unset] [(.ref b603), (.ref b671), (.int (xf709 + rw710)), (.int xf709), (.ref b579), (.ref b637), (.ref b714)]))
  refine own_go (fun t k => XS.iload X733.here hx rfl (hb hby at_231) rfl k) ?_
  show own_End p e below s _ _ _ (T733.setTop (mkF m 233 #[.val (.long p1), .second, .val (.long p2), .second, .val (.long p3), .second, .val (.long p4), .second, .val (.int p5), .val (.long p6), .second, .val (.long ve557), .second, .val (.long vf558), .second, .val (.ref b559), .val (.ref b567), .val (.ref b579), .val (.ref b603), .val (.ref b637), .val (.ref b671), .val (.int xf709), .val (.int rw710), .val (.int yf711), .val (.int wd712), .val (.int bl713), .val (.ref b714), .unset, .unset, .unset, .unset, .unset, .unset] [(.int yf711), (.ref b603), (.ref b671), (.int (xf709 + rw710)), (.int xf709), (.ref b579), (.ref b637), (.ref b714)]))
  refine own_go (fun t k => XS.iload X733.here hx rfl (hb hby at_233) rfl k) ?_
  show own_End p e below s _ _ _ (T733.setTop (mkF m 235 #[.val (.long p1), .second, .val (.long p2), .second, .val (.long p3), .second, .val (.long p4), .second, .val (.int p5), .val (.long p6), .second, .val (.long ve557), .second, .val (.long vf558), .second, .val (.ref b559), .val (.ref b567), .val (.ref b579), .val (.ref b603), .val (.ref b637), .val (.ref b671), .val (.int xf709), .val (.int rw710), .val (.int yf711), .val (.int wd712), .val (.int bl713), .val (.ref b714), .unset, .unset, .unset, .unset, .unset, .unset] [(.int yf711), (.int yf711), (.ref b603), (.ref b671), (.int (xf709 + rw710)), (.int xf709), (.ref b579), (.ref b637), (.ref b714)]))
  refine own_go (fun t k => XS.iload X733.here hx rfl (hb hby at_235) rfl k) ?_
  show own_End p e below s _ _ _ (T733.setTop (mkF m 237 #[.val (.long p1), .second, .val (.long p2), .second, .val (.long p3), .second, .val (.long p4), .second, .val (.int p5), .val (.long p6), .second, .val (.long ve557), .second, .val (.long vf558), .second, .val (.ref b559), .val (.ref b567), .val (.ref b579), .val (.ref b603), .val (.ref b637), .val (.ref b671), .val (.int xf709), .val (.int rw710), .val (.int yf711), .val (.int wd712), .val (.int bl713), .val (.ref b714), .unset, .unset, .unset, .unset, .unset, .unset] [(.int wd712), (.int yf711), (.int yf711), (.ref b603), (.ref b671), (.int (xf709 + rw710)), (.int xf709), (.ref b579), (.ref b637), (.ref b714)]))
  refine own_go (fun t k => XS.iadd X733.here hx rfl (hb hby at_237) rfl k) ?_
  show own_End p e below s _ _ _ (T733.setTop (mkF m 238 #[.val (.long p1), .second, .val (.long p2), .second, .val (.long p3), .second, .val (.long p4), .second, .val (.int p5), .val (.long p6), .second, .val (.long ve557), .second, .val (.long vf558), .second, .val (.ref b559), .val (.ref b567), .val (.ref b579), .val (.ref b603), .val (.ref b637), .val (.ref b671), .val (.int xf709), .val (.int rw710), .val (.int yf711), .val (.int wd712), .val (.int bl713), .val (.ref b714), .unset, .unset, .unset, .unset, .unset, .unset] [(.int (yf711 + wd712)), (.int yf711), (.ref b603), (.ref b671), (.int (xf709 + rw710)), (.int xf709), (.ref b579), (.ref b637), (.ref b714)]))
  have hcx : (xf709 + rw710) - xf709 = rw710 := own_cancel _ _
  have hcy : (yf711 + wd712) - yf711 = wd712 := own_cancel _ _
  obtain ⟨v744, T744, L744, X744, hQ744, st744⟩ := own_callV X733 hx hZ (C := "com/example/ordinate/ordinate/core/PairBlocks") (y := (⟨"com/example/ordinate/ordinate/core/PairBlocks", "add", "([I[JII[I[JII)V"⟩ : MethodName)) 0 hown (hw _ (List.mem_of_getElem? (i := 32) rfl)) (hw _ (List.mem_of_getElem? (i := 33) rfl)) (hw _ (List.mem_of_getElem? (i := 35) rfl)) (hw _ (List.mem_of_getElem? (i := 34) rfl)) (hw _ (List.mem_of_getElem? (i := 5) rfl)) (hw _ (List.mem_of_getElem? (i := 36) rfl)) (by decide) (rm3 l Z a0 hw [] b714 b637 b579 xf709 (xf709 + rw710) b671 b603 yf711 (yf711 + wd712) h734 n0 Z734 axr axf axt axw ayr ayf ayt ayw kaxr kaxf kaxt kaxw kayr kayf kayt kayw _ _ _ _ _ _ _ _ 0 0 hord nb714 f743 F0_axr F0_axf F0_axt F0_axw F0_ayr F0_ayf F0_ayt F0_ayw f0_xRuns f0_xFroms f0_xTos f0_xWeights f0_yRuns f0_yFroms f0_yTos f0_yWeights f0_count f0_xPlaces Oaxr Oaxw Oayr Oayw f741 f738 f742 f740 0 (by decide) (by decide) (by decide) (by rw [hcx, Int32.zero_add]; omega)) e734 f743 (pc := 238) (Ls := #[.val (.long p1), .second, .val (.long p2), .second, .val (.long p3), .second, .val (.long p4), .second, .val (.int p5), .val (.long p6), .second, .val (.long ve557), .second, .val (.long vf558), .second, .val (.ref b559), .val (.ref b567), .val (.ref b579), .val (.ref b603), .val (.ref b637), .val (.ref b671), .val (.int xf709), .val (.int rw710), .val (.int yf711), .val (.int wd712), .val (.int bl713), .val (.ref b714), .unset, .unset, .unset, .unset, .unset, .unset]) [(.ref b637), (.ref b579), (.int xf709), (.int (xf709 + rw710)), (.ref b671), (.ref b603), (.int yf711), (.int (yf711 + wd712))] [] (by rw [hml]; rfl) rfl rfl (lenOf pd_aIaJIIaIaJII_V rfl) (Nat.le_of_eq rfl) (hb hby at_238) (by decide) (by decide) (by decide) (by decide)
  obtain ⟨h745, e745⟩ : ∃ z, T744.heap = z := ⟨_, rfl⟩
  rw [e745] at hQ744
  obtain ⟨rfl, Na1, Ka1, F1_axr, F1_axf, F1_axt, F1_axw, F1_ayr, F1_ayf, F1_ayt, F1_ayw, f1_xRuns, f1_xFroms, f1_xTos, f1_xWeights, f1_yRuns, f1_yFroms, f1_yTos, f1_yWeights, f1_count, f1_xPlaces⟩ := hQ744
  have N_a1 := Fr.app N_c Na1
  have Z745 : n0 ≤ h745.size := Nat.le_trans Z734 Ka1.1
  have f746 := f735.keep Ka1 (ninS (Nat.ne_of_lt lt_b559_b714) (ninS (Nat.ne_of_lt lt_b559_axr) (ninS (Nat.ne_of_lt lt_b559_axf) (ninS (Nat.ne_of_lt lt_b559_axt) (ninS (Nat.ne_of_lt lt_b559_axw) (ninS (Nat.ne_of_lt lt_b559_ayr) (ninS (Nat.ne_of_lt lt_b559_ayf) (ninS (Nat.ne_of_lt lt_b559_ayt) (ninS (Nat.ne_of_lt lt_b559_ayw) nin0)))))))))
  have f747 := f736.keep Ka1 (ninS (Nat.ne_of_lt lt_b567_b714) (ninS (Nat.ne_of_lt lt_b567_axr) (ninS (Nat.ne_of_lt lt_b567_axf) (ninS (Nat.ne_of_lt lt_b567_axt) (ninS (Nat.ne_of_lt lt_b567_axw) (ninS (Nat.ne_of_lt lt_b567_ayr) (ninS (Nat.ne_of_lt lt_b567_ayf) (ninS (Nat.ne_of_lt lt_b567_ayt) (ninS (Nat.ne_of_lt lt_b567_ayw) nin0)))))))))
  have f748 := f737.keep Ka1 (ninS (Nat.ne_of_lt lt_b579_b714) (ninS (Nat.ne_of_lt lt_b579_axr) (ninS (Nat.ne_of_lt lt_b579_axf) (ninS (Nat.ne_of_lt lt_b579_axt) (ninS (Nat.ne_of_lt lt_b579_axw) (ninS (Nat.ne_of_lt lt_b579_ayr) (ninS (Nat.ne_of_lt lt_b579_ayf) (ninS (Nat.ne_of_lt lt_b579_ayt) (ninS (Nat.ne_of_lt lt_b579_ayw) nin0)))))))))
  have f749 := f738.keep Ka1
  have f750 := f739.keep Ka1 (ninS (Nat.ne_of_lt lt_b603_b714) (ninS (Nat.ne_of_lt lt_b603_axr) (ninS (Nat.ne_of_lt lt_b603_axf) (ninS (Nat.ne_of_lt lt_b603_axt) (ninS (Nat.ne_of_lt lt_b603_axw) (ninS (Nat.ne_of_lt lt_b603_ayr) (ninS (Nat.ne_of_lt lt_b603_ayf) (ninS (Nat.ne_of_lt lt_b603_ayt) (ninS (Nat.ne_of_lt lt_b603_ayw) nin0)))))))))
  have f751 := f740.keep Ka1
  have f752 := f741.keep Ka1
  have f753 := f742.keep Ka1
  have f754 := f743.keep Ka1
  refine own_go st744 ?_
  show own_End p e below s _ _ _ (T744.setTop (mkF m 241 #[.val (.long p1), .second, .val (.long p2), .second, .val (.long p3), .second, .val (.long p4), .second, .val (.int p5), .val (.long p6), .second, .val (.long ve557), .second, .val (.long vf558), .second, .val (.ref b559), .val (.ref b567), .val (.ref b579), .val (.ref b603), .val (.ref b637), .val (.ref b671), .val (.int xf709), .val (.int rw710), .val (.int yf711), .val (.int wd712), .val (.int bl713), .val (.ref b714), .unset, .unset, .unset, .unset, .unset, .unset] []))
  rw [show ((0 : Int32) + (1 : Int32)) = (1 : Int32) by decide] at f1_count
  rw [hcx, Int32.zero_add] at f1_xPlaces
  refine own_go (fun t k => XS.aload X744.here hx rfl (hb hby at_241) rfl rfl k) ?_
  show own_End p e below s _ _ _ (T744.setTop (mkF m 243 #[.val (.long p1), .second, .val (.long p2), .second, .val (.long p3), .second, .val (.long p4), .second, .val (.int p5), .val (.long p6), .second, .val (.long ve557), .second, .val (.long vf558), .second, .val (.ref b559), .val (.ref b567), .val (.ref b579), .val (.ref b603), .val (.ref b637), .val (.ref b671), .val (.int xf709), .val (.int rw710), .val (.int yf711), .val (.int wd712), .val (.int bl713), .val (.ref b714), .unset, .unset, .unset, .unset, .unset, .unset] [(.ref b714)]))
  refine own_go (fun t k => XS.aload X744.here hx rfl (hb hby at_243) rfl rfl k) ?_
  show own_End p e below s _ _ _ (T744.setTop (mkF m 245 #[.val (.long p1), .second, .val (.long p2), .second, .val (.long p3), .second, .val (.long p4), .second, .val (.int p5), .val (.long p6), .second, .val (.long ve557), .second, .val (.long vf558), .second, .val (.ref b559), .val (.ref b567), .val (.ref b579), .val (.ref b603), .val (.ref b637), .val (.ref b671), .val (.int xf709), .val (.int rw710), .val (.int yf711), .val (.int wd712), .val (.int bl713), .val (.ref b714), .unset, .unset, .unset, .unset, .unset, .unset] [(.ref b671), (.ref b714)]))
  refine own_go (fun t k => XS.aload X744.here hx rfl (hb hby at_245) rfl rfl k) ?_
  show own_End p e below s _ _ _ (T744.setTop (mkF m 247 #[.val (.long p1), .second, .val (.long p2), .second, .val (.long p3), .second, .val (.long p4), .second, .val (.int p5), .val (.long p6), .second, .val (.long ve557), .second, .val (.long vf558), .second, .val (.ref b559), .val (.ref b567), .val (.ref b579), .val (.ref b603), .val (.ref b637), .val (.ref b671), .val (.int xf709), .val (.int rw710), .val (.int yf711), .val (.int wd712), .val (.int bl713), .val (.ref b714), .unset, .unset, .unset, .unset, .unset, .unset] [(.ref b603), (.ref b671), (.ref b714)]))
  refine own_go (fun t k => XS.iload X744.here hx rfl (hb hby at_247) rfl k) ?_
  show own_End p e below s _ _ _ (T744.setTop (mkF m 249 #[.val (.long p1), .second, .val (.long p2), .second, .val (.long p3), .second, .val (.long p4), .second, .val (.int p5), .val (.long p6), .second, .val (.long ve557), .second, .val (.long vf558), .second, .val (.ref b559), .val (.ref b567), .val (.ref b579), .val (.ref b603), .val (.ref b637), .val (.ref b671), .val (.int xf709), .val (.int rw710), .val (.int yf711), .val (.int wd712), .val (.int bl713), .val (.ref b714), .unset, .unset, .unset, .unset, .unset, .unset] [(.int yf711), (.ref b603), (.ref b671), (.ref b714)]))
  refine own_go (fun t k => XS.iload X744.here hx rfl (hb hby at_249) rfl k) ?_
  show own_End p e below s _ _ _ (T744.setTop (mkF m 251 #[.val (.long p1), .second, .val (.long p2), .second, .val (.long p3), .second, .val (.long p4), .second, .val (.int p5), .val (.long p6), .second, .val (.long ve557), .second, .val (.long vf558), .second, .val (.ref b559), .val (.ref b567), .val (.ref b579), .val (.ref b603), .val (.ref b637), .val (.ref b671), .val (.int xf709), .val (.int rw710), .val (.int yf711), .val (.int wd712), .val (.int bl713), .val (.ref b714), .unset, .unset, .unset, .unset, .unset, .unset] [(.int yf711), (.int yf711), (.ref b603), (.ref b671), (.ref b714)]))
  refine own_go (fun t k => XS.iload X744.here hx rfl (hb hby at_251) rfl k) ?_
  show own_End p e below s _ _ _ (T744.setTop (mkF m 253 #[.val (.long p1), .second, .val (.long p2), .second, .val (.long p3), .second, .val (.long p4), .second, .val (.int p5), .val (.long p6), .second, .val (.long ve557), .second, .val (.long vf558), .second, .val (.ref b559), .val (.ref b567), .val (.ref b579), .val (.ref b603), .val (.ref b637), .val (.ref b671), .val (.int xf709), .val (.int rw710), .val (.int yf711), .val (.int wd712), .val (.int bl713), .val (.ref b714), .unset, .unset, .unset, .unset, .unset, .unset] [(.int wd712), (.int yf711), (.int yf711), (.ref b603), (.ref b671), (.ref b714)]))
  refine own_go (fun t k => XS.iadd X744.here hx rfl (hb hby at_253) rfl k) ?_
  show own_End p e below s _ _ _ (T744.setTop (mkF m 254 #[.val (.long p1), .second, .val (.long p2), .second, .val (.long p3), .second, .val (.long p4), .second, .val (.int p5), .val (.long p6), .second, .val (.long ve557), .second, .val (.long vf558), .second, .val (.ref b559), .val (.ref b567), .val (.ref b579), .val (.ref b603), .val (.ref b637), .val (.ref b671), .val (.int xf709), .val (.int rw710), .val (.int yf711), .val (.int wd712), .val (.int bl713), .val (.ref b714), .unset, .unset, .unset, .unset, .unset, .unset] [(.int (yf711 + wd712)), (.int yf711), (.ref b603), (.ref b671), (.ref b714)]))
  refine own_go (fun t k => XS.aload X744.here hx rfl (hb hby at_254) rfl rfl k) ?_
  show own_End p e below s _ _ _ (T744.setTop (mkF m 256 #[.val (.long p1), .second, .val (.long p2), .second, .val (.long p3), .second, .val (.long p4), .second, .val (.int p5), .val (.long p6), .second, .val (.long ve557), .second, .val (.long vf558), .second, .val (.ref b559), .val (.ref b567), .val (.ref b579), .val (.ref b603), .val (.ref b637), .val (.ref b671), .val (.int xf709), .val (.int rw710), .val (.int yf711), .val (.int wd712), .val (.int bl713), .val (.ref b714), .unset, .unset, .unset, .unset, .unset, .unset] [(.ref b637), (.int (yf711 + wd712)), (.int yf711), (.ref b603), (.ref b671), (.ref b714)]))
  refine own_go (fun t k => XS.aload X744.here hx rfl (hb hby at_256) rfl rfl k) ?_
  show own_End p e below s _ _ _ (T744.setTop (mkF m 258 #[.val (.long p1), .second, .val (.long p2), .second, .val (.long p3), .second, .val (.long p4), .second, .val (.int p5), .val (.long p6), .second, .val (.long ve557), .second, .val (.long vf558), .second, .val (.ref b559), .val (.ref b567), .val (.ref b579), .val (.ref b603), .val (.ref b637), .val (.ref b671), .val (.int xf709), .val (.int rw710), .val (.int yf711), .val (.int wd712), .val (.int bl713), .val (.ref b714), .unset, .unset, .unset, .unset, .unset, .unset] [(.ref b579), (.ref b637), (.int (yf711 + wd712)), (.int yf711), (.ref b603), (.ref b671), (.ref b714)]))
  refine own_go (fun t k => XS.iload X744.here hx rfl (hb hby at_258) rfl k) ?_
  show own_End p e below s _ _ _ (T744.setTop (mkF m 260 #[.val (.long p1), .second, .val (.long p2), .second, .val (.long p3), .second, .val (.long p4), .second, .val (.int p5), .val (.long p6), .second, .val (.long ve557), .second, .val (.long vf558), .second, .val (.ref b559), .val (.ref b567), .val (.ref b579), .val (.ref b603), .val (.ref b637), .val (.ref b671), .val (.int xf709), .val (.int rw710), .val (.int yf711), .val (.int wd712), .val (.int bl713), .val (.ref b714), .unset, .unset, .unset, .unset, .unset, .unset] [(.int xf709), (.ref b579), (.ref b637), (.int (yf711 + wd712)), (.int yf711), (.ref b603), (.ref b671), (.ref b714)]))
  refine own_go (fun t k => XS.iload X744.here hx rfl (hb hby at_260) rfl k) ?_
  show own_End p e below s _ _ _ (T744.setTop (mkF m 262 #[.val (.long p1), .second, .val (.long p2), .second, .val (.long p3), .second, .val (.long p4), .second, .val (.int p5), .val (.long p6), .second, .val (.long ve557), .second, .val (.long vf558), .second, .val (.ref b559), .val (.ref b567), .val (.ref b579), .val (.ref b603), .val (.ref b637), .val (.ref b671), .val (.int xf709), .val (.int rw710), .val (.int yf711), .val (.int wd712), .val (.int bl713), .val (.ref b714), .unset, .unset, .unset, .unset, .unset, .unset] [(.int xf709), (.int xf709), (.ref b579), (.ref b637), (.int (yf711 + wd712)), (.int yf711), (.ref b603), (.ref b671), (.ref b714)]))
  refine own_go (fun t k => XS.iload X744.here hx rfl (hb hby at_262) rfl k) ?_
  show own_End p e below s _ _ _ (T744.setTop (mkF m 264 #[.val (.long p1), .second, .val (.long p2), .second, .val (.long p3), .second, .val (.long p4), .second, .val (.int p5), .val (.long p6), .second, .val (.long ve557), .second, .val (.long vf558), .second, .val (.ref b559), .val (.ref b567), .val (.ref b579), .val (.ref b603), .val (.ref b637), .val (.ref b671), .val (.int xf709), .val (.int rw710), .val (.int yf711), .val (.int wd712), .val (.int bl713), .val (.ref b714), .unset, .unset, .unset, .unset, .unset, .unset] [(.int rw710), (.int xf709), (.int xf709), (.ref b579), (.ref b637), (.int (yf711 + wd712)), (.int yf711), (.ref b603), (.ref b671), (.ref b714)]))
  refine own_go (fun t k => XS.iadd X744.here hx rfl (hb hby at_264) rfl k) ?_
  show own_End p e below s _ _ _ (T744.setTop (mkF m 265 #[.val (.long p1), .second, .val (.long p2), .second, .val (.long p3), .second, .val (.long p4), .second, .val (.int p5), .val (.long p6), .second, .val (.long ve557), .second, .val (.long vf558), .second, .val (.ref b559), .val (.ref b567), .val (.ref b579), .val (.ref b603), .val (.ref b637), .val (.ref b671), .val (.int xf709), .val (.int rw710), .val (.int yf711), .val (.int wd712), .val (.int bl713), .val (.ref b714), .unset, .unset, .unset, .unset, .unset, .unset] [(.int (xf709 + rw710)), (.int xf709), (.ref b579), (.ref b637), (.int (yf711 + wd712)), (.int yf711), (.ref b603), (.ref b671), (.ref b714)]))
  have hsp : (rw710 + wd712).toInt = rw710.toInt + wd712.toInt := own_addI (by omega) (by omega)
  obtain ⟨v755, T755, L755, X755, hQ755, st755⟩ := own_callV X744 hx hZ (C := "com/example/ordinate/ordinate/core/PairBlocks") (y := (⟨"com/example/ordinate/ordinate/core/PairBlocks", "add", "([I[JII[I[JII)V"⟩ : MethodName)) 0 hown (hw _ (List.mem_of_getElem? (i := 32) rfl)) (hw _ (List.mem_of_getElem? (i := 33) rfl)) (hw _ (List.mem_of_getElem? (i := 35) rfl)) (hw _ (List.mem_of_getElem? (i := 34) rfl)) (hw _ (List.mem_of_getElem? (i := 5) rfl)) (hw _ (List.mem_of_getElem? (i := 36) rfl)) (by decide) (rm3 l Z a0 hw [] b714 b671 b603 yf711 (yf711 + wd712) b637 b579 xf709 (xf709 + rw710) h745 n0 Z745 axr axf axt axw ayr ayf ayt ayw kaxr kaxf kaxt kaxw kayr kayf kayt kayw _ _ _ _ _ _ _ _ 1 rw710 hord nb714 f754 F1_axr F1_axf F1_axt F1_axw F1_ayr F1_ayf F1_ayt F1_ayw f1_xRuns f1_xFroms f1_xTos f1_xWeights f1_yRuns f1_yFroms f1_yTos f1_yWeights f1_count f1_xPlaces Oaxr Oaxw Oayr Oayw f753 f751 f752 f749 1 (by decide) (by decide) (by omega) (by rw [hcy, hsp]; omega)) e745 f754 (pc := 265) (Ls := #[.val (.long p1), .second, .val (.long p2), .second, .val (.long p3), .second, .val (.long p4), .second, .val (.int p5), .val (.long p6), .second, .val (.long ve557), .second, .val (.long vf558), .second, .val (.ref b559), .val (.ref b567), .val (.ref b579), .val (.ref b603), .val (.ref b637), .val (.ref b671), .val (.int xf709), .val (.int rw710), .val (.int yf711), .val (.int wd712), .val (.int bl713), .val (.ref b714), .unset, .unset, .unset, .unset, .unset, .unset]) [(.ref b671), (.ref b603), (.int yf711), (.int (yf711 + wd712)), (.ref b637), (.ref b579), (.int xf709), (.int (xf709 + rw710))] [] (by rw [hml]; rfl) rfl rfl (lenOf pd_aIaJIIaIaJII_V rfl) (Nat.le_of_eq rfl) (hb hby at_265) (by decide) (by decide) (by decide) (by decide)
  obtain ⟨h756, e756⟩ : ∃ z, T755.heap = z := ⟨_, rfl⟩
  rw [e756] at hQ755
  obtain ⟨rfl, Na2, Ka2, F2_axr, F2_axf, F2_axt, F2_axw, F2_ayr, F2_ayf, F2_ayt, F2_ayw, f2_xRuns, f2_xFroms, f2_xTos, f2_xWeights, f2_yRuns, f2_yFroms, f2_yTos, f2_yWeights, f2_count, f2_xPlaces⟩ := hQ755
  have N_a2 := Fr.app N_a1 Na2
  have Z756 : n0 ≤ h756.size := Nat.le_trans Z745 Ka2.1
  have f757 := f746.keep Ka2 (ninS (Nat.ne_of_lt lt_b559_b714) (ninS (Nat.ne_of_lt lt_b559_axr) (ninS (Nat.ne_of_lt lt_b559_axf) (ninS (Nat.ne_of_lt lt_b559_axt) (ninS (Nat.ne_of_lt lt_b559_axw) (ninS (Nat.ne_of_lt lt_b559_ayr) (ninS (Nat.ne_of_lt lt_b559_ayf) (ninS (Nat.ne_of_lt lt_b559_ayt) (ninS (Nat.ne_of_lt lt_b559_ayw) nin0)))))))))
  have f758 := f747.keep Ka2 (ninS (Nat.ne_of_lt lt_b567_b714) (ninS (Nat.ne_of_lt lt_b567_axr) (ninS (Nat.ne_of_lt lt_b567_axf) (ninS (Nat.ne_of_lt lt_b567_axt) (ninS (Nat.ne_of_lt lt_b567_axw) (ninS (Nat.ne_of_lt lt_b567_ayr) (ninS (Nat.ne_of_lt lt_b567_ayf) (ninS (Nat.ne_of_lt lt_b567_ayt) (ninS (Nat.ne_of_lt lt_b567_ayw) nin0)))))))))
  have f759 := f748.keep Ka2 (ninS (Nat.ne_of_lt lt_b579_b714) (ninS (Nat.ne_of_lt lt_b579_axr) (ninS (Nat.ne_of_lt lt_b579_axf) (ninS (Nat.ne_of_lt lt_b579_axt) (ninS (Nat.ne_of_lt lt_b579_axw) (ninS (Nat.ne_of_lt lt_b579_ayr) (ninS (Nat.ne_of_lt lt_b579_ayf) (ninS (Nat.ne_of_lt lt_b579_ayt) (ninS (Nat.ne_of_lt lt_b579_ayw) nin0)))))))))
  have f760 := f749.keep Ka2
  have f761 := f750.keep Ka2 (ninS (Nat.ne_of_lt lt_b603_b714) (ninS (Nat.ne_of_lt lt_b603_axr) (ninS (Nat.ne_of_lt lt_b603_axf) (ninS (Nat.ne_of_lt lt_b603_axt) (ninS (Nat.ne_of_lt lt_b603_axw) (ninS (Nat.ne_of_lt lt_b603_ayr) (ninS (Nat.ne_of_lt lt_b603_ayf) (ninS (Nat.ne_of_lt lt_b603_ayt) (ninS (Nat.ne_of_lt lt_b603_ayw) nin0)))))))))
  have f762 := f751.keep Ka2
  have f763 := f752.keep Ka2
  have f764 := f753.keep Ka2
  have f765 := f754.keep Ka2
  refine own_go st755 ?_
  show own_End p e below s _ _ _ (T755.setTop (mkF m 268 #[.val (.long p1), .second, .val (.long p2), .second, .val (.long p3), .second, .val (.long p4), .second, .val (.int p5), .val (.long p6), .second, .val (.long ve557), .second, .val (.long vf558), .second, .val (.ref b559), .val (.ref b567), .val (.ref b579), .val (.ref b603), .val (.ref b637), .val (.ref b671), .val (.int xf709), .val (.int rw710), .val (.int yf711), .val (.int wd712), .val (.int bl713), .val (.ref b714), .unset, .unset, .unset, .unset, .unset, .unset] []))
  refine own_go (fun t k => XS.iload X755.here hx rfl (hb hby at_268) rfl k) ?_
  show own_End p e below s _ _ _ (T755.setTop (mkF m 270 #[.val (.long p1), .second, .val (.long p2), .second, .val (.long p3), .second, .val (.long p4), .second, .val (.int p5), .val (.long p6), .second, .val (.long ve557), .second, .val (.long vf558), .second, .val (.ref b559), .val (.ref b567), .val (.ref b579), .val (.ref b603), .val (.ref b637), .val (.ref b671), .val (.int xf709), .val (.int rw710), .val (.int yf711), .val (.int wd712), .val (.int bl713), .val (.ref b714), .unset, .unset, .unset, .unset, .unset, .unset] [(.int rw710)]))
  refine own_go (fun t k => XT.i2l X755.here hx rfl (hb hby at_270) rfl k) ?_
  show own_End p e below s _ _ _ (T755.setTop (mkF m 271 #[.val (.long p1), .second, .val (.long p2), .second, .val (.long p3), .second, .val (.long p4), .second, .val (.int p5), .val (.long p6), .second, .val (.long ve557), .second, .val (.long vf558), .second, .val (.ref b559), .val (.ref b567), .val (.ref b579), .val (.ref b603), .val (.ref b637), .val (.ref b671), .val (.int xf709), .val (.int rw710), .val (.int yf711), .val (.int wd712), .val (.int bl713), .val (.ref b714), .unset, .unset, .unset, .unset, .unset, .unset] [(.long (rw710.toInt64))]))
  refine own_go (fun t k => XS.iload X755.here hx rfl (hb hby at_271) rfl k) ?_
  show own_End p e below s _ _ _ (T755.setTop (mkF m 273 #[.val (.long p1), .second, .val (.long p2), .second, .val (.long p3), .second, .val (.long p4), .second, .val (.int p5), .val (.long p6), .second, .val (.long ve557), .second, .val (.long vf558), .second, .val (.ref b559), .val (.ref b567), .val (.ref b579), .val (.ref b603), .val (.ref b637), .val (.ref b671), .val (.int xf709), .val (.int rw710), .val (.int yf711), .val (.int wd712), .val (.int bl713), .val (.ref b714), .unset, .unset, .unset, .unset, .unset, .unset] [(.int wd712), (.long (rw710.toInt64))]))
  refine own_go (fun t k => XT.i2l X755.here hx rfl (hb hby at_273) rfl k) ?_
  show own_End p e below s _ _ _ (T755.setTop (mkF m 274 #[.val (.long p1), .second, .val (.long p2), .second, .val (.long p3), .second, .val (.long p4), .second, .val (.int p5), .val (.long p6), .second, .val (.long ve557), .second, .val (.long vf558), .second, .val (.ref b559), .val (.ref b567), .val (.ref b579), .val (.ref b603), .val (.ref b637), .val (.ref b671), .val (.int xf709), .val (.int rw710), .val (.int yf711), .val (.int wd712), .val (.int bl713), .val (.ref b714), .unset, .unset, .unset, .unset, .unset, .unset] [(.long (wd712.toInt64)), (.long (rw710.toInt64))]))
  refine own_go (fun t k => XT.lmul X755.here hx rfl (hb hby at_274) rfl k) ?_
  show own_End p e below s _ _ _ (T755.setTop (mkF m 275 #[.val (.long p1), .second, .val (.long p2), .second, .val (.long p3), .second, .val (.long p4), .second, .val (.int p5), .val (.long p6), .second, .val (.long ve557), .second, .val (.long vf558), .second, .val (.ref b559), .val (.ref b567), .val (.ref b579), .val (.ref b603), .val (.ref b637), .val (.ref b671), .val (.int xf709), .val (.int rw710), .val (.int yf711), .val (.int wd712), .val (.int bl713), .val (.ref b714), .unset, .unset, .unset, .unset, .unset, .unset] [(.long ((rw710.toInt64) * (wd712.toInt64)))]))
  obtain ⟨nn766, qnn766⟩ : ∃ z : Int64, z = ((rw710.toInt64) * (wd712.toInt64)) := ⟨_, rfl⟩
  rw [← qnn766]
  show own_End p e below s _ _ _ (T755.setTop (mkF m 275 #[.val (.long p1), .second, .val (.long p2), .second, .val (.long p3), .second, .val (.long p4), .second, .val (.int p5), .val (.long p6), .second, .val (.long ve557), .second, .val (.long vf558), .second, .val (.ref b559), .val (.ref b567), .val (.ref b579), .val (.ref b603), .val (.ref b637), .val (.ref b671), .val (.int xf709), .val (.int rw710), .val (.int yf711), .val (.int wd712), .val (.int bl713), .val (.ref b714), .unset, .unset, .unset, .unset, .unset, .unset] [(.long nn766)]))
  have hnn : nn766.toInt = rw710.toInt * wd712.toInt := by rw [qnn766]; exact own_prod (by omega) (by omega) (by omega) (by omega)
  have hnn1 : 1 ≤ nn766.toInt := by rw [hnn]; exact Int.mul_le_mul (by omega : (1 : Int) ≤ _) (by omega : (1 : Int) ≤ _) (by omega) (by omega)
  refine own_go (fun t k => XT.lstore X755.here hx rfl (hb hby at_275) rfl (l' := #[.val (.long p1), .second, .val (.long p2), .second, .val (.long p3), .second, .val (.long p4), .second, .val (.int p5), .val (.long p6), .second, .val (.long ve557), .second, .val (.long vf558), .second, .val (.ref b559), .val (.ref b567), .val (.ref b579), .val (.ref b603), .val (.ref b637), .val (.ref b671), .val (.int xf709), .val (.int rw710), .val (.int yf711), .val (.int wd712), .val (.int bl713), .val (.ref b714), .val (.long nn766), .second, .unset, .unset, .unset, .unset]) rfl k) ?_
  show own_End p e below s _ _ _ (T755.setTop (mkF m 277 #[.val (.long p1), .second, .val (.long p2), .second, .val (.long p3), .second, .val (.long p4), .second, .val (.int p5), .val (.long p6), .second, .val (.long ve557), .second, .val (.long vf558), .second, .val (.ref b559), .val (.ref b567), .val (.ref b579), .val (.ref b603), .val (.ref b637), .val (.ref b671), .val (.int xf709), .val (.int rw710), .val (.int yf711), .val (.int wd712), .val (.int bl713), .val (.ref b714), .val (.long nn766), .second, .unset, .unset, .unset, .unset] []))
  refine own_go (fun t k => XT.lload X755.here hx rfl (hb hby at_277) rfl k) ?_
  show own_End p e below s _ _ _ (T755.setTop (mkF m 279 #[.val (.long p1), .second, .val (.long p2), .second, .val (.long p3), .second, .val (.long p4), .second, .val (.int p5), .val (.long p6), .second, .val (.long ve557), .second, .val (.long vf558), .second, .val (.ref b559), .val (.ref b567), .val (.ref b579), .val (.ref b603), .val (.ref b637), .val (.ref b671), .val (.int xf709), .val (.int rw710), .val (.int yf711), .val (.int wd712), .val (.int bl713), .val (.ref b714), .val (.long nn766), .second, .unset, .unset, .unset, .unset] [(.long p6)]))
  refine own_go (X755.ldc2Long (own := "com/example/ordinate/ordinate/core/PairBlocksWeightOfPinLaw") (index := 16) (v := 9223372036854775807) hx hown (mvT hZ (hw _ (List.mem_of_getElem? (i := 47) rfl))) (g := (mkF m 279 #[.val (.long p1), .second, .val (.long p2), .second, .val (.long p3), .second, .val (.long p4), .second, .val (.int p5), .val (.long p6), .second, .val (.long ve557), .second, .val (.long vf558), .second, .val (.ref b559), .val (.ref b567), .val (.ref b579), .val (.ref b603), .val (.ref b637), .val (.ref b671), .val (.int xf709), .val (.int rw710), .val (.int yf711), .val (.int wd712), .val (.int bl713), .val (.ref b714), .val (.long nn766), .second, .unset, .unset, .unset, .unset] [(.long p6)])) rfl (hb hby at_279)) ?_
  show own_End p e below s _ _ _ (T755.setTop (mkF m 282 #[.val (.long p1), .second, .val (.long p2), .second, .val (.long p3), .second, .val (.long p4), .second, .val (.int p5), .val (.long p6), .second, .val (.long ve557), .second, .val (.long vf558), .second, .val (.ref b559), .val (.ref b567), .val (.ref b579), .val (.ref b603), .val (.ref b637), .val (.ref b671), .val (.int xf709), .val (.int rw710), .val (.int yf711), .val (.int wd712), .val (.int bl713), .val (.ref b714), .val (.long nn766), .second, .unset, .unset, .unset, .unset] [(.long (9223372036854775807 : Int64)), (.long p6)]))
  refine own_go (fun t k => XT.land X755.here hx rfl (hb hby at_282) rfl k) ?_
  show own_End p e below s _ _ _ (T755.setTop (mkF m 283 #[.val (.long p1), .second, .val (.long p2), .second, .val (.long p3), .second, .val (.long p4), .second, .val (.int p5), .val (.long p6), .second, .val (.long ve557), .second, .val (.long vf558), .second, .val (.ref b559), .val (.ref b567), .val (.ref b579), .val (.ref b603), .val (.ref b637), .val (.ref b671), .val (.int xf709), .val (.int rw710), .val (.int yf711), .val (.int wd712), .val (.int bl713), .val (.ref b714), .val (.long nn766), .second, .unset, .unset, .unset, .unset] [(.long (p6 &&& (9223372036854775807 : Int64)))]))
  refine own_go (fun t k => XT.lload X755.here hx rfl (hb hby at_283) rfl k) ?_
  show own_End p e below s _ _ _ (T755.setTop (mkF m 285 #[.val (.long p1), .second, .val (.long p2), .second, .val (.long p3), .second, .val (.long p4), .second, .val (.int p5), .val (.long p6), .second, .val (.long ve557), .second, .val (.long vf558), .second, .val (.ref b559), .val (.ref b567), .val (.ref b579), .val (.ref b603), .val (.ref b637), .val (.ref b671), .val (.int xf709), .val (.int rw710), .val (.int yf711), .val (.int wd712), .val (.int bl713), .val (.ref b714), .val (.long nn766), .second, .unset, .unset, .unset, .unset] [(.long nn766), (.long (p6 &&& (9223372036854775807 : Int64)))]))
  refine own_go (fun t k => XT.lrem X755.here hx rfl (hb hby at_285) rfl (fun z => by have := congrArg Int64.toInt z; have e0 : (0 : Int64).toInt = 0 := (by decide); omega) k) ?_
  show own_End p e below s _ _ _ (T755.setTop (mkF m 286 #[.val (.long p1), .second, .val (.long p2), .second, .val (.long p3), .second, .val (.long p4), .second, .val (.int p5), .val (.long p6), .second, .val (.long ve557), .second, .val (.long vf558), .second, .val (.ref b559), .val (.ref b567), .val (.ref b579), .val (.ref b603), .val (.ref b637), .val (.ref b671), .val (.int xf709), .val (.int rw710), .val (.int yf711), .val (.int wd712), .val (.int bl713), .val (.ref b714), .val (.long nn766), .second, .unset, .unset, .unset, .unset] [(.long ((p6 &&& (9223372036854775807 : Int64)) - ((p6 &&& (9223372036854775807 : Int64)) / nn766) * nn766))]))
  obtain ⟨ii767, qii767⟩ : ∃ z : Int64, z = ((p6 &&& (9223372036854775807 : Int64)) - ((p6 &&& (9223372036854775807 : Int64)) / nn766) * nn766) := ⟨_, rfl⟩
  rw [← qii767]
  show own_End p e below s _ _ _ (T755.setTop (mkF m 286 #[.val (.long p1), .second, .val (.long p2), .second, .val (.long p3), .second, .val (.long p4), .second, .val (.int p5), .val (.long p6), .second, .val (.long ve557), .second, .val (.long vf558), .second, .val (.ref b559), .val (.ref b567), .val (.ref b579), .val (.ref b603), .val (.ref b637), .val (.ref b671), .val (.int xf709), .val (.int rw710), .val (.int yf711), .val (.int wd712), .val (.int bl713), .val (.ref b714), .val (.long nn766), .second, .unset, .unset, .unset, .unset] [(.long ii767)]))
  have rii : 0 ≤ ii767.toInt ∧ ii767.toInt < rw710.toInt * wd712.toInt := by
    have h1 := c_maskL p6 9223372036854775807 63 (by decide) (by decide)
    have h2 := (c_lrem (p6 &&& 9223372036854775807) nn766 _ rfl).1 (by omega)
    rw [qii767, h2, ← hnn]
    exact ⟨Int.emod_nonneg _ (by omega), Int.emod_lt_of_pos _ (by omega)⟩
  have hzw : wd712.toInt64 ≠ 0 := fun z => by have := congrArg Int64.toInt z; rw [c_i2l] at this; have e0 : (0 : Int64).toInt = 0 := (by decide); omega
  have hzr : rw710.toInt64 ≠ 0 := fun z => by have := congrArg Int64.toInt z; rw [c_i2l] at this; have e0 : (0 : Int64).toInt = 0 := (by decide); omega
  refine own_go (fun t k => XT.lstore X755.here hx rfl (hb hby at_286) rfl (l' := #[.val (.long p1), .second, .val (.long p2), .second, .val (.long p3), .second, .val (.long p4), .second, .val (.int p5), .val (.long p6), .second, .val (.long ve557), .second, .val (.long vf558), .second, .val (.ref b559), .val (.ref b567), .val (.ref b579), .val (.ref b603), .val (.ref b637), .val (.ref b671), .val (.int xf709), .val (.int rw710), .val (.int yf711), .val (.int wd712), .val (.int bl713), .val (.ref b714), .val (.long nn766), .second, .val (.long ii767), .second, .unset, .unset]) rfl k) ?_
  show own_End p e below s _ _ _ (T755.setTop (mkF m 288 #[.val (.long p1), .second, .val (.long p2), .second, .val (.long p3), .second, .val (.long p4), .second, .val (.int p5), .val (.long p6), .second, .val (.long ve557), .second, .val (.long vf558), .second, .val (.ref b559), .val (.ref b567), .val (.ref b579), .val (.ref b603), .val (.ref b637), .val (.ref b671), .val (.int xf709), .val (.int rw710), .val (.int yf711), .val (.int wd712), .val (.int bl713), .val (.ref b714), .val (.long nn766), .second, .val (.long ii767), .second, .unset, .unset] []))
  refine own_go (fun t k => XS.iload X755.here hx rfl (hb hby at_288) rfl k) ?_
  show own_End p e below s _ _ _ (T755.setTop (mkF m 290 #[.val (.long p1), .second, .val (.long p2), .second, .val (.long p3), .second, .val (.long p4), .second, .val (.int p5), .val (.long p6), .second, .val (.long ve557), .second, .val (.long vf558), .second, .val (.ref b559), .val (.ref b567), .val (.ref b579), .val (.ref b603), .val (.ref b637), .val (.ref b671), .val (.int xf709), .val (.int rw710), .val (.int yf711), .val (.int wd712), .val (.int bl713), .val (.ref b714), .val (.long nn766), .second, .val (.long ii767), .second, .unset, .unset] [(.int bl713)]))
  by_cases qb : ¬ bl713.toInt = 0
  ·
    refine own_go (fun t k => XS.ifYes X755.here hx rfl (pc0 := 290) (pc' := 325) rfl (hb hby at_290) rfl (own_0 (own_neY (k := 0) rfl qb)) (by decide) (by decide) k) ?_
    show own_End p e below s _ _ _ (T755.setTop (mkF m 325 #[.val (.long p1), .second, .val (.long p2), .second, .val (.long p3), .second, .val (.long p4), .second, .val (.int p5), .val (.long p6), .second, .val (.long ve557), .second, .val (.long vf558), .second, .val (.ref b559), .val (.ref b567), .val (.ref b579), .val (.ref b603), .val (.ref b637), .val (.ref b671), .val (.int xf709), .val (.int rw710), .val (.int yf711), .val (.int wd712), .val (.int bl713), .val (.ref b714), .val (.long nn766), .second, .val (.long ii767), .second, .unset, .unset] []))
    have hb1 : bl713.toInt = 1 := by omega
    obtain ⟨q, o, hq, hq1, ho, ho1⟩ := own_rc (i := ii767) (r := wd712) (w := rw710) (by omega) (by omega) (by omega) (by omega) (by omega) (by rw [Int.mul_comm]; exact rii.2)
    obtain ⟨nx, hnx'⟩ : ∃ z : Nat, z = yf711.toInt + q := ⟨(yf711.toInt + q).toNat, by omega⟩
    obtain ⟨ny, hny'⟩ : ∃ z : Nat, z = xf709.toInt + o := ⟨(xf709.toInt + o).toNat, by omega⟩
    have hnx : (yf711 + (ii767 / rw710.toInt64).toInt32).toInt = nx := by rw [own_addI (by omega) (by omega)]; omega
    have hny : (xf709 + (ii767 - (ii767 / rw710.toInt64) * rw710.toInt64).toInt32).toInt = ny := by rw [own_addI (by omega) (by omega)]; omega
    have hnx1 : ((yf711 + (ii767 / rw710.toInt64).toInt32) + (1 : Int32)).toInt = ((nx + 1 : Nat) : Int) := by rw [own_addI (by omega) (by omega)]; omega
    have hny1 : ((xf709 + (ii767 - (ii767 / rw710.toInt64) * rw710.toInt64).toInt32) + (1 : Int32)).toInt = ((ny + 1 : Nat) : Int) := by rw [own_addI (by omega) (by omega)]; omega
    refine own_go (fun t k => XS.aload X755.here hx rfl (hb hby at_325) rfl rfl k) ?_
    show own_End p e below s _ _ _ (T755.setTop (mkF m 327 #[.val (.long p1), .second, .val (.long p2), .second, .val (.long p3), .second, .val (.long p4), .second, .val (.int p5), .val (.long p6), .second, .val (.long ve557), .second, .val (.long vf558), .second, .val (.ref b559), .val (.ref b567), .val (.ref b579), .val (.ref b603), .val (.ref b637), .val (.ref b671), .val (.int xf709), .val (.int rw710), .val (.int yf711), .val (.int wd712), .val (.int bl713), .val (.ref b714), .val (.long nn766), .second, .val (.long ii767), .second, .unset, .unset] [(.ref b567)]))
    refine own_go (fun t k => XS.iload X755.here hx rfl (hb hby at_327) rfl k) ?_
    show own_End p e below s _ _ _ (T755.setTop (mkF m 329 #[.val (.long p1), .second, .val (.long p2), .second, .val (.long p3), .second, .val (.long p4), .second, .val (.int p5), .val (.long p6), .second, .val (.long ve557), .second, .val (.long vf558), .second, .val (.ref b559), .val (.ref b567), .val (.ref b579), .val (.ref b603), .val (.ref b637), .val (.ref b671), .val (.int xf709), .val (.int rw710), .val (.int yf711), .val (.int wd712), .val (.int bl713), .val (.ref b714), .val (.long nn766), .second, .val (.long ii767), .second, .unset, .unset] [(.int yf711), (.ref b567)]))
    refine own_go (fun t k => XT.lload X755.here hx rfl (hb hby at_329) rfl k) ?_
    show own_End p e below s _ _ _ (T755.setTop (mkF m 331 #[.val (.long p1), .second, .val (.long p2), .second, .val (.long p3), .second, .val (.long p4), .second, .val (.int p5), .val (.long p6), .second, .val (.long ve557), .second, .val (.long vf558), .second, .val (.ref b559), .val (.ref b567), .val (.ref b579), .val (.ref b603), .val (.ref b637), .val (.ref b671), .val (.int xf709), .val (.int rw710), .val (.int yf711), .val (.int wd712), .val (.int bl713), .val (.ref b714), .val (.long nn766), .second, .val (.long ii767), .second, .unset, .unset] [(.long ii767), (.int yf711), (.ref b567)]))
    refine own_go (fun t k => XS.iload X755.here hx rfl (hb hby at_331) rfl k) ?_
    show own_End p e below s _ _ _ (T755.setTop (mkF m 333 #[.val (.long p1), .second, .val (.long p2), .second, .val (.long p3), .second, .val (.long p4), .second, .val (.int p5), .val (.long p6), .second, .val (.long ve557), .second, .val (.long vf558), .second, .val (.ref b559), .val (.ref b567), .val (.ref b579), .val (.ref b603), .val (.ref b637), .val (.ref b671), .val (.int xf709), .val (.int rw710), .val (.int yf711), .val (.int wd712), .val (.int bl713), .val (.ref b714), .val (.long nn766), .second, .val (.long ii767), .second, .unset, .unset] [(.int rw710), (.long ii767), (.int yf711), (.ref b567)]))
    refine own_go (fun t k => XT.i2l X755.here hx rfl (hb hby at_333) rfl k) ?_
    show own_End p e below s _ _ _ (T755.setTop (mkF m 334 #[.val (.long p1), .second, .val (.long p2), .second, .val (.long p3), .second, .val (.long p4), .second, .val (.int p5), .val (.long p6), .second, .val (.long ve557), .second, .val (.long vf558), .second, .val (.ref b559), .val (.ref b567), .val (.ref b579), .val (.ref b603), .val (.ref b637), .val (.ref b671), .val (.int xf709), .val (.int rw710), .val (.int yf711), .val (.int wd712), .val (.int bl713), .val (.ref b714), .val (.long nn766), .second, .val (.long ii767), .second, .unset, .unset] [(.long (rw710.toInt64)), (.long ii767), (.int yf711), (.ref b567)]))
    refine own_go (fun t k => XT.ldiv X755.here hx rfl (hb hby at_334) rfl hzr k) ?_
    show own_End p e below s _ _ _ (T755.setTop (mkF m 335 #[.val (.long p1), .second, .val (.long p2), .second, .val (.long p3), .second, .val (.long p4), .second, .val (.int p5), .val (.long p6), .second, .val (.long ve557), .second, .val (.long vf558), .second, .val (.ref b559), .val (.ref b567), .val (.ref b579), .val (.ref b603), .val (.ref b637), .val (.ref b671), .val (.int xf709), .val (.int rw710), .val (.int yf711), .val (.int wd712), .val (.int bl713), .val (.ref b714), .val (.long nn766), .second, .val (.long ii767), .second, .unset, .unset] [(.long (ii767 / (rw710.toInt64))), (.int yf711), (.ref b567)]))
    refine own_go (fun t k => XT.l2i X755.here hx rfl (hb hby at_335) rfl k) ?_
    show own_End p e below s _ _ _ (T755.setTop (mkF m 336 #[.val (.long p1), .second, .val (.long p2), .second, .val (.long p3), .second, .val (.long p4), .second, .val (.int p5), .val (.long p6), .second, .val (.long ve557), .second, .val (.long vf558), .second, .val (.ref b559), .val (.ref b567), .val (.ref b579), .val (.ref b603), .val (.ref b637), .val (.ref b671), .val (.int xf709), .val (.int rw710), .val (.int yf711), .val (.int wd712), .val (.int bl713), .val (.ref b714), .val (.long nn766), .second, .val (.long ii767), .second, .unset, .unset] [(.int ((ii767 / (rw710.toInt64)).toInt32)), (.int yf711), (.ref b567)]))
    refine own_go (fun t k => XS.iadd X755.here hx rfl (hb hby at_336) rfl k) ?_
    show own_End p e below s _ _ _ (T755.setTop (mkF m 337 #[.val (.long p1), .second, .val (.long p2), .second, .val (.long p3), .second, .val (.long p4), .second, .val (.int p5), .val (.long p6), .second, .val (.long ve557), .second, .val (.long vf558), .second, .val (.ref b559), .val (.ref b567), .val (.ref b579), .val (.ref b603), .val (.ref b637), .val (.ref b671), .val (.int xf709), .val (.int rw710), .val (.int yf711), .val (.int wd712), .val (.int bl713), .val (.ref b714), .val (.long nn766), .second, .val (.long ii767), .second, .unset, .unset] [(.int (yf711 + ((ii767 / (rw710.toInt64)).toInt32))), (.ref b567)]))
    refine own_go (own_fldJ X755 hx hZ e756 f758 (j := (yf711 + ((ii767 / (rw710.toInt64)).toInt32))) (v := (.long (own_v3 p4 ve557 vf558 nx))) nx hnx (by omega) rfl (pc := 337) (Ls := #[.val (.long p1), .second, .val (.long p2), .second, .val (.long p3), .second, .val (.long p4), .second, .val (.int p5), .val (.long p6), .second, .val (.long ve557), .second, .val (.long vf558), .second, .val (.ref b559), .val (.ref b567), .val (.ref b579), .val (.ref b603), .val (.ref b637), .val (.ref b671), .val (.int xf709), .val (.int rw710), .val (.int yf711), .val (.int wd712), .val (.int bl713), .val (.ref b714), .val (.long nn766), .second, .val (.long ii767), .second, .unset, .unset]) (rest := []) (hb hby at_337)) ?_
    show own_End p e below s _ _ _ (T755.setTop (mkF m 338 #[.val (.long p1), .second, .val (.long p2), .second, .val (.long p3), .second, .val (.long p4), .second, .val (.int p5), .val (.long p6), .second, .val (.long ve557), .second, .val (.long vf558), .second, .val (.ref b559), .val (.ref b567), .val (.ref b579), .val (.ref b603), .val (.ref b637), .val (.ref b671), .val (.int xf709), .val (.int rw710), .val (.int yf711), .val (.int wd712), .val (.int bl713), .val (.ref b714), .val (.long nn766), .second, .val (.long ii767), .second, .unset, .unset] [(.long (own_v3 p4 ve557 vf558 nx))]))
    refine own_go (fun t k => XS.aload X755.here hx rfl (hb hby at_338) rfl rfl k) ?_
    show own_End p e below s _ _ _ (T755.setTop (mkF m 340 #[.val (.long p1), .second, .val (.long p2), .second, .val (.long p3), .second, .val (.long p4), .second, .val (.int p5), .val (.long p6), .second, .val (.long ve557), .second, .val (.long vf558), .second, .val (.ref b559), .val (.ref b567), .val (.ref b579), .val (.ref b603), .val (.ref b637), .val (.ref b671), .val (.int xf709), .val (.int rw710), .val (.int yf711), .val (.int wd712), .val (.int bl713), .val (.ref b714), .val (.long nn766), .second, .val (.long ii767), .second, .unset, .unset] [(.ref b559), (.long (own_v3 p4 ve557 vf558 nx))]))
    refine own_go (fun t k => XS.iload X755.here hx rfl (hb hby at_340) rfl k) ?_
    show own_End p e below s _ _ _ (T755.setTop (mkF m 342 #[.val (.long p1), .second, .val (.long p2), .second, .val (.long p3), .second, .val (.long p4), .second, .val (.int p5), .val (.long p6), .second, .val (.long ve557), .second, .val (.long vf558), .second, .val (.ref b559), .val (.ref b567), .val (.ref b579), .val (.ref b603), .val (.ref b637), .val (.ref b671), .val (.int xf709), .val (.int rw710), .val (.int yf711), .val (.int wd712), .val (.int bl713), .val (.ref b714), .val (.long nn766), .second, .val (.long ii767), .second, .unset, .unset] [(.int xf709), (.ref b559), (.long (own_v3 p4 ve557 vf558 nx))]))
    refine own_go (fun t k => XT.lload X755.here hx rfl (hb hby at_342) rfl k) ?_
    show own_End p e below s _ _ _ (T755.setTop (mkF m 344 #[.val (.long p1), .second, .val (.long p2), .second, .val (.long p3), .second, .val (.long p4), .second, .val (.int p5), .val (.long p6), .second, .val (.long ve557), .second, .val (.long vf558), .second, .val (.ref b559), .val (.ref b567), .val (.ref b579), .val (.ref b603), .val (.ref b637), .val (.ref b671), .val (.int xf709), .val (.int rw710), .val (.int yf711), .val (.int wd712), .val (.int bl713), .val (.ref b714), .val (.long nn766), .second, .val (.long ii767), .second, .unset, .unset] [(.long ii767), (.int xf709), (.ref b559), (.long (own_v3 p4 ve557 vf558 nx))]))
    refine own_go (fun t k => XS.iload X755.here hx rfl (hb hby at_344) rfl k) ?_
    show own_End p e below s _ _ _ (T755.setTop (mkF m 346 #[.val (.long p1), .second, .val (.long p2), .second, .val (.long p3), .second, .val (.long p4), .second, .val (.int p5), .val (.long p6), .second, .val (.long ve557), .second, .val (.long vf558), .second, .val (.ref b559), .val (.ref b567), .val (.ref b579), .val (.ref b603), .val (.ref b637), .val (.ref b671), .val (.int xf709), .val (.int rw710), .val (.int yf711), .val (.int wd712), .val (.int bl713), .val (.ref b714), .val (.long nn766), .second, .val (.long ii767), .second, .unset, .unset] [(.int rw710), (.long ii767), (.int xf709), (.ref b559), (.long (own_v3 p4 ve557 vf558 nx))]))
    refine own_go (fun t k => XT.i2l X755.here hx rfl (hb hby at_346) rfl k) ?_
    show own_End p e below s _ _ _ (T755.setTop (mkF m 347 #[.val (.long p1), .second, .val (.long p2), .second, .val (.long p3), .second, .val (.long p4), .second, .val (.int p5), .val (.long p6), .second, .val (.long ve557), .second, .val (.long vf558), .second, .val (.ref b559), .val (.ref b567), .val (.ref b579), .val (.ref b603), .val (.ref b637), .val (.ref b671), .val (.int xf709), .val (.int rw710), .val (.int yf711), .val (.int wd712), .val (.int bl713), .val (.ref b714), .val (.long nn766), .second, .val (.long ii767), .second, .unset, .unset] [(.long (rw710.toInt64)), (.long ii767), (.int xf709), (.ref b559), (.long (own_v3 p4 ve557 vf558 nx))]))
    refine own_go (fun t k => XT.lrem X755.here hx rfl (hb hby at_347) rfl hzr k) ?_
    show own_End p e below s _ _ _ (T755.setTop (mkF m 348 #[.val (.long p1), .second, .val (.long p2), .second, .val (.long p3), .second, .val (.long p4), .second, .val (.int p5), .val (.long p6), .second, .val (.long ve557), .second, .val (.long vf558), .second, .val (.ref b559), .val (.ref b567), .val (.ref b579), .val (.ref b603), .val (.ref b637), .val (.ref b671), .val (.int xf709), .val (.int rw710), .val (.int yf711), .val (.int wd712), .val (.int bl713), .val (.ref b714), .val (.long nn766), .second, .val (.long ii767), .second, .unset, .unset] [(.long (ii767 - (ii767 / (rw710.toInt64)) * (rw710.toInt64))), (.int xf709), (.ref b559), (.long (own_v3 p4 ve557 vf558 nx))]))
    refine own_go (fun t k => XT.l2i X755.here hx rfl (hb hby at_348) rfl k) ?_
    show own_End p e below s _ _ _ (T755.setTop (mkF m 349 #[.val (.long p1), .second, .val (.long p2), .second, .val (.long p3), .second, .val (.long p4), .second, .val (.int p5), .val (.long p6), .second, .val (.long ve557), .second, .val (.long vf558), .second, .val (.ref b559), .val (.ref b567), .val (.ref b579), .val (.ref b603), .val (.ref b637), .val (.ref b671), .val (.int xf709), .val (.int rw710), .val (.int yf711), .val (.int wd712), .val (.int bl713), .val (.ref b714), .val (.long nn766), .second, .val (.long ii767), .second, .unset, .unset] [(.int ((ii767 - (ii767 / (rw710.toInt64)) * (rw710.toInt64)).toInt32)), (.int xf709), (.ref b559), (.long (own_v3 p4 ve557 vf558 nx))]))
    refine own_go (fun t k => XS.iadd X755.here hx rfl (hb hby at_349) rfl k) ?_
    show own_End p e below s _ _ _ (T755.setTop (mkF m 350 #[.val (.long p1), .second, .val (.long p2), .second, .val (.long p3), .second, .val (.long p4), .second, .val (.int p5), .val (.long p6), .second, .val (.long ve557), .second, .val (.long vf558), .second, .val (.ref b559), .val (.ref b567), .val (.ref b579), .val (.ref b603), .val (.ref b637), .val (.ref b671), .val (.int xf709), .val (.int rw710), .val (.int yf711), .val (.int wd712), .val (.int bl713), .val (.ref b714), .val (.long nn766), .second, .val (.long ii767), .second, .unset, .unset] [(.int (xf709 + ((ii767 - (ii767 / (rw710.toInt64)) * (rw710.toInt64)).toInt32))), (.ref b559), (.long (own_v3 p4 ve557 vf558 nx))]))
    refine own_go (own_fldJ X755 hx hZ e756 f757 (j := (xf709 + ((ii767 - (ii767 / (rw710.toInt64)) * (rw710.toInt64)).toInt32))) (v := (.long (own_v3 p1 p2 p3 ny))) ny hny (by omega) rfl (pc := 350) (Ls := #[.val (.long p1), .second, .val (.long p2), .second, .val (.long p3), .second, .val (.long p4), .second, .val (.int p5), .val (.long p6), .second, .val (.long ve557), .second, .val (.long vf558), .second, .val (.ref b559), .val (.ref b567), .val (.ref b579), .val (.ref b603), .val (.ref b637), .val (.ref b671), .val (.int xf709), .val (.int rw710), .val (.int yf711), .val (.int wd712), .val (.int bl713), .val (.ref b714), .val (.long nn766), .second, .val (.long ii767), .second, .unset, .unset]) (rest := [(.long (own_v3 p4 ve557 vf558 nx))]) (hb hby at_350)) ?_
    show own_End p e below s _ _ _ (T755.setTop (mkF m 351 #[.val (.long p1), .second, .val (.long p2), .second, .val (.long p3), .second, .val (.long p4), .second, .val (.int p5), .val (.long p6), .second, .val (.long ve557), .second, .val (.long vf558), .second, .val (.ref b559), .val (.ref b567), .val (.ref b579), .val (.ref b603), .val (.ref b637), .val (.ref b671), .val (.int xf709), .val (.int rw710), .val (.int yf711), .val (.int wd712), .val (.int bl713), .val (.ref b714), .val (.long nn766), .second, .val (.long ii767), .second, .unset, .unset] [(.long (own_v3 p1 p2 p3 ny)), (.long (own_v3 p4 ve557 vf558 nx))]))
    refine own_go (fun t k => XT.lmul X755.here hx rfl (hb hby at_351) rfl k) ?_
    show own_End p e below s _ _ _ (T755.setTop (mkF m 352 #[.val (.long p1), .second, .val (.long p2), .second, .val (.long p3), .second, .val (.long p4), .second, .val (.int p5), .val (.long p6), .second, .val (.long ve557), .second, .val (.long vf558), .second, .val (.ref b559), .val (.ref b567), .val (.ref b579), .val (.ref b603), .val (.ref b637), .val (.ref b671), .val (.int xf709), .val (.int rw710), .val (.int yf711), .val (.int wd712), .val (.int bl713), .val (.ref b714), .val (.long nn766), .second, .val (.long ii767), .second, .unset, .unset] [(.long ((own_v3 p4 ve557 vf558 nx) * (own_v3 p1 p2 p3 ny)))]))
    refine own_go (fun t k => XT.lstore X755.here hx rfl (hb hby at_352) rfl (l' := #[.val (.long p1), .second, .val (.long p2), .second, .val (.long p3), .second, .val (.long p4), .second, .val (.int p5), .val (.long p6), .second, .val (.long ve557), .second, .val (.long vf558), .second, .val (.ref b559), .val (.ref b567), .val (.ref b579), .val (.ref b603), .val (.ref b637), .val (.ref b671), .val (.int xf709), .val (.int rw710), .val (.int yf711), .val (.int wd712), .val (.int bl713), .val (.ref b714), .val (.long nn766), .second, .val (.long ii767), .second, .val (.long ((own_v3 p4 ve557 vf558 nx) * (own_v3 p1 p2 p3 ny))), .second]) rfl k) ?_
    show own_End p e below s _ _ _ (T755.setTop (mkF m 354 #[.val (.long p1), .second, .val (.long p2), .second, .val (.long p3), .second, .val (.long p4), .second, .val (.int p5), .val (.long p6), .second, .val (.long ve557), .second, .val (.long vf558), .second, .val (.ref b559), .val (.ref b567), .val (.ref b579), .val (.ref b603), .val (.ref b637), .val (.ref b671), .val (.int xf709), .val (.int rw710), .val (.int yf711), .val (.int wd712), .val (.int bl713), .val (.ref b714), .val (.long nn766), .second, .val (.long ii767), .second, .val (.long ((own_v3 p4 ve557 vf558 nx) * (own_v3 p1 p2 p3 ny))), .second] []))
    refine own_go (fun t k => XS.aload X755.here hx rfl (hb hby at_354) rfl rfl k) ?_
    show own_End p e below s _ _ _ (T755.setTop (mkF m 356 #[.val (.long p1), .second, .val (.long p2), .second, .val (.long p3), .second, .val (.long p4), .second, .val (.int p5), .val (.long p6), .second, .val (.long ve557), .second, .val (.long vf558), .second, .val (.ref b559), .val (.ref b567), .val (.ref b579), .val (.ref b603), .val (.ref b637), .val (.ref b671), .val (.int xf709), .val (.int rw710), .val (.int yf711), .val (.int wd712), .val (.int bl713), .val (.ref b714), .val (.long nn766), .second, .val (.long ii767), .second, .val (.long ((own_v3 p4 ve557 vf558 nx) * (own_v3 p1 p2 p3 ny))), .second] [(.ref b714)]))
    refine own_go (fun t k => XS.iload X755.here hx rfl (hb hby at_356) rfl k) ?_
    show own_End p e below s _ _ _ (T755.setTop (mkF m 358 #[.val (.long p1), .second, .val (.long p2), .second, .val (.long p3), .second, .val (.long p4), .second, .val (.int p5), .val (.long p6), .second, .val (.long ve557), .second, .val (.long vf558), .second, .val (.ref b559), .val (.ref b567), .val (.ref b579), .val (.ref b603), .val (.ref b637), .val (.ref b671), .val (.int xf709), .val (.int rw710), .val (.int yf711), .val (.int wd712), .val (.int bl713), .val (.ref b714), .val (.long nn766), .second, .val (.long ii767), .second, .val (.long ((own_v3 p4 ve557 vf558 nx) * (own_v3 p1 p2 p3 ny))), .second] [(.int bl713), (.ref b714)]))
    refine own_go (fun t k => XT.lload X755.here hx rfl (hb hby at_358) rfl k) ?_
    show own_End p e below s _ _ _ (T755.setTop (mkF m 360 #[.val (.long p1), .second, .val (.long p2), .second, .val (.long p3), .second, .val (.long p4), .second, .val (.int p5), .val (.long p6), .second, .val (.long ve557), .second, .val (.long vf558), .second, .val (.ref b559), .val (.ref b567), .val (.ref b579), .val (.ref b603), .val (.ref b637), .val (.ref b671), .val (.int xf709), .val (.int rw710), .val (.int yf711), .val (.int wd712), .val (.int bl713), .val (.ref b714), .val (.long nn766), .second, .val (.long ii767), .second, .val (.long ((own_v3 p4 ve557 vf558 nx) * (own_v3 p1 p2 p3 ny))), .second] [(.long ii767), (.int bl713), (.ref b714)]))
    obtain ⟨v768, T768, L768, X768, hQ768, st768⟩ := own_callV X755 hx hZ (C := "com/example/ordinate/ordinate/core/PairBlocks") (y := (⟨"com/example/ordinate/ordinate/core/PairBlocks", "weightOf", "(IJ)J"⟩ : MethodName)) 0 hown (hw _ (List.mem_of_getElem? (i := 48) rfl)) (hw _ (List.mem_of_getElem? (i := 49) rfl)) (hw _ (List.mem_of_getElem? (i := 51) rfl)) (hw _ (List.mem_of_getElem? (i := 50) rfl)) (hw _ (List.mem_of_getElem? (i := 5) rfl)) (hw _ (List.mem_of_getElem? (i := 52) rfl)) (by decide) (rm5 l Z a0 hw [] b714 bl713 ii767 h756 n0 Z756 axr axf axt axw ayr ayf ayt ayw kaxr kaxf kaxt kaxw kayr kayf kayt kayw _ _ _ _ _ _ _ _ _ _ hord nb714 f765 F2_axr F2_axf F2_axt F2_axw F2_ayr F2_ayf F2_ayt F2_ayw f2_xRuns f2_xFroms f2_xTos f2_xWeights f2_yRuns f2_yFroms f2_yTos f2_yWeights f2_count f2_xPlaces b603 b579 _ _ p4 ve557 vf558 p1 p2 p3 f761 f759 1 nx ny yf711 xf709 (xf709 + rw710) rw710 (by omega) (by decide) rfl rfl rfl rfl rfl hcx hzr hnx hnx1 (by omega) hny hny1 (by omega)) e756 f765 (pc := 360) (Ls := #[.val (.long p1), .second, .val (.long p2), .second, .val (.long p3), .second, .val (.long p4), .second, .val (.int p5), .val (.long p6), .second, .val (.long ve557), .second, .val (.long vf558), .second, .val (.ref b559), .val (.ref b567), .val (.ref b579), .val (.ref b603), .val (.ref b637), .val (.ref b671), .val (.int xf709), .val (.int rw710), .val (.int yf711), .val (.int wd712), .val (.int bl713), .val (.ref b714), .val (.long nn766), .second, .val (.long ii767), .second, .val (.long ((own_v3 p4 ve557 vf558 nx) * (own_v3 p1 p2 p3 ny))), .second]) [(.int bl713), (.long ii767)] [] (by rw [hml]; rfl) rfl rfl (lenOf pd_IJ_J rfl) (Nat.le_of_eq rfl) (hb hby at_360) (by decide) (by decide) (by decide) (by decide)
    obtain ⟨rfl, Nd769, e769⟩ := hQ768
    have N769 := Fr.app N_a2 Nd769
    refine own_go st768 ?_
    show own_End p e below s _ _ _ (T768.setTop (mkF m 363 #[.val (.long p1), .second, .val (.long p2), .second, .val (.long p3), .second, .val (.long p4), .second, .val (.int p5), .val (.long p6), .second, .val (.long ve557), .second, .val (.long vf558), .second, .val (.ref b559), .val (.ref b567), .val (.ref b579), .val (.ref b603), .val (.ref b637), .val (.ref b671), .val (.int xf709), .val (.int rw710), .val (.int yf711), .val (.int wd712), .val (.int bl713), .val (.ref b714), .val (.long nn766), .second, .val (.long ii767), .second, .val (.long ((own_v3 p4 ve557 vf558 nx) * (own_v3 p1 p2 p3 ny))), .second] [(.long (own_v3 p4 ve557 vf558 nx * own_v3 p1 p2 p3 ny))]))
    refine own_go (fun t k => XT.lload X768.here hx rfl (hb hby at_363) rfl k) ?_
    show own_End p e below s _ _ _ (T768.setTop (mkF m 365 #[.val (.long p1), .second, .val (.long p2), .second, .val (.long p3), .second, .val (.long p4), .second, .val (.int p5), .val (.long p6), .second, .val (.long ve557), .second, .val (.long vf558), .second, .val (.ref b559), .val (.ref b567), .val (.ref b579), .val (.ref b603), .val (.ref b637), .val (.ref b671), .val (.int xf709), .val (.int rw710), .val (.int yf711), .val (.int wd712), .val (.int bl713), .val (.ref b714), .val (.long nn766), .second, .val (.long ii767), .second, .val (.long ((own_v3 p4 ve557 vf558 nx) * (own_v3 p1 p2 p3 ny))), .second] [(.long ((own_v3 p4 ve557 vf558 nx) * (own_v3 p1 p2 p3 ny))), (.long (own_v3 p4 ve557 vf558 nx * own_v3 p1 p2 p3 ny))]))
    refine own_go (fun t k => XT.lcmp X768.here hx rfl (hb hby at_365) rfl k) ?_
    show own_End p e below s _ _ _ (T768.setTop (mkF m 366 #[.val (.long p1), .second, .val (.long p2), .second, .val (.long p3), .second, .val (.long p4), .second, .val (.int p5), .val (.long p6), .second, .val (.long ve557), .second, .val (.long vf558), .second, .val (.ref b559), .val (.ref b567), .val (.ref b579), .val (.ref b603), .val (.ref b637), .val (.ref b671), .val (.int xf709), .val (.int rw710), .val (.int yf711), .val (.int wd712), .val (.int bl713), .val (.ref b714), .val (.long nn766), .second, .val (.long ii767), .second, .val (.long ((own_v3 p4 ve557 vf558 nx) * (own_v3 p1 p2 p3 ny))), .second] [(.int (XT.cmpL (own_v3 p4 ve557 vf558 nx * own_v3 p1 p2 p3 ny) ((own_v3 p4 ve557 vf558 nx) * (own_v3 p1 p2 p3 ny))))]))
    refine own_go (fun t k => XS.ifNo X768.here hx rfl (hb hby at_366) rfl (own_lneN rfl (fun z => z rfl)) k) ?_
    show own_End p e below s _ _ _ (T768.setTop (mkF m 369 #[.val (.long p1), .second, .val (.long p2), .second, .val (.long p3), .second, .val (.long p4), .second, .val (.int p5), .val (.long p6), .second, .val (.long ve557), .second, .val (.long vf558), .second, .val (.ref b559), .val (.ref b567), .val (.ref b579), .val (.ref b603), .val (.ref b637), .val (.ref b671), .val (.int xf709), .val (.int rw710), .val (.int yf711), .val (.int wd712), .val (.int bl713), .val (.ref b714), .val (.long nn766), .second, .val (.long ii767), .second, .val (.long ((own_v3 p4 ve557 vf558 nx) * (own_v3 p1 p2 p3 ny))), .second] []))
    refine own_go (fun t k => XS.iconst X768.here hx rfl (hb hby at_369) k) ?_
    show own_End p e below s _ _ _ (T768.setTop (mkF m 370 #[.val (.long p1), .second, .val (.long p2), .second, .val (.long p3), .second, .val (.long p4), .second, .val (.int p5), .val (.long p6), .second, .val (.long ve557), .second, .val (.long vf558), .second, .val (.ref b559), .val (.ref b567), .val (.ref b579), .val (.ref b603), .val (.ref b637), .val (.ref b671), .val (.int xf709), .val (.int rw710), .val (.int yf711), .val (.int wd712), .val (.int bl713), .val (.ref b714), .val (.long nn766), .second, .val (.long ii767), .second, .val (.long ((own_v3 p4 ve557 vf558 nx) * (own_v3 p1 p2 p3 ny))), .second] [(.int (1 : Int32))]))
    refine own_go (fun t k => XS.goto X768.here hx rfl (pc0 := 370) (pc' := 374) rfl (hb hby at_370) (by decide) (by decide) k) ?_
    show own_End p e below s _ _ _ (T768.setTop (mkF m 374 #[.val (.long p1), .second, .val (.long p2), .second, .val (.long p3), .second, .val (.long p4), .second, .val (.int p5), .val (.long p6), .second, .val (.long ve557), .second, .val (.long vf558), .second, .val (.ref b559), .val (.ref b567), .val (.ref b579), .val (.ref b603), .val (.ref b637), .val (.ref b671), .val (.int xf709), .val (.int rw710), .val (.int yf711), .val (.int wd712), .val (.int bl713), .val (.ref b714), .val (.long nn766), .second, .val (.long ii767), .second, .val (.long ((own_v3 p4 ve557 vf558 nx) * (own_v3 p1 p2 p3 ny))), .second] [(.int (1 : Int32))]))
    exact own_retN X768 hx (t := .boolean) hret hlk (by simp) (hb hby at_374) ⟨rfl, N769⟩ (by decide) (by decide)
  refine own_go (fun t k => XS.ifNo X755.here hx rfl (hb hby at_290) rfl (own_0 (own_neN (k := 0) rfl qb)) k) ?_
  show own_End p e below s _ _ _ (T755.setTop (mkF m 293 #[.val (.long p1), .second, .val (.long p2), .second, .val (.long p3), .second, .val (.long p4), .second, .val (.int p5), .val (.long p6), .second, .val (.long ve557), .second, .val (.long vf558), .second, .val (.ref b559), .val (.ref b567), .val (.ref b579), .val (.ref b603), .val (.ref b637), .val (.ref b671), .val (.int xf709), .val (.int rw710), .val (.int yf711), .val (.int wd712), .val (.int bl713), .val (.ref b714), .val (.long nn766), .second, .val (.long ii767), .second, .unset, .unset] []))
  have hb0 : bl713.toInt = 0 := by omega
  obtain ⟨q, o, hq, hq1, ho, ho1⟩ := own_rc (i := ii767) (r := rw710) (w := wd712) (by omega) (by omega) (by omega) (by omega) (by omega) rii.2
  obtain ⟨nx, hnx'⟩ : ∃ z : Nat, z = xf709.toInt + q := ⟨(xf709.toInt + q).toNat, by omega⟩
  obtain ⟨ny, hny'⟩ : ∃ z : Nat, z = yf711.toInt + o := ⟨(yf711.toInt + o).toNat, by omega⟩
  have hnx : (xf709 + (ii767 / wd712.toInt64).toInt32).toInt = nx := by rw [own_addI (by omega) (by omega)]; omega
  have hny : (yf711 + (ii767 - (ii767 / wd712.toInt64) * wd712.toInt64).toInt32).toInt = ny := by rw [own_addI (by omega) (by omega)]; omega
  have hnx1 : ((xf709 + (ii767 / wd712.toInt64).toInt32) + (1 : Int32)).toInt = ((nx + 1 : Nat) : Int) := by rw [own_addI (by omega) (by omega)]; omega
  have hny1 : ((yf711 + (ii767 - (ii767 / wd712.toInt64) * wd712.toInt64).toInt32) + (1 : Int32)).toInt = ((ny + 1 : Nat) : Int) := by rw [own_addI (by omega) (by omega)]; omega
  refine own_go (fun t k => XS.aload X755.here hx rfl (hb hby at_293) rfl rfl k) ?_
  show own_End p e below s _ _ _ (T755.setTop (mkF m 295 #[.val (.long p1), .second, .val (.long p2), .second, .val (.long p3), .second, .val (.long p4), .second, .val (.int p5), .val (.long p6), .second, .val (.long ve557), .second, .val (.long vf558), .second, .val (.ref b559), .val (.ref b567), .val (.ref b579), .val (.ref b603), .val (.ref b637), .val (.ref b671), .val (.int xf709), .val (.int rw710), .val (.int yf711), .val (.int wd712), .val (.int bl713), .val (.ref b714), .val (.long nn766), .second, .val (.long ii767), .second, .unset, .unset] [(.ref b559)]))
  refine own_go (fun t k => XS.iload X755.here hx rfl (hb hby at_295) rfl k) ?_
  show own_End p e below s _ _ _ (T755.setTop (mkF m 297 #[.val (.long p1), .second, .val (.long p2), .second, .val (.long p3), .second, .val (.long p4), .second, .val (.int p5), .val (.long p6), .second, .val (.long ve557), .second, .val (.long vf558), .second, .val (.ref b559), .val (.ref b567), .val (.ref b579), .val (.ref b603), .val (.ref b637), .val (.ref b671), .val (.int xf709), .val (.int rw710), .val (.int yf711), .val (.int wd712), .val (.int bl713), .val (.ref b714), .val (.long nn766), .second, .val (.long ii767), .second, .unset, .unset] [(.int xf709), (.ref b559)]))
  refine own_go (fun t k => XT.lload X755.here hx rfl (hb hby at_297) rfl k) ?_
  show own_End p e below s _ _ _ (T755.setTop (mkF m 299 #[.val (.long p1), .second, .val (.long p2), .second, .val (.long p3), .second, .val (.long p4), .second, .val (.int p5), .val (.long p6), .second, .val (.long ve557), .second, .val (.long vf558), .second, .val (.ref b559), .val (.ref b567), .val (.ref b579), .val (.ref b603), .val (.ref b637), .val (.ref b671), .val (.int xf709), .val (.int rw710), .val (.int yf711), .val (.int wd712), .val (.int bl713), .val (.ref b714), .val (.long nn766), .second, .val (.long ii767), .second, .unset, .unset] [(.long ii767), (.int xf709), (.ref b559)]))
  refine own_go (fun t k => XS.iload X755.here hx rfl (hb hby at_299) rfl k) ?_
  show own_End p e below s _ _ _ (T755.setTop (mkF m 301 #[.val (.long p1), .second, .val (.long p2), .second, .val (.long p3), .second, .val (.long p4), .second, .val (.int p5), .val (.long p6), .second, .val (.long ve557), .second, .val (.long vf558), .second, .val (.ref b559), .val (.ref b567), .val (.ref b579), .val (.ref b603), .val (.ref b637), .val (.ref b671), .val (.int xf709), .val (.int rw710), .val (.int yf711), .val (.int wd712), .val (.int bl713), .val (.ref b714), .val (.long nn766), .second, .val (.long ii767), .second, .unset, .unset] [(.int wd712), (.long ii767), (.int xf709), (.ref b559)]))
  refine own_go (fun t k => XT.i2l X755.here hx rfl (hb hby at_301) rfl k) ?_
  show own_End p e below s _ _ _ (T755.setTop (mkF m 302 #[.val (.long p1), .second, .val (.long p2), .second, .val (.long p3), .second, .val (.long p4), .second, .val (.int p5), .val (.long p6), .second, .val (.long ve557), .second, .val (.long vf558), .second, .val (.ref b559), .val (.ref b567), .val (.ref b579), .val (.ref b603), .val (.ref b637), .val (.ref b671), .val (.int xf709), .val (.int rw710), .val (.int yf711), .val (.int wd712), .val (.int bl713), .val (.ref b714), .val (.long nn766), .second, .val (.long ii767), .second, .unset, .unset] [(.long (wd712.toInt64)), (.long ii767), (.int xf709), (.ref b559)]))
  refine own_go (fun t k => XT.ldiv X755.here hx rfl (hb hby at_302) rfl hzw k) ?_
  show own_End p e below s _ _ _ (T755.setTop (mkF m 303 #[.val (.long p1), .second, .val (.long p2), .second, .val (.long p3), .second, .val (.long p4), .second, .val (.int p5), .val (.long p6), .second, .val (.long ve557), .second, .val (.long vf558), .second, .val (.ref b559), .val (.ref b567), .val (.ref b579), .val (.ref b603), .val (.ref b637), .val (.ref b671), .val (.int xf709), .val (.int rw710), .val (.int yf711), .val (.int wd712), .val (.int bl713), .val (.ref b714), .val (.long nn766), .second, .val (.long ii767), .second, .unset, .unset] [(.long (ii767 / (wd712.toInt64))), (.int xf709), (.ref b559)]))
  refine own_go (fun t k => XT.l2i X755.here hx rfl (hb hby at_303) rfl k) ?_
  show own_End p e below s _ _ _ (T755.setTop (mkF m 304 #[.val (.long p1), .second, .val (.long p2), .second, .val (.long p3), .second, .val (.long p4), .second, .val (.int p5), .val (.long p6), .second, .val (.long ve557), .second, .val (.long vf558), .second, .val (.ref b559), .val (.ref b567), .val (.ref b579), .val (.ref b603), .val (.ref b637), .val (.ref b671), .val (.int xf709), .val (.int rw710), .val (.int yf711), .val (.int wd712), .val (.int bl713), .val (.ref b714), .val (.long nn766), .second, .val (.long ii767), .second, .unset, .unset] [(.int ((ii767 / (wd712.toInt64)).toInt32)), (.int xf709), (.ref b559)]))
  refine own_go (fun t k => XS.iadd X755.here hx rfl (hb hby at_304) rfl k) ?_
  show own_End p e below s _ _ _ (T755.setTop (mkF m 305 #[.val (.long p1), .second, .val (.long p2), .second, .val (.long p3), .second, .val (.long p4), .second, .val (.int p5), .val (.long p6), .second, .val (.long ve557), .second, .val (.long vf558), .second, .val (.ref b559), .val (.ref b567), .val (.ref b579), .val (.ref b603), .val (.ref b637), .val (.ref b671), .val (.int xf709), .val (.int rw710), .val (.int yf711), .val (.int wd712), .val (.int bl713), .val (.ref b714), .val (.long nn766), .second, .val (.long ii767), .second, .unset, .unset] [(.int (xf709 + ((ii767 / (wd712.toInt64)).toInt32))), (.ref b559)]))
  refine own_go (own_fldJ X755 hx hZ e756 f757 (j := (xf709 + ((ii767 / (wd712.toInt64)).toInt32))) (v := (.long (own_v3 p1 p2 p3 nx))) nx hnx (by omega) rfl (pc := 305) (Ls := #[.val (.long p1), .second, .val (.long p2), .second, .val (.long p3), .second, .val (.long p4), .second, .val (.int p5), .val (.long p6), .second, .val (.long ve557), .second, .val (.long vf558), .second, .val (.ref b559), .val (.ref b567), .val (.ref b579), .val (.ref b603), .val (.ref b637), .val (.ref b671), .val (.int xf709), .val (.int rw710), .val (.int yf711), .val (.int wd712), .val (.int bl713), .val (.ref b714), .val (.long nn766), .second, .val (.long ii767), .second, .unset, .unset]) (rest := []) (hb hby at_305)) ?_
  show own_End p e below s _ _ _ (T755.setTop (mkF m 306 #[.val (.long p1), .second, .val (.long p2), .second, .val (.long p3), .second, .val (.long p4), .second, .val (.int p5), .val (.long p6), .second, .val (.long ve557), .second, .val (.long vf558), .second, .val (.ref b559), .val (.ref b567), .val (.ref b579), .val (.ref b603), .val (.ref b637), .val (.ref b671), .val (.int xf709), .val (.int rw710), .val (.int yf711), .val (.int wd712), .val (.int bl713), .val (.ref b714), .val (.long nn766), .second, .val (.long ii767), .second, .unset, .unset] [(.long (own_v3 p1 p2 p3 nx))]))
  refine own_go (fun t k => XS.aload X755.here hx rfl (hb hby at_306) rfl rfl k) ?_
  show own_End p e below s _ _ _ (T755.setTop (mkF m 308 #[.val (.long p1), .second, .val (.long p2), .second, .val (.long p3), .second, .val (.long p4), .second, .val (.int p5), .val (.long p6), .second, .val (.long ve557), .second, .val (.long vf558), .second, .val (.ref b559), .val (.ref b567), .val (.ref b579), .val (.ref b603), .val (.ref b637), .val (.ref b671), .val (.int xf709), .val (.int rw710), .val (.int yf711), .val (.int wd712), .val (.int bl713), .val (.ref b714), .val (.long nn766), .second, .val (.long ii767), .second, .unset, .unset] [(.ref b567), (.long (own_v3 p1 p2 p3 nx))]))
  refine own_go (fun t k => XS.iload X755.here hx rfl (hb hby at_308) rfl k) ?_
  show own_End p e below s _ _ _ (T755.setTop (mkF m 310 #[.val (.long p1), .second, .val (.long p2), .second, .val (.long p3), .second, .val (.long p4), .second, .val (.int p5), .val (.long p6), .second, .val (.long ve557), .second, .val (.long vf558), .second, .val (.ref b559), .val (.ref b567), .val (.ref b579), .val (.ref b603), .val (.ref b637), .val (.ref b671), .val (.int xf709), .val (.int rw710), .val (.int yf711), .val (.int wd712), .val (.int bl713), .val (.ref b714), .val (.long nn766), .second, .val (.long ii767), .second, .unset, .unset] [(.int yf711), (.ref b567), (.long (own_v3 p1 p2 p3 nx))]))
  refine own_go (fun t k => XT.lload X755.here hx rfl (hb hby at_310) rfl k) ?_
  show own_End p e below s _ _ _ (T755.setTop (mkF m 312 #[.val (.long p1), .second, .val (.long p2), .second, .val (.long p3), .second, .val (.long p4), .second, .val (.int p5), .val (.long p6), .second, .val (.long ve557), .second, .val (.long vf558), .second, .val (.ref b559), .val (.ref b567), .val (.ref b579), .val (.ref b603), .val (.ref b637), .val (.ref b671), .val (.int xf709), .val (.int rw710), .val (.int yf711), .val (.int wd712), .val (.int bl713), .val (.ref b714), .val (.long nn766), .second, .val (.long ii767), .second, .unset, .unset] [(.long ii767), (.int yf711), (.ref b567), (.long (own_v3 p1 p2 p3 nx))]))
  refine own_go (fun t k => XS.iload X755.here hx rfl (hb hby at_312) rfl k) ?_
  show own_End p e below s _ _ _ (T755.setTop (mkF m 314 #[.val (.long p1), .second, .val (.long p2), .second, .val (.long p3), .second, .val (.long p4), .second, .val (.int p5), .val (.long p6), .second, .val (.long ve557), .second, .val (.long vf558), .second, .val (.ref b559), .val (.ref b567), .val (.ref b579), .val (.ref b603), .val (.ref b637), .val (.ref b671), .val (.int xf709), .val (.int rw710), .val (.int yf711), .val (.int wd712), .val (.int bl713), .val (.ref b714), .val (.long nn766), .second, .val (.long ii767), .second, .unset, .unset] [(.int wd712), (.long ii767), (.int yf711), (.ref b567), (.long (own_v3 p1 p2 p3 nx))]))
  refine own_go (fun t k => XT.i2l X755.here hx rfl (hb hby at_314) rfl k) ?_
  show own_End p e below s _ _ _ (T755.setTop (mkF m 315 #[.val (.long p1), .second, .val (.long p2), .second, .val (.long p3), .second, .val (.long p4), .second, .val (.int p5), .val (.long p6), .second, .val (.long ve557), .second, .val (.long vf558), .second, .val (.ref b559), .val (.ref b567), .val (.ref b579), .val (.ref b603), .val (.ref b637), .val (.ref b671), .val (.int xf709), .val (.int rw710), .val (.int yf711), .val (.int wd712), .val (.int bl713), .val (.ref b714), .val (.long nn766), .second, .val (.long ii767), .second, .unset, .unset] [(.long (wd712.toInt64)), (.long ii767), (.int yf711), (.ref b567), (.long (own_v3 p1 p2 p3 nx))]))
  refine own_go (fun t k => XT.lrem X755.here hx rfl (hb hby at_315) rfl hzw k) ?_
  show own_End p e below s _ _ _ (T755.setTop (mkF m 316 #[.val (.long p1), .second, .val (.long p2), .second, .val (.long p3), .second, .val (.long p4), .second, .val (.int p5), .val (.long p6), .second, .val (.long ve557), .second, .val (.long vf558), .second, .val (.ref b559), .val (.ref b567), .val (.ref b579), .val (.ref b603), .val (.ref b637), .val (.ref b671), .val (.int xf709), .val (.int rw710), .val (.int yf711), .val (.int wd712), .val (.int bl713), .val (.ref b714), .val (.long nn766), .second, .val (.long ii767), .second, .unset, .unset] [(.long (ii767 - (ii767 / (wd712.toInt64)) * (wd712.toInt64))), (.int yf711), (.ref b567), (.long (own_v3 p1 p2 p3 nx))]))
  refine own_go (fun t k => XT.l2i X755.here hx rfl (hb hby at_316) rfl k) ?_
  show own_End p e below s _ _ _ (T755.setTop (mkF m 317 #[.val (.long p1), .second, .val (.long p2), .second, .val (.long p3), .second, .val (.long p4), .second, .val (.int p5), .val (.long p6), .second, .val (.long ve557), .second, .val (.long vf558), .second, .val (.ref b559), .val (.ref b567), .val (.ref b579), .val (.ref b603), .val (.ref b637), .val (.ref b671), .val (.int xf709), .val (.int rw710), .val (.int yf711), .val (.int wd712), .val (.int bl713), .val (.ref b714), .val (.long nn766), .second, .val (.long ii767), .second, .unset, .unset] [(.int ((ii767 - (ii767 / (wd712.toInt64)) * (wd712.toInt64)).toInt32)), (.int yf711), (.ref b567), (.long (own_v3 p1 p2 p3 nx))]))
  refine own_go (fun t k => XS.iadd X755.here hx rfl (hb hby at_317) rfl k) ?_
  show own_End p e below s _ _ _ (T755.setTop (mkF m 318 #[.val (.long p1), .second, .val (.long p2), .second, .val (.long p3), .second, .val (.long p4), .second, .val (.int p5), .val (.long p6), .second, .val (.long ve557), .second, .val (.long vf558), .second, .val (.ref b559), .val (.ref b567), .val (.ref b579), .val (.ref b603), .val (.ref b637), .val (.ref b671), .val (.int xf709), .val (.int rw710), .val (.int yf711), .val (.int wd712), .val (.int bl713), .val (.ref b714), .val (.long nn766), .second, .val (.long ii767), .second, .unset, .unset] [(.int (yf711 + ((ii767 - (ii767 / (wd712.toInt64)) * (wd712.toInt64)).toInt32))), (.ref b567), (.long (own_v3 p1 p2 p3 nx))]))
  refine own_go (own_fldJ X755 hx hZ e756 f758 (j := (yf711 + ((ii767 - (ii767 / (wd712.toInt64)) * (wd712.toInt64)).toInt32))) (v := (.long (own_v3 p4 ve557 vf558 ny))) ny hny (by omega) rfl (pc := 318) (Ls := #[.val (.long p1), .second, .val (.long p2), .second, .val (.long p3), .second, .val (.long p4), .second, .val (.int p5), .val (.long p6), .second, .val (.long ve557), .second, .val (.long vf558), .second, .val (.ref b559), .val (.ref b567), .val (.ref b579), .val (.ref b603), .val (.ref b637), .val (.ref b671), .val (.int xf709), .val (.int rw710), .val (.int yf711), .val (.int wd712), .val (.int bl713), .val (.ref b714), .val (.long nn766), .second, .val (.long ii767), .second, .unset, .unset]) (rest := [(.long (own_v3 p1 p2 p3 nx))]) (hb hby at_318)) ?_
  show own_End p e below s _ _ _ (T755.setTop (mkF m 319 #[.val (.long p1), .second, .val (.long p2), .second, .val (.long p3), .second, .val (.long p4), .second, .val (.int p5), .val (.long p6), .second, .val (.long ve557), .second, .val (.long vf558), .second, .val (.ref b559), .val (.ref b567), .val (.ref b579), .val (.ref b603), .val (.ref b637), .val (.ref b671), .val (.int xf709), .val (.int rw710), .val (.int yf711), .val (.int wd712), .val (.int bl713), .val (.ref b714), .val (.long nn766), .second, .val (.long ii767), .second, .unset, .unset] [(.long (own_v3 p4 ve557 vf558 ny)), (.long (own_v3 p1 p2 p3 nx))]))
  refine own_go (fun t k => XT.lmul X755.here hx rfl (hb hby at_319) rfl k) ?_
  show own_End p e below s _ _ _ (T755.setTop (mkF m 320 #[.val (.long p1), .second, .val (.long p2), .second, .val (.long p3), .second, .val (.long p4), .second, .val (.int p5), .val (.long p6), .second, .val (.long ve557), .second, .val (.long vf558), .second, .val (.ref b559), .val (.ref b567), .val (.ref b579), .val (.ref b603), .val (.ref b637), .val (.ref b671), .val (.int xf709), .val (.int rw710), .val (.int yf711), .val (.int wd712), .val (.int bl713), .val (.ref b714), .val (.long nn766), .second, .val (.long ii767), .second, .unset, .unset] [(.long ((own_v3 p1 p2 p3 nx) * (own_v3 p4 ve557 vf558 ny)))]))
  refine own_go (fun t k => XT.lstore X755.here hx rfl (hb hby at_320) rfl (l' := #[.val (.long p1), .second, .val (.long p2), .second, .val (.long p3), .second, .val (.long p4), .second, .val (.int p5), .val (.long p6), .second, .val (.long ve557), .second, .val (.long vf558), .second, .val (.ref b559), .val (.ref b567), .val (.ref b579), .val (.ref b603), .val (.ref b637), .val (.ref b671), .val (.int xf709), .val (.int rw710), .val (.int yf711), .val (.int wd712), .val (.int bl713), .val (.ref b714), .val (.long nn766), .second, .val (.long ii767), .second, .val (.long ((own_v3 p1 p2 p3 nx) * (own_v3 p4 ve557 vf558 ny))), .second]) rfl k) ?_
  show own_End p e below s _ _ _ (T755.setTop (mkF m 322 #[.val (.long p1), .second, .val (.long p2), .second, .val (.long p3), .second, .val (.long p4), .second, .val (.int p5), .val (.long p6), .second, .val (.long ve557), .second, .val (.long vf558), .second, .val (.ref b559), .val (.ref b567), .val (.ref b579), .val (.ref b603), .val (.ref b637), .val (.ref b671), .val (.int xf709), .val (.int rw710), .val (.int yf711), .val (.int wd712), .val (.int bl713), .val (.ref b714), .val (.long nn766), .second, .val (.long ii767), .second, .val (.long ((own_v3 p1 p2 p3 nx) * (own_v3 p4 ve557 vf558 ny))), .second] []))
  refine own_go (fun t k => XS.goto X755.here hx rfl (pc0 := 322) (pc' := 354) rfl (hb hby at_322) (by decide) (by decide) k) ?_
  show own_End p e below s _ _ _ (T755.setTop (mkF m 354 #[.val (.long p1), .second, .val (.long p2), .second, .val (.long p3), .second, .val (.long p4), .second, .val (.int p5), .val (.long p6), .second, .val (.long ve557), .second, .val (.long vf558), .second, .val (.ref b559), .val (.ref b567), .val (.ref b579), .val (.ref b603), .val (.ref b637), .val (.ref b671), .val (.int xf709), .val (.int rw710), .val (.int yf711), .val (.int wd712), .val (.int bl713), .val (.ref b714), .val (.long nn766), .second, .val (.long ii767), .second, .val (.long ((own_v3 p1 p2 p3 nx) * (own_v3 p4 ve557 vf558 ny))), .second] []))
  refine own_go (fun t k => XS.aload X755.here hx rfl (hb hby at_354) rfl rfl k) ?_
  show own_End p e below s _ _ _ (T755.setTop (mkF m 356 #[.val (.long p1), .second, .val (.long p2), .second, .val (.long p3), .second, .val (.long p4), .second, .val (.int p5), .val (.long p6), .second, .val (.long ve557), .second, .val (.long vf558), .second, .val (.ref b559), .val (.ref b567), .val (.ref b579), .val (.ref b603), .val (.ref b637), .val (.ref b671), .val (.int xf709), .val (.int rw710), .val (.int yf711), .val (.int wd712), .val (.int bl713), .val (.ref b714), .val (.long nn766), .second, .val (.long ii767), .second, .val (.long ((own_v3 p1 p2 p3 nx) * (own_v3 p4 ve557 vf558 ny))), .second] [(.ref b714)]))
  refine own_go (fun t k => XS.iload X755.here hx rfl (hb hby at_356) rfl k) ?_
  show own_End p e below s _ _ _ (T755.setTop (mkF m 358 #[.val (.long p1), .second, .val (.long p2), .second, .val (.long p3), .second, .val (.long p4), .second, .val (.int p5), .val (.long p6), .second, .val (.long ve557), .second, .val (.long vf558), .second, .val (.ref b559), .val (.ref b567), .val (.ref b579), .val (.ref b603), .val (.ref b637), .val (.ref b671), .val (.int xf709), .val (.int rw710), .val (.int yf711), .val (.int wd712), .val (.int bl713), .val (.ref b714), .val (.long nn766), .second, .val (.long ii767), .second, .val (.long ((own_v3 p1 p2 p3 nx) * (own_v3 p4 ve557 vf558 ny))), .second] [(.int bl713), (.ref b714)]))
  refine own_go (fun t k => XT.lload X755.here hx rfl (hb hby at_358) rfl k) ?_
  show own_End p e below s _ _ _ (T755.setTop (mkF m 360 #[.val (.long p1), .second, .val (.long p2), .second, .val (.long p3), .second, .val (.long p4), .second, .val (.int p5), .val (.long p6), .second, .val (.long ve557), .second, .val (.long vf558), .second, .val (.ref b559), .val (.ref b567), .val (.ref b579), .val (.ref b603), .val (.ref b637), .val (.ref b671), .val (.int xf709), .val (.int rw710), .val (.int yf711), .val (.int wd712), .val (.int bl713), .val (.ref b714), .val (.long nn766), .second, .val (.long ii767), .second, .val (.long ((own_v3 p1 p2 p3 nx) * (own_v3 p4 ve557 vf558 ny))), .second] [(.long ii767), (.int bl713), (.ref b714)]))
  obtain ⟨v770, T770, L770, X770, hQ770, st770⟩ := own_callV X755 hx hZ (C := "com/example/ordinate/ordinate/core/PairBlocks") (y := (⟨"com/example/ordinate/ordinate/core/PairBlocks", "weightOf", "(IJ)J"⟩ : MethodName)) 0 hown (hw _ (List.mem_of_getElem? (i := 48) rfl)) (hw _ (List.mem_of_getElem? (i := 49) rfl)) (hw _ (List.mem_of_getElem? (i := 51) rfl)) (hw _ (List.mem_of_getElem? (i := 50) rfl)) (hw _ (List.mem_of_getElem? (i := 5) rfl)) (hw _ (List.mem_of_getElem? (i := 52) rfl)) (by decide) (rm5 l Z a0 hw [] b714 bl713 ii767 h756 n0 Z756 axr axf axt axw ayr ayf ayt ayw kaxr kaxf kaxt kaxw kayr kayf kayt kayw _ _ _ _ _ _ _ _ _ _ hord nb714 f765 F2_axr F2_axf F2_axt F2_axw F2_ayr F2_ayf F2_ayt F2_ayw f2_xRuns f2_xFroms f2_xTos f2_xWeights f2_yRuns f2_yFroms f2_yTos f2_yWeights f2_count f2_xPlaces b579 b603 _ _ p1 p2 p3 p4 ve557 vf558 f759 f761 0 nx ny xf709 yf711 (yf711 + wd712) wd712 (by omega) (by decide) rfl rfl rfl rfl rfl hcy hzw hnx hnx1 (by omega) hny hny1 (by omega)) e756 f765 (pc := 360) (Ls := #[.val (.long p1), .second, .val (.long p2), .second, .val (.long p3), .second, .val (.long p4), .second, .val (.int p5), .val (.long p6), .second, .val (.long ve557), .second, .val (.long vf558), .second, .val (.ref b559), .val (.ref b567), .val (.ref b579), .val (.ref b603), .val (.ref b637), .val (.ref b671), .val (.int xf709), .val (.int rw710), .val (.int yf711), .val (.int wd712), .val (.int bl713), .val (.ref b714), .val (.long nn766), .second, .val (.long ii767), .second, .val (.long ((own_v3 p1 p2 p3 nx) * (own_v3 p4 ve557 vf558 ny))), .second]) [(.int bl713), (.long ii767)] [] (by rw [hml]; rfl) rfl rfl (lenOf pd_IJ_J rfl) (Nat.le_of_eq rfl) (hb hby at_360) (by decide) (by decide) (by decide) (by decide)
  obtain ⟨rfl, Nd771, e771⟩ := hQ770
  have N771 := Fr.app N_a2 Nd771
  refine own_go st770 ?_
  show own_End p e below s _ _ _ (T770.setTop (mkF m 363 #[.val (.long p1), .second, .val (.long p2), .second, .val (.long p3), .second, .val (.long p4), .second, .val (.int p5), .val (.long p6), .second, .val (.long ve557), .second, .val (.long vf558), .second, .val (.ref b559), .val (.ref b567), .val (.ref b579), .val (.ref b603), .val (.ref b637), .val (.ref b671), .val (.int xf709), .val (.int rw710), .val (.int yf711), .val (.int wd712), .val (.int bl713), .val (.ref b714), .val (.long nn766), .second, .val (.long ii767), .second, .val (.long ((own_v3 p1 p2 p3 nx) * (own_v3 p4 ve557 vf558 ny))), .second] [(.long (own_v3 p1 p2 p3 nx * own_v3 p4 ve557 vf558 ny))]))
  refine own_go (fun t k => XT.lload X770.here hx rfl (hb hby at_363) rfl k) ?_
  show own_End p e below s _ _ _ (T770.setTop (mkF m 365 #[.val (.long p1), .second, .val (.long p2), .second, .val (.long p3), .second, .val (.long p4), .second, .val (.int p5), .val (.long p6), .second, .val (.long ve557), .second, .val (.long vf558), .second, .val (.ref b559), .val (.ref b567), .val (.ref b579), .val (.ref b603), .val (.ref b637), .val (.ref b671), .val (.int xf709), .val (.int rw710), .val (.int yf711), .val (.int wd712), .val (.int bl713), .val (.ref b714), .val (.long nn766), .second, .val (.long ii767), .second, .val (.long ((own_v3 p1 p2 p3 nx) * (own_v3 p4 ve557 vf558 ny))), .second] [(.long ((own_v3 p1 p2 p3 nx) * (own_v3 p4 ve557 vf558 ny))), (.long (own_v3 p1 p2 p3 nx * own_v3 p4 ve557 vf558 ny))]))
  refine own_go (fun t k => XT.lcmp X770.here hx rfl (hb hby at_365) rfl k) ?_
  show own_End p e below s _ _ _ (T770.setTop (mkF m 366 #[.val (.long p1), .second, .val (.long p2), .second, .val (.long p3), .second, .val (.long p4), .second, .val (.int p5), .val (.long p6), .second, .val (.long ve557), .second, .val (.long vf558), .second, .val (.ref b559), .val (.ref b567), .val (.ref b579), .val (.ref b603), .val (.ref b637), .val (.ref b671), .val (.int xf709), .val (.int rw710), .val (.int yf711), .val (.int wd712), .val (.int bl713), .val (.ref b714), .val (.long nn766), .second, .val (.long ii767), .second, .val (.long ((own_v3 p1 p2 p3 nx) * (own_v3 p4 ve557 vf558 ny))), .second] [(.int (XT.cmpL (own_v3 p1 p2 p3 nx * own_v3 p4 ve557 vf558 ny) ((own_v3 p1 p2 p3 nx) * (own_v3 p4 ve557 vf558 ny))))]))
  refine own_go (fun t k => XS.ifNo X770.here hx rfl (hb hby at_366) rfl (own_lneN rfl (fun z => z rfl)) k) ?_
  show own_End p e below s _ _ _ (T770.setTop (mkF m 369 #[.val (.long p1), .second, .val (.long p2), .second, .val (.long p3), .second, .val (.long p4), .second, .val (.int p5), .val (.long p6), .second, .val (.long ve557), .second, .val (.long vf558), .second, .val (.ref b559), .val (.ref b567), .val (.ref b579), .val (.ref b603), .val (.ref b637), .val (.ref b671), .val (.int xf709), .val (.int rw710), .val (.int yf711), .val (.int wd712), .val (.int bl713), .val (.ref b714), .val (.long nn766), .second, .val (.long ii767), .second, .val (.long ((own_v3 p1 p2 p3 nx) * (own_v3 p4 ve557 vf558 ny))), .second] []))
  refine own_go (fun t k => XS.iconst X770.here hx rfl (hb hby at_369) k) ?_
  show own_End p e below s _ _ _ (T770.setTop (mkF m 370 #[.val (.long p1), .second, .val (.long p2), .second, .val (.long p3), .second, .val (.long p4), .second, .val (.int p5), .val (.long p6), .second, .val (.long ve557), .second, .val (.long vf558), .second, .val (.ref b559), .val (.ref b567), .val (.ref b579), .val (.ref b603), .val (.ref b637), .val (.ref b671), .val (.int xf709), .val (.int rw710), .val (.int yf711), .val (.int wd712), .val (.int bl713), .val (.ref b714), .val (.long nn766), .second, .val (.long ii767), .second, .val (.long ((own_v3 p1 p2 p3 nx) * (own_v3 p4 ve557 vf558 ny))), .second] [(.int (1 : Int32))]))
  refine own_go (fun t k => XS.goto X770.here hx rfl (pc0 := 370) (pc' := 374) rfl (hb hby at_370) (by decide) (by decide) k) ?_
  show own_End p e below s _ _ _ (T770.setTop (mkF m 374 #[.val (.long p1), .second, .val (.long p2), .second, .val (.long p3), .second, .val (.long p4), .second, .val (.int p5), .val (.long p6), .second, .val (.long ve557), .second, .val (.long vf558), .second, .val (.ref b559), .val (.ref b567), .val (.ref b579), .val (.ref b603), .val (.ref b637), .val (.ref b671), .val (.int xf709), .val (.int rw710), .val (.int yf711), .val (.int wd712), .val (.int bl713), .val (.ref b714), .val (.long nn766), .second, .val (.long ii767), .second, .val (.long ((own_v3 p1 p2 p3 nx) * (own_v3 p4 ve557 vf558 ny))), .second] [(.int (1 : Int32))]))
  exact own_retN X770 hx (t := .boolean) hret hlk (by simp) (hb hby at_374) ⟨rfl, N771⟩ (by decide) (by decide)
set_option maxRecDepth 65536 in
set_option maxHeartbeats 40000000 in
theorem comes_1 {Post : Tables → Env → Array Value → State → Outcome → State → Prop} (hpost : ∀ tb e args s v u, (limb_1_1.after args s (.returned v) u = true ∧ limb_1_2.after args s (.returned v) u = true ∧ True) → FrameEnd s (.returned v) u (Jvm.fieldLocs frame_1_writes args s ++ Jvm.arrayLocs frame_1_arrays args s ++ Jvm.staticLocs frame_1_statics s) 40 192 → Post tb e args s (.returned v) u) :
    ArmFor flags0 classFile x code maxLocals ret World_1 tables_1 room_1 Calls_1 rest_1 Pre_1 Post := by
  intro l hfl _ _ p e ha hc hk s m args below hf hA hF happ hP
  obtain ⟨hcalls, hrest, hpre⟩ := hP
  obtain ⟨-, -, -, hnamed, -, -, -, hat⟩ := (Spec.applies_iff hf).mp happ
  obtain ⟨hg, hn⟩ := and_e (Cond.before_iff.mp (show (Jvm.Cond.and given_1 narrow_1).before args s = true from hpre))
  obtain ⟨g0, r0⟩ := and_e hg
  obtain ⟨g1, r1⟩ := and_e r0
  obtain ⟨g2, r2⟩ := and_e r1
  obtain ⟨g3, r3⟩ := and_e r2
  obtain ⟨g4, r4⟩ := and_e r3
  obtain ⟨g5, r5⟩ := and_e r4
  obtain ⟨w0, w1, w2, w3, w4, w5, rfl⟩ : ∃ w0 w1 w2 w3 w4 w5 : Value, args = #[w0, w1, w2, w3, w4, w5] := by
    have hs : args.size = 6 := by simpa [Cond.value, given_1] using g0
    obtain ⟨L⟩ := args
    match L, hs with
    | [w0, w1, w2, w3, w4, w5], _ => exact ⟨w0, w1, w2, w3, w4, w5, rfl⟩
  have hw := fun d (hd : d ∈ tables_1) => atoms_spec (ws := Jvm.Cond.code x code maxLocals ret :: tables_1) hat d (List.mem_cons_of_mem _ hd)
  have hfit : Fit s := fun {y c} hc i hi => by
    obtain ⟨ha, rfl⟩ := Array.getElem?_eq_some_iff.mp hc
    have q := List.all_eq_true.mp ((Array.all_eq_true_iff_forall_mem.mp hF) _ (Array.getElem_mem ha)) i (List.mem_range.mpr hi)
    simpa [Array.getElem?_eq_getElem hi] using q
  obtain ⟨i0, ei0⟩ := isL_v g1
  obtain rfl : w0 = (.long i0) := Option.some.inj ei0
  obtain ⟨i1, ei1⟩ := isL_v g2
  obtain rfl : w1 = (.long i1) := Option.some.inj ei1
  obtain ⟨i2, ei2⟩ := isL_v g3
  obtain rfl : w2 = (.long i2) := Option.some.inj ei2
  obtain ⟨i3, ei3⟩ := isL_v g4
  obtain rfl : w3 = (.long i3) := Option.some.inj ei3
  obtain ⟨i4, ei4⟩ := is_v g5
  obtain rfl : w4 = (.int i4) := Option.some.inj ei4
  obtain ⟨i5, ei5⟩ := isL_v r5
  obtain rfl : w5 = (.long i5) := Option.some.inj ei5
  obtain ⟨n, o, h1, h2, h3, _, L, rfl, ⟨rfl, N⟩, hq⟩ := rm0 l s _ hw tables_1 i0 i1 i2 i3 i4 i5 s.heap s.heap.size (Nat.le_refl _)  p e ha hc hk s m _ below hf ((Spec.applies_iff_loose hf).mp happ).1 ⟨rfl, State.Warmed39.refl s, rfl⟩ trivial
  refine ⟨n, _, h1, h2, h3, hpost _ _ _ _ _ _ ⟨Cond.after_iff.mpr rfl, Cond.after_iff.mpr (eq_i res_at (Term.int_eval (1)) rfl), trivial⟩ ⟨hq.1, hq.2.1, (hq.2.2.sift fun y hy => Or.inr (N y hy)).mono (by decide) (by decide)⟩⟩
theorem main_1_1 : Claimed_1_1 := comes_1 fun _ _ _ _ _ _ h hF => ⟨h.1, hF⟩
theorem main_1_2 : Claimed_1_2 := comes_1 fun _ _ _ _ _ _ h hF => ⟨h.2.1, hF⟩
end Jvm.Pilot.@@N@@
namespace Jvm.Pilot.@@N@@
open Jvm Jvm.ClassFile Sem Op Lib Jvm.Free Jvm.Stand Jvm.Pilot.@@N@@.Jvm.D
/-! MADE BY PROGRAM (witnessworld.py) out of the Statement's table words and the real class files: 12 classes; the members and pool entries that the words name. The judged class is class 1, her method 1. -/
namespace start1
open Jvm.ClassFile
def u (s : String) : CpInfo := .utf8 (stringToUtf16 s)
/-- a pool by its gaps: so many unusable entries, then the entry; so many at the end -/
def gap : Nat → List CpInfo → List CpInfo
  | 0, r => r
  | n + 1, r => .unusable :: gap n r
def poolList (es : List (Nat × CpInfo)) (last : Nat) : List CpInfo := es.foldr (fun e r => gap e.1 (e.2 :: r)) (gap last [])
def pool (es : List (Nat × CpInfo)) (last : Nat) : Array CpInfo := ⟨poolList es last⟩
def fileOf (pool : Array CpInfo) (this : Nat) (attrs : Array Attribute := #[]) (ms : Array MethodInfo := #[]) (fl : Nat := 33) (sup : Nat := 0) (ifs : Array Nat := #[]) (fds : Array FieldInfo := #[]) : ClassFile where
  minorVersion := 0
  majorVersion := 65
  constantPool := pool
  accessFlags := fl
  thisClass := this
  superClass := sup
  interfaces := ifs
  fields := fds
  methods := ms
  attributes := attrs
def plain (name : String) (sup : Option ClassId) : Class where
  name := name
  kind := .ordinary
  loader := none
  accessFlags := 33
  super := sup
  interfaces := #[]
  cf := none
  fields := #[]
  methods := #[]
  instanceTypes := #[]
  staticTypes := #[]
  resolved := #[]
  callSites := []
  init := .initialized
  statics := none
  mirror := none

def pool0 : Array CpInfo := pool [(5, u "<init>"), (0, u "()V"), (1, .class_ 10), (1, u "java/lang/Object")] 113

def k0c0 : Code := { maxStack := 0, maxLocals := 1, code := object_method_1_code, exceptionTable := #[], attributes := #[] }
def k0m0 : Method := { name := "<init>", desc := "()V", sig := { parameters := [], returnType := none }, accessFlags := 1, code := some k0c0 }
/-- java/lang/Object -/
def k0 : Class := { plain "java/lang/Object" none with
  accessFlags := 33
  interfaces := #[]
  cf := some (fileOf pool0 8 #[] #[{ accessFlags := 1, nameIndex := 5, descriptorIndex := 6, attributes := #[] }] 33 0 #[] #[])
  fields := #[]
  methods := #[k0m0]
  instanceTypes := #[]
  staticTypes := #[]
  resolved := Array.replicate 124 none
  statics := none }

def pool1 : Array CpInfo := pool [(2, .class_ 4), (0, .nameAndType 5 6), (0, u "java/lang/Object"), (0, u "<init>"), (0, u "()V"), (0, .long 18446744073709551615), (1, .class_ 10), (0, u "com/example/ordinate/ordinate/core/PairBlocks"), (0, .methodref 9 3), (0, .methodref 9 13), (0, .nameAndType 14 15), (0, u "add"), (0, u "([I[JII[I[JII)V"), (0, .long 9223372036854775807), (1, .methodref 9 19), (0, .nameAndType 20 21), (0, u "weightOf"), (0, u "(IJ)J"), (0, .class_ 23), (0, u "com/example/ordinate/ordinate/core/PairBlocksWeightOfPinLaw"), (2, u "law"), (0, u "(JJJJIJ)Z")] 7

def k1m0 : Method := { name := "<init>", desc := "()V", sig := { parameters := [], returnType := none }, accessFlags := 1, code := none }
def k1c1 : Code := { maxStack := 10, maxLocals := 33, code := code, exceptionTable := #[], attributes := #[] }
def k1m1 : Method := { name := "law", desc := "(JJJJIJ)Z", sig := { parameters := [.long, .long, .long, .long, .int, .long], returnType := some .boolean }, accessFlags := 9, code := some k1c1 }
/-- com/example/ordinate/ordinate/core/PairBlocksWeightOfPinLaw -/
def k1 : Class := { plain "com/example/ordinate/ordinate/core/PairBlocksWeightOfPinLaw" (some 0) with
  accessFlags := 49
  interfaces := #[]
  cf := some (fileOf pool1 22 #[] #[{ accessFlags := 1, nameIndex := 5, descriptorIndex := 6, attributes := #[] }, { accessFlags := 9, nameIndex := 26, descriptorIndex := 27, attributes := #[] }] 49 2 #[] #[])
  fields := #[]
  methods := #[k1m0, k1m1]
  instanceTypes := #[]
  staticTypes := #[]
  resolved := Array.replicate 35 none
  statics := none }

def pool2 : Array CpInfo := pool [(1, .methodref 2 3), (0, .class_ 4), (0, .nameAndType 5 6), (0, u "java/lang/Object"), (0, u "<init>"), (0, u "()V"), (0, .class_ 8), (0, u "[I"), (0, .fieldref 10 11), (0, .class_ 12), (0, .nameAndType 13 14), (0, u "com/example/ordinate/ordinate/core/PairBlocks"), (0, u "xRuns"), (0, u "[[I"), (0, .fieldref 10 16), (0, .nameAndType 17 8), (0, u "xFroms"), (0, .fieldref 10 19), (0, .nameAndType 20 8), (0, u "xTos"), (0, .class_ 22), (0, u "[J"), (0, .fieldref 10 24), (0, .nameAndType 25 26), (0, u "xWeights"), (0, u "[[J"), (0, .fieldref 10 28), (0, .nameAndType 29 14), (0, u "yRuns"), (0, .fieldref 10 31), (0, .nameAndType 32 8), (0, u "yFroms"), (0, .fieldref 10 34), (0, .nameAndType 35 8), (0, u "yTos"), (0, .fieldref 10 37), (0, .nameAndType 38 26), (0, u "yWeights"), (0, .fieldref 10 40), (0, .nameAndType 41 42), (0, u "count"), (0, u "I"), (1, .class_ 46), (1, u "java/lang/Math"), (1, u "(II)I"), (11, .fieldref 10 61), (0, .nameAndType 62 42), (0, u "xPlaces"), (0, .methodref 44 64), (0, .nameAndType 65 48), (0, u "addExact"), (47, .class_ 114), (0, u "com/example/ordinate/ordinate/core/PairBlocks$1"), (19, .class_ 135), (0, u "com/example/ordinate/ordinate/core/PairBlocks$Place"), (7, .class_ 144), (0, u "com/example/ordinate/ordinate/core/PairBlocks$2"), (15, u "add"), (0, u "([I[JII[I[JII)V"), (3, .class_ 166), (0, u "com/example/ordinate/ordinate/core/PairBlocks$Run"), (6, .class_ 174), (0, u "com/example/ordinate/ordinate/core/PairBlocks$Window"), (26, .class_ 203), (1, u "com/example/ordinate/ordinate/core/PairBlocks$PlaceOrders"), (13, .class_ 219), (1, u "com/example/ordinate/ordinate/core/PairBlocks$Runs"), (10, .class_ 232), (1, u "com/example/ordinate/ordinate/core/PairBlocks$Order"), (18, .class_ 252), (0, u "com/example/ordinate/ordinate/core/PairBlocks$Merge"), (7, .class_ 262), (1, u "com/example/ordinate/ordinate/core/PairBlocks$Sorted"), (8, .class_ 272), (0, u "com/example/ordinate/ordinate/core/PairBlocks$3"), (22, u "weightOf"), (0, u "(IJ)J"), (3, u "SAMPLES"), (2, u "SPREAD"), (1, u "SORTED"), (1, u "GATHERED"), (34, .class_ 343), (0, u "com/example/ordinate/ordinate/core/PairBlocks$Merge$1"), (0, .class_ 345), (0, u "com/example/ordinate/ordinate/core/PairBlocks$Pairs")] 12

def k2c0 : Code := { maxStack := 2, maxLocals := 1, code := prog_98_method_1_code, exceptionTable := #[], attributes := #[] }
def k2m0 : Method := { name := "<init>", desc := "()V", sig := { parameters := [], returnType := none }, accessFlags := 0, code := some k2c0 }
def k2c1 : Code := { maxStack := 4, maxLocals := 10, code := prog_98_method_2_code, exceptionTable := #[], attributes := #[] }
def k2m1 : Method := { name := "add", desc := "([I[JII[I[JII)V", sig := { parameters := [(.array .int), (.array .long), .int, .int, (.array .int), (.array .long), .int, .int], returnType := none }, accessFlags := 0, code := some k2c1 }
def k2c2 : Code := { maxStack := 6, maxLocals := 7, code := prog_98_method_11_code, exceptionTable := #[], attributes := #[] }
def k2m2 : Method := { name := "weightOf", desc := "(IJ)J", sig := { parameters := [.int, .long], returnType := some .long }, accessFlags := 0, code := some k2c2 }
/-- com/example/ordinate/ordinate/core/PairBlocks -/
def k2 : Class := { plain "com/example/ordinate/ordinate/core/PairBlocks" (some 0) with
  accessFlags := 48
  interfaces := #[]
  cf := some (fileOf pool2 10 #[.nestMembers #[251, 342, 260, 173, 165, 201, 217, 134, 344, 230, 271, 143, 113]] #[{ accessFlags := 0, nameIndex := 5, descriptorIndex := 6, attributes := #[] }, { accessFlags := 0, nameIndex := 160, descriptorIndex := 161, attributes := #[] }, { accessFlags := 0, nameIndex := 295, descriptorIndex := 296, attributes := #[] }] 48 2 #[] #[{ accessFlags := 26, nameIndex := 300, descriptorIndex := 42, attributes := #[] }, { accessFlags := 26, nameIndex := 303, descriptorIndex := 42, attributes := #[] }, { accessFlags := 26, nameIndex := 305, descriptorIndex := 42, attributes := #[] }, { accessFlags := 26, nameIndex := 307, descriptorIndex := 42, attributes := #[] }, { accessFlags := 2, nameIndex := 41, descriptorIndex := 42, attributes := #[] }, { accessFlags := 2, nameIndex := 13, descriptorIndex := 14, attributes := #[] }, { accessFlags := 2, nameIndex := 17, descriptorIndex := 8, attributes := #[] }, { accessFlags := 2, nameIndex := 20, descriptorIndex := 8, attributes := #[] }, { accessFlags := 2, nameIndex := 25, descriptorIndex := 26, attributes := #[] }, { accessFlags := 2, nameIndex := 29, descriptorIndex := 14, attributes := #[] }, { accessFlags := 2, nameIndex := 32, descriptorIndex := 8, attributes := #[] }, { accessFlags := 2, nameIndex := 35, descriptorIndex := 8, attributes := #[] }, { accessFlags := 2, nameIndex := 38, descriptorIndex := 26, attributes := #[] }, { accessFlags := 2, nameIndex := 62, descriptorIndex := 42, attributes := #[] }])
  fields := #[{ name := "SAMPLES", type := .int, accessFlags := 26, slot := 0, constantValue := 0 }, { name := "SPREAD", type := .int, accessFlags := 26, slot := 1, constantValue := 0 }, { name := "SORTED", type := .int, accessFlags := 26, slot := 2, constantValue := 0 }, { name := "GATHERED", type := .int, accessFlags := 26, slot := 3, constantValue := 0 }, { name := "count", type := .int, accessFlags := 2, slot := 0, constantValue := 0 }, { name := "xRuns", type := (.array (.array .int)), accessFlags := 2, slot := 1, constantValue := 0 }, { name := "xFroms", type := (.array .int), accessFlags := 2, slot := 2, constantValue := 0 }, { name := "xTos", type := (.array .int), accessFlags := 2, slot := 3, constantValue := 0 }, { name := "xWeights", type := (.array (.array .long)), accessFlags := 2, slot := 4, constantValue := 0 }, { name := "yRuns", type := (.array (.array .int)), accessFlags := 2, slot := 5, constantValue := 0 }, { name := "yFroms", type := (.array .int), accessFlags := 2, slot := 6, constantValue := 0 }, { name := "yTos", type := (.array .int), accessFlags := 2, slot := 7, constantValue := 0 }, { name := "yWeights", type := (.array (.array .long)), accessFlags := 2, slot := 8, constantValue := 0 }, { name := "xPlaces", type := .int, accessFlags := 2, slot := 9, constantValue := 0 }]
  methods := #[k2m0, k2m1, k2m2]
  instanceTypes := #[.int, (.array (.array .int)), (.array .int), (.array .int), (.array (.array .long)), (.array (.array .int)), (.array .int), (.array .int), (.array (.array .long)), .int]
  staticTypes := #[.int, .int, .int, .int]
  resolved := Array.replicate 358 none
  statics := none }

def pool3 : Array CpInfo := pool [(1, .class_ 2), (0, u "java/lang/Math"), (1, .class_ 6), (1, u "java/lang/Object"), (0, u "<init>"), (0, u "()V"), (89, .class_ 100), (1, u "java/lang/Math$RandomNumberGeneratorHolder"), (71, u "negativeZeroFloatBits"), (0, u "J"), (2, u "negativeZeroDoubleBits"), (68, u "$assertionsDisabled"), (0, u "Z"), (88, u "(II)I"), (2, u "twoToTheDoubleScaleDown"), (0, u "D"), (4, u "twoToTheDoubleScaleUp"), (9, u "E"), (3, u "PI"), (2, u "TAU"), (2, u "DEGREES_TO_RADIANS"), (0, u "RADIANS_TO_DEGREES"), (27, u "addExact")] 66

def k3m0 : Method := { name := "<init>", desc := "()V", sig := { parameters := [], returnType := none }, accessFlags := 2, code := none }
def k3c1 : Code := { maxStack := 3, maxLocals := 3, code := jdk_29_method_24_code, exceptionTable := #[], attributes := #[] }
def k3m1 : Method := { name := "addExact", desc := "(II)I", sig := { parameters := [.int, .int], returnType := some .int }, accessFlags := 9, code := some k3c1 }
/-- java/lang/Math -/
def k3 : Class := { plain "java/lang/Math" (some 0) with
  accessFlags := 49
  interfaces := #[]
  cf := some (fileOf pool3 1 #[.nestMembers #[98]] #[{ accessFlags := 2, nameIndex := 7, descriptorIndex := 8, attributes := #[] }, { accessFlags := 9, nameIndex := 393, descriptorIndex := 335, attributes := #[] }] 49 4 #[] #[{ accessFlags := 25, nameIndex := 354, descriptorIndex := 339, attributes := #[] }, { accessFlags := 25, nameIndex := 358, descriptorIndex := 339, attributes := #[] }, { accessFlags := 25, nameIndex := 361, descriptorIndex := 339, attributes := #[] }, { accessFlags := 26, nameIndex := 364, descriptorIndex := 339, attributes := #[] }, { accessFlags := 26, nameIndex := 365, descriptorIndex := 339, attributes := #[] }, { accessFlags := 26, nameIndex := 172, descriptorIndex := 173, attributes := #[] }, { accessFlags := 26, nameIndex := 176, descriptorIndex := 173, attributes := #[] }, { accessFlags := 8, nameIndex := 344, descriptorIndex := 339, attributes := #[] }, { accessFlags := 8, nameIndex := 338, descriptorIndex := 339, attributes := #[] }, { accessFlags := 4120, nameIndex := 245, descriptorIndex := 246, attributes := #[] }])
  fields := #[{ name := "E", type := .double, accessFlags := 25, slot := 0, constantValue := 0 }, { name := "PI", type := .double, accessFlags := 25, slot := 1, constantValue := 0 }, { name := "TAU", type := .double, accessFlags := 25, slot := 2, constantValue := 0 }, { name := "DEGREES_TO_RADIANS", type := .double, accessFlags := 26, slot := 3, constantValue := 0 }, { name := "RADIANS_TO_DEGREES", type := .double, accessFlags := 26, slot := 4, constantValue := 0 }, { name := "negativeZeroFloatBits", type := .long, accessFlags := 26, slot := 5, constantValue := 0 }, { name := "negativeZeroDoubleBits", type := .long, accessFlags := 26, slot := 6, constantValue := 0 }, { name := "twoToTheDoubleScaleUp", type := .double, accessFlags := 8, slot := 7, constantValue := 0 }, { name := "twoToTheDoubleScaleDown", type := .double, accessFlags := 8, slot := 8, constantValue := 0 }, { name := "$assertionsDisabled", type := .boolean, accessFlags := 4120, slot := 9, constantValue := 0 }]
  methods := #[k3m0, k3m1]
  instanceTypes := #[]
  staticTypes := #[.double, .double, .double, .double, .double, .long, .long, .double, .double, .boolean]
  resolved := Array.replicate 460 none
  statics := none }

def pool4 : Array CpInfo := pool [(1, u "java/lang/Cloneable"), (0, .class_ 1), (0, u "java/lang/Object"), (0, .class_ 3)] 3

/-- java/lang/Cloneable -/
def k4 : Class := { plain "java/lang/Cloneable" (some 0) with
  accessFlags := 1537
  interfaces := #[]
  cf := some (fileOf pool4 2 #[] #[] 1537 4 #[] #[])
  fields := #[]
  methods := #[]
  instanceTypes := #[]
  staticTypes := #[]
  resolved := Array.replicate 8 none
  statics := none }

def pool5 : Array CpInfo := pool [(1, u "java/io/Serializable"), (0, .class_ 1), (0, u "java/lang/Object"), (0, .class_ 3)] 3

/-- java/io/Serializable -/
def k5 : Class := { plain "java/io/Serializable" (some 0) with
  accessFlags := 1537
  interfaces := #[]
  cf := some (fileOf pool5 2 #[] #[] 1537 4 #[] #[])
  fields := #[]
  methods := #[]
  instanceTypes := #[]
  staticTypes := #[]
  resolved := Array.replicate 8 none
  statics := none }

/-- the primitive byte -/
def k6 : Class := { plain "byte" none with kind := .primitive 'B', accessFlags := 0x411 }
/-- [B -/
def k7 : Class := { plain "[B" (some 0) with kind := .array 6 .byte, interfaces := #[4, 5], accessFlags := 1041 }

/-- the primitive int -/
def k8 : Class := { plain "int" none with kind := .primitive 'I', accessFlags := 0x411 }
/-- [I -/
def k9 : Class := { plain "[I" (some 0) with kind := .array 8 .int, interfaces := #[4, 5], accessFlags := 1041 }

/-- the primitive long -/
def k10 : Class := { plain "long" none with kind := .primitive 'J', accessFlags := 0x411 }
/-- [J -/
def k11 : Class := { plain "[J" (some 0) with kind := .array 10 .long, interfaces := #[4, 5], accessFlags := 1041 }

def k12 : Class := { plain "[[I" (some 0) with kind := .array 9 (.array .int), interfaces := #[4, 5], accessFlags := 1041 }
def k13 : Class := { plain "[[J" (some 0) with kind := .array 11 (.array .long), interfaces := #[4, 5], accessFlags := 1041 }
def heap : Heap := #[]
def classes : Array Class := #[k0, k1, k2, k3, k4, k5, k6, k7, k8, k9, k10, k11, k12, k13]
def interned : List (Array UInt16 × Addr) := []
def slotsUsed : Nat := 0
def theMethod : MethodId := ⟨1, 1⟩
def args0 : Array Value := #[.long 5, .long 3, .long 7, .long 4, .int 9, .long 2]
def aboutOver (below : List Frame) : State where
  vm := { classes := classes, interned := interned.toArray }
  heap := heap
  slotsUsed := slotsUsed
  threads := #[{ frames := .invoking theMethod args0 :: below }]
def below0 : List Frame := [.native { method := ⟨0, 0⟩, args := #[] }]
def about1 : State := aboutOver below0
def p0 : Program := .bare "" "" ""
def e0 : Env := launch0.env 0 0 0
theorem w_frames : about1.frames = Frame.invoking theMethod args0 :: below0 := rfl
set_option maxRecDepth 65536 in
theorem w_args : argsFit about1.vm theMethod args0 = true := by decide +kernel
set_option maxRecDepth 65536 in
theorem w_heap : heapFits about1 = true := by decide +kernel
set_option maxRecDepth 65536 in
theorem w_runnable : about1.curStatus? = some .runnable := by decide +kernel
set_option maxRecDepth 65536 in
theorem w_alone : about1.alone = true := by decide +kernel
set_option maxRecDepth 65536 in
theorem w_named : about1.methodNamed? x = some theMethod := by decide +kernel
set_option maxRecDepth 65536 in
theorem w_hears : about1.hears theMethod below0 = true := by decide +kernel
set_option maxRecDepth 65536 in
theorem w_ripe : about1.ripe theMethod args0 below0 = true := by decide +kernel
theorem w_running : about1.status = .running := rfl
set_option maxRecDepth 65536 in
theorem w_room : about1.hasRoom e0.platform room_1 = true :=
  launch0.hasRoom_least _ room_1 (by decide +kernel) (by decide +kernel) (by decide +kernel) (by decide +kernel) (by decide +kernel) (by decide +kernel)
theorem allAtoms_all (ts : List Jvm.Cond) (a : Array Jvm.Value) (st : Jvm.State) : (allAtoms ts).before a st = ts.all (fun c => c.before a st) := by
  induction ts with
  | nil => rfl
  | cons c t ih =>
    show (Jvm.Cond.and c (allAtoms t)).before a st = _
    rw [Jvm.Cond.before_and, ih, List.all_cons]
def words1 : List Jvm.Cond := Jvm.Cond.code x code maxLocals ret :: tables_1
/-- a 'code' word, met by the world's own term for the bytes: nothing is compared byte by byte -/
theorem code_word {y : MethodName} {bytes : ByteArray} {mx : Nat} {rt : Option FieldType} {a : Array Value} {s : State} {m : MethodId} {meth : Method} {c : Code} (h1 : s.methodNamed? y = some m) (h2 : s.vm.method? m = some meth) (h3 : meth.code = some c) (h4 : c.code = bytes)
    (h5 : (c.maxLocals == mx && c.exceptionTable.isEmpty && decide (c.maxStack ≤ mostOperands) && decide (meth.sig.returnType = rt) && !meth.locks && decide (parseMethodDescriptor y.desc = some meth.sig)) = true) : (Jvm.Cond.code y bytes mx rt).before a s = true := by
  simp only [Bool.and_eq_true, beq_iff_eq, Bool.not_eq_true', decide_eq_true_eq] at h5
  obtain ⟨⟨⟨⟨⟨g1, g2⟩, g3⟩, g4⟩, g5⟩, g6⟩ := h5
  simp [Cond.before, Cond.holds, Cond.value, h1, h2, h3, h4, g1, g2, g3, g4, g5, g6]
def isCode : Jvm.Cond → Bool
  | .code _ _ _ _ => true
  | _ => false
theorem all_split {L : List Jvm.Cond} {P : Jvm.Cond → Bool} (h1 : L.all (fun c => isCode c || P c) = true) (h2 : ∀ c ∈ L.filter isCode, P c = true) : L.all P = true := by
  refine List.all_eq_true.mpr fun c hc => ?_
  have h := List.all_eq_true.mp h1 c hc
  rcases Bool.eq_false_or_eq_true (isCode c) with hi | hi
  · exact h2 c (List.mem_filter.mpr ⟨hc, hi⟩)
  · simpa [hi] using h
set_option maxRecDepth 65536 in
theorem w_c0 : (Jvm.Cond.code x code maxLocals ret).before args0 about1 = true := code_word (m := ⟨1, 1⟩) (meth := k1m1) (c := k1c1) (by decide +kernel) rfl rfl rfl (by decide +kernel)
set_option maxRecDepth 65536 in
theorem w_c1 : (Jvm.Cond.code ({ cls := "com/example/ordinate/ordinate/core/PairBlocks", name := "<init>", desc := "()V" } : Jvm.MethodName) prog_98_method_1_code (1 : Nat) (Option.none : Option Jvm.ClassFile.FieldType)).before args0 about1 = true := code_word (m := ⟨2, 0⟩) (meth := k2m0) (c := k2c0) (by decide +kernel) rfl rfl rfl (by decide +kernel)
set_option maxRecDepth 65536 in
theorem w_c2 : (Jvm.Cond.code ({ cls := "java/lang/Object", name := "<init>", desc := "()V" } : Jvm.MethodName) object_method_1_code (1 : Nat) (Option.none : Option Jvm.ClassFile.FieldType)).before args0 about1 = true := code_word (m := ⟨0, 0⟩) (meth := k0m0) (c := k0c0) (by decide +kernel) rfl rfl rfl (by decide +kernel)
set_option maxRecDepth 65536 in
theorem w_c3 : (Jvm.Cond.code ({ cls := "com/example/ordinate/ordinate/core/PairBlocks", name := "add", desc := "([I[JII[I[JII)V" } : Jvm.MethodName) prog_98_method_2_code (10 : Nat) (Option.none : Option Jvm.ClassFile.FieldType)).before args0 about1 = true := code_word (m := ⟨2, 1⟩) (meth := k2m1) (c := k2c1) (by decide +kernel) rfl rfl rfl (by decide +kernel)
set_option maxRecDepth 65536 in
theorem w_c4 : (Jvm.Cond.code ({ cls := "java/lang/Math", name := "addExact", desc := "(II)I" } : Jvm.MethodName) jdk_29_method_24_code (3 : Nat) (Option.some Jvm.ClassFile.FieldType.int)).before args0 about1 = true := code_word (m := ⟨3, 1⟩) (meth := k3m1) (c := k3c1) (by decide +kernel) rfl rfl rfl (by decide +kernel)
set_option maxRecDepth 65536 in
theorem w_c5 : (Jvm.Cond.code ({ cls := "com/example/ordinate/ordinate/core/PairBlocks", name := "weightOf", desc := "(IJ)J" } : Jvm.MethodName) prog_98_method_11_code (7 : Nat) (Option.some Jvm.ClassFile.FieldType.long)).before args0 about1 = true := code_word (m := ⟨2, 2⟩) (meth := k2m2) (c := k2c2) (by decide +kernel) rfl rfl rfl (by decide +kernel)
def codes1 : List Jvm.Cond := [Jvm.Cond.code x code maxLocals ret, Jvm.Cond.code ({ cls := "com/example/ordinate/ordinate/core/PairBlocks", name := "<init>", desc := "()V" } : Jvm.MethodName) prog_98_method_1_code (1 : Nat) (Option.none : Option Jvm.ClassFile.FieldType), Jvm.Cond.code ({ cls := "java/lang/Object", name := "<init>", desc := "()V" } : Jvm.MethodName) object_method_1_code (1 : Nat) (Option.none : Option Jvm.ClassFile.FieldType), Jvm.Cond.code ({ cls := "com/example/ordinate/ordinate/core/PairBlocks", name := "add", desc := "([I[JII[I[JII)V" } : Jvm.MethodName) prog_98_method_2_code (10 : Nat) (Option.none : Option Jvm.ClassFile.FieldType), Jvm.Cond.code ({ cls := "java/lang/Math", name := "addExact", desc := "(II)I" } : Jvm.MethodName) jdk_29_method_24_code (3 : Nat) (Option.some Jvm.ClassFile.FieldType.int), Jvm.Cond.code ({ cls := "com/example/ordinate/ordinate/core/PairBlocks", name := "weightOf", desc := "(IJ)J" } : Jvm.MethodName) prog_98_method_11_code (7 : Nat) (Option.some Jvm.ClassFile.FieldType.long)]
set_option maxRecDepth 65536 in
theorem codes_eq : words1.filter isCode = codes1 := rfl
theorem w_codes : ∀ c ∈ words1.filter isCode, c.before args0 about1 = true := by
  rw [codes_eq]
  intro c hc
  simp only [codes1, List.mem_cons, List.not_mem_nil, or_false] at hc
  rcases hc with rfl | rfl | rfl | rfl | rfl | rfl
  · exact w_c0
  · exact w_c1
  · exact w_c2
  · exact w_c3
  · exact w_c4
  · exact w_c5
set_option maxRecDepth 65536 in
theorem w_t1 : (words1.take 24).all (fun c => isCode c || c.before args0 about1) = true := by decide +kernel
set_option maxRecDepth 65536 in
theorem w_t2 : ((words1.drop 24).take 24).all (fun c => isCode c || c.before args0 about1) = true := by decide +kernel
set_option maxRecDepth 65536 in
theorem w_t3 : ((words1.drop 24).drop 24).all (fun c => isCode c || c.before args0 about1) = true := by decide +kernel
theorem w_tables : (allAtoms (Jvm.Cond.code x code maxLocals ret :: tables_1)).before args0 about1 = true := by
  rw [allAtoms_all]
  show words1.all (fun c => c.before args0 about1) = true
  refine all_split ?_ w_codes
  rw [← List.take_append_drop 24 words1, List.all_append, w_t1, ← List.take_append_drop 24 (words1.drop 24), List.all_append, w_t2, w_t3]
  rfl
set_option maxRecDepth 65536 in
theorem w_case : (Jvm.Cond.and given_1 narrow_1).before args0 about1 = true := by decide +kernel
theorem w_applies : (headSpec (Jvm.Cond.code x code maxLocals ret :: tables_1) room_1).applies x e0.platform about1 = true :=
  (Spec.applies_iff w_frames).mpr ⟨w_running, w_runnable, w_alone, w_named, w_hears, w_ripe, w_room, w_tables⟩
theorem atStart : AtStart classFile x code maxLocals ret World_1 tables_1 room_1 Calls_1 rest_1 Pre_1 launch0 p0 e0 about1 theMethod args0 below0 :=
  ⟨lists_1, trivial, launch0.admits_env _ _ _, launch0.least_env, fairChoices_fair.cas, fairChoices_fair.clock, w_frames, w_args, w_heap, w_applies, trivial, trivial, w_case⟩
end start1
theorem witness_1 : WitnessClaimed_1 := ⟨start1.p0, start1.e0, start1.about1, start1.theMethod, start1.args0, start1.below0, start1.atStart⟩
end Jvm.Pilot.@@N@@
