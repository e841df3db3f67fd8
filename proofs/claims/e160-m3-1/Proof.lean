import JvmDerived
import JvmDerived.Pilot.@@N@@Statement
import JvmDerived.Pilot.@@N@@Code
set_option linter.unusedVariables false
set_option linter.unusedSimpArgs false
namespace Jvm.Pilot.@@N@@
open Jvm Jvm.ClassFile Sem Op Lib Jvm.Free Jvm.Stand Jvm.LawKit Jvm.RoadKit Bundle Jvm.Pilot.@@N@@.Jvm.D
/-! own kit, part 1: what a walk still owes, as a predicate on the state it stands at -/
section Own
variable {p : Program} {l : Launch} {e : Env} {R : Room} {s : State} {m : MethodId} {args : Array Value} {below : List Frame} {meth : Method} {c : Code} {T : State} {locs : List Loc} {cells slots : Nat} {Z : State} {a0 : Array Value} {h : Heap} {Q : Option Value → Heap → List Loc → Prop} {kc ks : Nat}
def own_End (p : Program) (e : Env) (below : List Frame) (s : State) (Q : Option Value → Heap → List Loc → Prop) (kc ks : Nat) (A : State) : Prop :=
  ∃ s₂ o, Steps p.tables e below A s₂ ∧ s₂.status = .running ∧ Ended s₂ below o ∧ ∃ v L, o = .returned v ∧ Q v s₂.heap L ∧ FrameEnd s o s₂ L kc ks
theorem own_go {A B : State} (h : ∀ t, Steps p.tables e below B t → Steps p.tables e below A t) (k : own_End p e below s Q kc ks B) : own_End p e below s Q kc ks A := by
  obtain ⟨s₂, o, h1, r⟩ := k
  exact ⟨s₂, o, h _ h1, r⟩
/-- a word on 'what is owed' is shown first and used behind -/
theorem own_join {A : State} (F : (State → Prop) → Prop) (h1 : F (own_End p e below s Q kc ks)) (h2 : F (own_End p e below s Q kc ks) → own_End p e below s Q kc ks A) : own_End p e below s Q kc ks A := h2 h1
abbrev own_Met (l : Launch) (y : MethodName) (bytes : ByteArray) (maxL : Nat) (rt : Option FieldType) (ws : List Jvm.Cond) (rm : Room) (as' : Array Value) (Z : State) (h0 : Heap) (Q : Option Value → Heap → List Loc → Prop) : Prop :=
  MetFree l y (head1 (Jvm.Cond.code y bytes maxL rt :: ws) rm) (fun a U => a = as' ∧ Z.Warmed39 U.vm ∧ U.heap = h0) (fun _ _ _ _ _ => True) (fun _ U o U' => ∃ v L, o = .returned v ∧ Q v U'.heap L ∧ FrameEnd U o U' L rm.cells rm.slots)
theorem own_body {y : MethodName} {bytes : ByteArray} {maxL : Nat} {rt : Option FieldType} {ws : List Jvm.Cond} {rm : Room} {as' : Array Value} {h0 : Heap} (pn : plainFor y = true)
    (body : ∀ (p : Program) (e : Env) (s : State) (m : MethodId) (below : List Frame) (meth : Method) (c : Code) (s₁ : State), Stand p l e rm s m as' below meth c s₁ [] 0 0 → p.tables.exec = Jvm.exec → c.code = bytes → c.maxLocals = maxL → meth.sig.returnType = rt → meth.locks = false → s.vm.findClass y.cls = some m.cls → meth.name = y.name → Z.Warmed39 s.vm → s₁.heap = h0 → own_End p e below s Q rm.cells rm.slots (s₁.setTop (entryFrame m as' maxL))) :
    own_Met l y bytes maxL rt ws rm as' Z h0 Q := by
  refine MetFree.of_bodySF pn hisR ?_
  intro p e s m args below meth c s₁ Bd hml0 hP hK
  obtain ⟨rfl, hZ, hh⟩ := hP
  exact body p e s m below meth c s₁ (Stand.of_body Bd) Bd.exec Bd.bytes hml0 Bd.returns Bd.notSynchronized (findClass_of_methodNamed Bd.named) (name_of_methodNamed Bd.named Bd.method).1 hZ (by rw [← hh, Bd.state]; rfl)
theorem own_retN (X : Stand p l e R s m args below meth c T locs cells slots) (hx : p.tables.exec = Jvm.exec) {t : FieldType} (hret : meth.sig.returnType = some t) (hlk : meth.locks = false) (ht : t = .boolean ∨ t = .byte ∨ t = .char ∨ t = .short) {pc : Nat} {Ls : Array Slot} {z : Int32} {rest : List Value} (hd : decode c.code pc = .ok (.ireturn, 1)) (hq : Q (some (.int (nar t z))) T.heap locs) (h1 : cells ≤ kc) (h2 : slots ≤ ks) :
    own_End p e below s Q kc ks (T.setTop (mkF m pc Ls (.int z :: rest))) := by
  obtain ⟨fs, hr, hrun, hended, hW, hsame⟩ := X.leave (v := some (.int (nar t z))) (fun h => by rw [hret] at h; cases h) hlk
  exact ⟨_, _, retN X hx hret ht hd hr, hrun, hended, _, _, rfl, hq, ⟨_, rfl⟩, hW, hsame.mono h1 h2⟩
theorem own_retI (X : Stand p l e R s m args below meth c T locs cells slots) (hx : p.tables.exec = Jvm.exec) (hret : meth.sig.returnType = some .int) (hlk : meth.locks = false) {pc : Nat} {Ls : Array Slot} {z : Int32} {rest : List Value} (hd : decode c.code pc = .ok (.ireturn, 1)) (hq : Q (some (.int z)) T.heap locs) (h1 : cells ≤ kc) (h2 : slots ≤ ks) :
    own_End p e below s Q kc ks (T.setTop (mkF m pc Ls (.int z :: rest))) := by
  obtain ⟨fs, hr, hrun, hended, hW, hsame⟩ := X.leave (v := some (.int z)) (fun h => by rw [hret] at h; cases h) hlk
  exact ⟨_, _, retOut X hx hret rfl (Or.inl ⟨rfl, Or.inl rfl, z, rfl⟩) hd hr, hrun, hended, _, _, rfl, hq, ⟨_, rfl⟩, hW, hsame.mono h1 h2⟩
theorem own_retJ (X : Stand p l e R s m args below meth c T locs cells slots) (hx : p.tables.exec = Jvm.exec) (hret : meth.sig.returnType = some .long) (hlk : meth.locks = false) {pc : Nat} {Ls : Array Slot} {z : Int64} {rest : List Value} (hd : decode c.code pc = .ok (.lreturn, 1)) (hq : Q (some (.long z)) T.heap locs) (h1 : cells ≤ kc) (h2 : slots ≤ ks) :
    own_End p e below s Q kc ks (T.setTop (mkF m pc Ls (.long z :: rest))) := by
  obtain ⟨fs, hr, hrun, hended, hW, hsame⟩ := X.leave (v := some (.long z)) (fun h => by rw [hret] at h; cases h) hlk
  exact ⟨_, _, retOut X hx hret rfl (Or.inr (Or.inl ⟨rfl, rfl, z, rfl⟩)) hd hr, hrun, hended, _, _, rfl, hq, ⟨_, rfl⟩, hW, hsame.mono h1 h2⟩
theorem own_retA (X : Stand p l e R s m args below meth c T locs cells slots) (hx : p.tables.exec = Jvm.exec) {t : FieldType} (ht : t.isReference = true) (hret : meth.sig.returnType = some t) (hlk : meth.locks = false) {pc : Nat} {Ls : Array Slot} {b : Addr} (hd : decode c.code pc = .ok (.areturn, 1)) (hq : Q (some (.ref b)) T.heap locs) (h1 : cells ≤ kc) (h2 : slots ≤ ks) :
    own_End p e below s Q kc ks (T.setTop (mkF m pc Ls [.ref b])) := by
  obtain ⟨fs, hr, hrun, hended, hW, hsame⟩ := X.leave (v := some (.ref b)) (fun h => by rw [hret] at h; cases h) hlk
  exact ⟨_, _, X.areturnOut hx rfl hret ht hd hr, hrun, hended, _, _, rfl, hq, ⟨_, rfl⟩, hW, hsame.mono h1 h2⟩
theorem own_ret (X : Stand p l e R s m args below meth c T locs cells slots) (hx : p.tables.exec = Jvm.exec) (hret : meth.sig.returnType = none) (hlk : meth.locks = false) {pc : Nat} {Ls : Array Slot} (hd : decode c.code pc = .ok (.return_, 1)) (hq : Q none T.heap locs) (h1 : cells ≤ kc) (h2 : slots ≤ ks) :
    own_End p e below s Q kc ks (T.setTop (mkF m pc Ls [])) := by
  obtain ⟨fs, hr, hrun, hended, hW, hsame⟩ := X.leave (v := none) (fun _ => rfl) hlk
  exact ⟨_, _, X.returnOut hx hret hd hr, hrun, hended, _, _, rfl, hq, ⟨_, rfl⟩, hW, hsame.mono h1 h2⟩
/-! own kit, part 2: calls by a callee's contract -/
theorem own_callS (X : Stand p l e R s m args below meth c T locs cells slots) (hx : p.tables.exec = Jvm.exec) (hZ : Z.Warmed39 s.vm) {own : String} {index : Nat} {y : MethodName} {bytes : ByteArray} {maxL : Nat} {rt : Option FieldType} {rm : Room} {as' : Array Value} {Qc : Option Value → Heap → List Loc → Prop} (W : Nat)
    (hown : s.vm.findClass own = some m.cls) (w1 : (Cond.methodLink own index y).before a0 Z = true) (w2 : (Cond.static y).before a0 Z = true) (w3 : (Cond.initialized y.cls).before a0 Z = true) (w4 : (Cond.code y bytes maxL rt).before a0 Z = true)
    (hy : y.cls ≠ "java/lang/invoke/MethodHandle" ∧ y.cls ≠ "java/lang/invoke/VarHandle") (hM : own_Met l y bytes maxL rt [] rm as' Z h Qc) (eT : T.heap = h)
    {pc : Nat} {Ls : Array Slot} {st : List Value} (argsL rest : List Value) (hsize : Ls.size = c.maxLocals) (hst : st = argsL.reverse ++ rest) (has : argsL.toArray = as') (hlen : ∀ sig, parseMethodDescriptor y.desc = some sig → argsL.length = sig.parameters.length)
    (hW : (rest.map fun v => v.category).sum ≤ W) (hd : decode c.code pc = .ok (.invokestatic index, 3)) (hf : rm.frames + 1 ≤ R.frames) (hl : W + (maxL + 11) + rm.locals ≤ R.locals) (hc : cells + rm.cells ≤ R.cells) (hs : slots + rm.slots ≤ R.slots) :
    ∃ v T' L, Stand p l e R s m args below meth c T' (locs ++ L) (cells + rm.cells) (slots + rm.slots) ∧ Qc v T'.heap L ∧ ∀ t, Steps p.tables e below (T'.setTop (mkF m (pc + 3) Ls (v.toList ++ rest))) t → Steps p.tables e below (T.setTop (mkF m pc Ls st)) t := by
  obtain ⟨v, vm1, ⟨T', L', k', n'⟩, -, X', ⟨L, hQ, l1, y1, z1⟩, st'⟩ := Jvm.LawKit.callS X hx (y := y) hown (mvT hZ w1) (mvT hZ w2) (mvT hZ w3) (mvT hZ w4) hy (backOf (W := W) hM hZ w4 w3 hf hl) (g := mkF m pc Ls st) rfl hsize (argsL := argsL) (rest := rest) hlen hst (by show 2 * 0 + _ ≤ _; omega) hd (fun _ _ => ⟨has, eT, hc, hs⟩)
  dsimp only [Pt.U, Pt.locs, Pt.cells, Pt.slots] at X' l1 y1 z1 st' hQ
  subst l1 y1 z1
  exact ⟨v, T', L, X', hQ, st'⟩
theorem own_callV (X : Stand p l e R s m args below meth c T locs cells slots) (hx : p.tables.exec = Jvm.exec) (hZ : Z.Warmed39 s.vm) {own C : String} {index : Nat} {y : MethodName} {bytes : ByteArray} {maxL : Nat} {rt : Option FieldType} {rm : Room} {as' : Array Value} {Qc : Option Value → Heap → List Loc → Prop} (W : Nat)
    (hown : s.vm.findClass own = some m.cls) (w1 : (Cond.methodLink own index y).before a0 Z = true) (w2 : (Cond.declares y).before a0 Z = true) (w3 : (Cond.selects C y y).before a0 Z = true) (w4 : (Cond.instanceMethod y).before a0 Z = true) (w5 : (Cond.initialized y.cls).before a0 Z = true) (w6 : (Cond.code y bytes maxL rt).before a0 Z = true)
    (hy : y.cls ≠ "java/lang/invoke/MethodHandle" ∧ y.cls ≠ "java/lang/invoke/VarHandle") (hM : own_Met l y bytes maxL rt [] rm as' Z h Qc) (eT : T.heap = h) {b : Addr} (E : Exa Z h b C)
    {pc : Nat} {Ls : Array Slot} {st : List Value} (argsL rest : List Value) (hsize : Ls.size = c.maxLocals) (hst : st = argsL.reverse ++ .ref b :: rest) (has : (.ref b :: argsL).toArray = as') (hlen : ∀ sig, parseMethodDescriptor y.desc = some sig → argsL.length = sig.parameters.length)
    (hW : (rest.map fun v => v.category).sum ≤ W) (hd : decode c.code pc = .ok (.invokevirtual index, 3)) (hf : rm.frames + 1 ≤ R.frames) (hl : W + (maxL + 11) + rm.locals ≤ R.locals) (hc : cells + rm.cells ≤ R.cells) (hs : slots + rm.slots ≤ R.slots) :
    ∃ v T' L, Stand p l e R s m args below meth c T' (locs ++ L) (cells + rm.cells) (slots + rm.slots) ∧ Qc v T'.heap L ∧ ∀ t, Steps p.tables e below (T'.setTop (mkF m (pc + 3) Ls (v.toList ++ rest))) t → Steps p.tables e below (T.setTop (mkF m pc Ls st)) t := by
  obtain ⟨cq, kq, q1, q2, q3⟩ := isOf hZ eT E
  obtain ⟨v, vm1, ⟨T', L', k', n'⟩, -, X', ⟨L, hQ, l1, y1, z1⟩, st'⟩ := X.virtualBack hx (y := y) (z := y) hown (mvT hZ w1) (mvT hZ w2) (notFace_of_selects (args := #[]) (mvT hZ w3)) (mvT hZ w3) (mvT hZ w4) hy (backOf (W := W) hM hZ w6 w5 hf hl) q1 q3 (g := mkF m pc Ls st) rfl hsize (Steps.refl _) (argsL := argsL) (rest := rest) hlen hst (by show 2 * 0 + _ ≤ _; omega) hd (fun _ _ => ⟨has, eT, hc, hs⟩)
  dsimp only [Pt.U, Pt.locs, Pt.cells, Pt.slots] at X' l1 y1 z1 st' hQ
  subst l1 y1 z1
  exact ⟨v, T', L, X', hQ, fun t k => st'.trans k⟩
theorem own_callI (X : Stand p l e R s m args below meth c T locs cells slots) (hx : p.tables.exec = Jvm.exec) (hZ : Z.Warmed39 s.vm) {own : String} {index : Nat} {y : MethodName} {bytes : ByteArray} {maxL : Nat} {rm : Room} {as' : Array Value} {Qc : Option Value → Heap → List Loc → Prop} (W : Nat) (hi : y.name = "<init>")
    (hown : s.vm.findClass own = some m.cls) (w1 : (Cond.methodLink own index y).before a0 Z = true) (w4 : (Cond.instanceMethod y).before a0 Z = true) (w5 : (Cond.initialized y.cls).before a0 Z = true) (w6 : (Cond.code y bytes maxL none).before a0 Z = true)
    (hy : y.cls ≠ "java/lang/invoke/MethodHandle" ∧ y.cls ≠ "java/lang/invoke/VarHandle") (hM : own_Met l y bytes maxL none [] rm as' Z h Qc) (eT : T.heap = h) {b : Addr}
    {pc : Nat} {Ls : Array Slot} {st : List Value} (argsL rest : List Value) (hsize : Ls.size = c.maxLocals) (hst : st = argsL.reverse ++ .ref b :: rest) (has : (.ref b :: argsL).toArray = as') (hlen : ∀ sig, parseMethodDescriptor y.desc = some sig → argsL.length = sig.parameters.length)
    (hW : (rest.map fun v => v.category).sum ≤ W) (hd : decode c.code pc = .ok (.invokespecial index, 3)) (hf : rm.frames + 1 ≤ R.frames) (hl : W + (maxL + 11) + rm.locals ≤ R.locals) (hc : cells + rm.cells ≤ R.cells) (hs : slots + rm.slots ≤ R.slots) :
    ∃ v T' L, Stand p l e R s m args below meth c T' (locs ++ L) (cells + rm.cells) (slots + rm.slots) ∧ Qc v T'.heap L ∧ ∀ t, Steps p.tables e below (T'.setTop (mkF m (pc + 3) Ls (v.toList ++ rest))) t → Steps p.tables e below (T.setTop (mkF m pc Ls st)) t := by
  obtain ⟨v, vm1, ⟨T', L', k', n'⟩, -, X', ⟨L, hQ, l1, y1, z1⟩, st'⟩ := X.specialBack hx (y := y) hi hown (mvT hZ w1) (mvT hZ w4) (mvT hZ w6) hy (backOf (W := W) hM hZ w6 w5 hf hl) (g := mkF m pc Ls st) rfl hsize (Steps.refl _) (a := b) (argsL := argsL) (rest := rest) hlen hst (by show 2 * 0 + _ ≤ _; omega) hd (fun _ _ => ⟨has, eT, hc, hs⟩)
  dsimp only [Pt.U, Pt.locs, Pt.cells, Pt.slots] at X' l1 y1 z1 st' hQ
  subst l1 y1 z1
  exact ⟨v, T', L, X', hQ, fun t k => st'.trans k⟩
/-! own kit, part 3: comparisons, said of the numbers -/
theorem own_ltY {x y : Int32} {k : Int} (hy : y.toInt = k) (q : x.toInt < k) : if_icmp.holds .lt x y = true := (tlt (Int32.lt_iff_toInt_lt.mpr (by omega))).1
theorem own_ltN {x y : Int32} {k : Int} (hy : y.toInt = k) (q : ¬ x.toInt < k) : if_icmp.holds .lt x y = false := (flt (fun z => q (by have := Int32.lt_iff_toInt_lt.mp z; omega))).1
theorem own_geY {x y : Int32} {k : Int} (hy : y.toInt = k) (q : k ≤ x.toInt) : if_icmp.holds .ge x y = true := (flt (fun z => by have := Int32.lt_iff_toInt_lt.mp z; omega)).2.1
theorem own_geN {x y : Int32} {k : Int} (hy : y.toInt = k) (q : ¬ k ≤ x.toInt) : if_icmp.holds .ge x y = false := (tlt (Int32.lt_iff_toInt_lt.mpr (by omega))).2.1
theorem own_gtY {x y : Int32} {k : Int} (hy : y.toInt = k) (q : k < x.toInt) : if_icmp.holds .gt x y = true := (tlt (x := y) (y := x) (Int32.lt_iff_toInt_lt.mpr (by omega))).2.2.1
theorem own_gtN {x y : Int32} {k : Int} (hy : y.toInt = k) (q : ¬ k < x.toInt) : if_icmp.holds .gt x y = false := (flt (x := y) (y := x) (fun z => q (by have := Int32.lt_iff_toInt_lt.mp z; omega))).2.2.1
theorem own_leY {x y : Int32} {k : Int} (hy : y.toInt = k) (q : x.toInt ≤ k) : if_icmp.holds .le x y = true := (flt (x := y) (y := x) (fun z => by have := Int32.lt_iff_toInt_lt.mp z; omega)).2.2.2
theorem own_leN {x y : Int32} {k : Int} (hy : y.toInt = k) (q : ¬ x.toInt ≤ k) : if_icmp.holds .le x y = false := (tlt (x := y) (y := x) (Int32.lt_iff_toInt_lt.mpr (by omega))).2.2.2
theorem own_eqY {x y : Int32} {k : Int} (hy : y.toInt = k) (q : x.toInt = k) : if_icmp.holds .eq x y = true := (teq (Int32.toInt_inj.mp (by omega))).1
theorem own_eqN {x y : Int32} {k : Int} (hy : y.toInt = k) (q : ¬ x.toInt = k) : if_icmp.holds .eq x y = false := (feq (fun z => q (by rw [z]; exact hy))).1
theorem own_neY {x y : Int32} {k : Int} (hy : y.toInt = k) (q : ¬ x.toInt = k) : if_icmp.holds .ne x y = true := (feq (fun z => q (by rw [z]; exact hy))).2
theorem own_neN {x y : Int32} {k : Int} (hy : y.toInt = k) (q : ¬ ¬ x.toInt = k) : if_icmp.holds .ne x y = false := (teq (Int32.toInt_inj.mp (by omega))).2
theorem own_0 {cd : ClassFile.Cond} {x : Int32} {b : Bool} (q : if_icmp.holds cd x 0 = b) : ifCond.holds cd x = b := (if0 cd x).trans q
theorem own_cmp (x y : Int64) : (x.toInt < y.toInt ∧ XT.cmpL x y = -1) ∨ (x.toInt = y.toInt ∧ XT.cmpL x y = 0) ∨ (y.toInt < x.toInt ∧ XT.cmpL x y = 1) := by
  unfold XT.cmpL
  by_cases h1 : y < x
  · exact Or.inr (Or.inr ⟨Int64.lt_iff_toInt_lt.mp h1, if_pos h1⟩)
  · by_cases h2 : x = y
    · exact Or.inr (Or.inl ⟨by rw [h2], by rw [if_neg h1, if_pos h2]⟩)
    · refine Or.inl ⟨?_, by rw [if_neg h1, if_neg h2]⟩
      have q1 : ¬ y.toInt < x.toInt := fun z => h1 (Int64.lt_iff_toInt_lt.mpr z)
      have q2 : ¬ x.toInt = y.toInt := fun z => h2 (Int64.toInt_inj.mp z)
      omega
theorem own_lltY {x y : Int64} {k : Int} (hy : y.toInt = k) (q : x.toInt < k) : ifCond.holds .lt (XT.cmpL x y) = true := by rcases own_cmp x y with ⟨h, e⟩ | ⟨h, e⟩ | ⟨h, e⟩ <;> first | (exfalso; omega) | (rw [e]; decide)
theorem own_lltN {x y : Int64} {k : Int} (hy : y.toInt = k) (q : ¬ x.toInt < k) : ifCond.holds .lt (XT.cmpL x y) = false := by rcases own_cmp x y with ⟨h, e⟩ | ⟨h, e⟩ | ⟨h, e⟩ <;> first | (exfalso; omega) | (rw [e]; decide)
theorem own_lgeY {x y : Int64} {k : Int} (hy : y.toInt = k) (q : k ≤ x.toInt) : ifCond.holds .ge (XT.cmpL x y) = true := by rcases own_cmp x y with ⟨h, e⟩ | ⟨h, e⟩ | ⟨h, e⟩ <;> first | (exfalso; omega) | (rw [e]; decide)
theorem own_lgeN {x y : Int64} {k : Int} (hy : y.toInt = k) (q : ¬ k ≤ x.toInt) : ifCond.holds .ge (XT.cmpL x y) = false := by rcases own_cmp x y with ⟨h, e⟩ | ⟨h, e⟩ | ⟨h, e⟩ <;> first | (exfalso; omega) | (rw [e]; decide)
theorem own_lgtY {x y : Int64} {k : Int} (hy : y.toInt = k) (q : k < x.toInt) : ifCond.holds .gt (XT.cmpL x y) = true := by rcases own_cmp x y with ⟨h, e⟩ | ⟨h, e⟩ | ⟨h, e⟩ <;> first | (exfalso; omega) | (rw [e]; decide)
theorem own_lgtN {x y : Int64} {k : Int} (hy : y.toInt = k) (q : ¬ k < x.toInt) : ifCond.holds .gt (XT.cmpL x y) = false := by rcases own_cmp x y with ⟨h, e⟩ | ⟨h, e⟩ | ⟨h, e⟩ <;> first | (exfalso; omega) | (rw [e]; decide)
theorem own_lleY {x y : Int64} {k : Int} (hy : y.toInt = k) (q : x.toInt ≤ k) : ifCond.holds .le (XT.cmpL x y) = true := by rcases own_cmp x y with ⟨h, e⟩ | ⟨h, e⟩ | ⟨h, e⟩ <;> first | (exfalso; omega) | (rw [e]; decide)
theorem own_lleN {x y : Int64} {k : Int} (hy : y.toInt = k) (q : ¬ x.toInt ≤ k) : ifCond.holds .le (XT.cmpL x y) = false := by rcases own_cmp x y with ⟨h, e⟩ | ⟨h, e⟩ | ⟨h, e⟩ <;> first | (exfalso; omega) | (rw [e]; decide)
theorem own_leqY {x y : Int64} {k : Int} (hy : y.toInt = k) (q : x.toInt = k) : ifCond.holds .eq (XT.cmpL x y) = true := by rcases own_cmp x y with ⟨h, e⟩ | ⟨h, e⟩ | ⟨h, e⟩ <;> first | (exfalso; omega) | (rw [e]; decide)
theorem own_leqN {x y : Int64} {k : Int} (hy : y.toInt = k) (q : ¬ x.toInt = k) : ifCond.holds .eq (XT.cmpL x y) = false := by rcases own_cmp x y with ⟨h, e⟩ | ⟨h, e⟩ | ⟨h, e⟩ <;> first | (exfalso; omega) | (rw [e]; decide)
theorem own_lneY {x y : Int64} {k : Int} (hy : y.toInt = k) (q : ¬ x.toInt = k) : ifCond.holds .ne (XT.cmpL x y) = true := by rcases own_cmp x y with ⟨h, e⟩ | ⟨h, e⟩ | ⟨h, e⟩ <;> first | (exfalso; omega) | (rw [e]; decide)
theorem own_lneN {x y : Int64} {k : Int} (hy : y.toInt = k) (q : ¬ ¬ x.toInt = k) : ifCond.holds .ne (XT.cmpL x y) = false := by rcases own_cmp x y with ⟨h, e⟩ | ⟨h, e⟩ | ⟨h, e⟩ <;> first | (exfalso; omega) | (rw [e]; decide)
theorem own_yes {P : Prop} [Decidable P] (q : P) : (some (Value.int (nar .boolean 1)) : Option Value) = some (.int (if P then 1 else 0)) := by rw [if_pos q]; rfl
theorem own_no {P : Prop} [Decidable P] (q : ¬ P) : (some (Value.int (nar .boolean 0)) : Option Value) = some (.int (if P then 1 else 0)) := by rw [if_neg q]; rfl
theorem own_nyes {P : Prop} [Decidable P] (q : P) : (some (Value.int (nar .boolean 0)) : Option Value) = some (.int (if P then 0 else 1)) := by rw [if_pos q]; rfl
theorem own_nno {P : Prop} [Decidable P] (q : ¬ P) : (some (Value.int (nar .boolean 1)) : Option Value) = some (.int (if P then 0 else 1)) := by rw [if_neg q]; rfl
theorem own_bneY {P : Prop} [Decidable P] (q : P) : ifCond.holds .ne (if P then (1 : Int32) else 0) = true := by rw [if_pos q]; rfl
theorem own_bneN {P : Prop} [Decidable P] (q : ¬ P) : ifCond.holds .ne (if P then (1 : Int32) else 0) = false := by rw [if_neg q]; rfl
theorem own_beqY {P : Prop} [Decidable P] (q : ¬ P) : ifCond.holds .eq (if P then (1 : Int32) else 0) = true := by rw [if_neg q]; rfl
theorem own_beqN {P : Prop} [Decidable P] (q : ¬ ¬ P) : ifCond.holds .eq (if P then (1 : Int32) else 0) = false := by rw [if_pos (Decidable.not_not.mp q)]; rfl
/-! own kit, part 4: an array of which only the kind, the length and 'its places hold values of the kind' is kept -/
def own_A (Z : State) (h : Heap) (a : Addr) (ty : FieldType) (n : Nat) : Prop := ∃ c : Cell, Arr Z h a c ty ∧ c.slots.size = n ∧ ∀ i, i < n → ∃ v, c.slots[i]? = some v ∧ fits ty v = true
theorem own_A.lt {a : Addr} {ty : FieldType} {n : Nat} (A : own_A Z h a ty n) : a < h.size := by obtain ⟨c, A, -⟩ := A; exact A.lt
theorem own_A.of {h' : Heap} {a : Addr} {ty : FieldType} {n : Int32} {k : ClassId} {j : Nat} (A : Arr Z h a (newA k ty n) ty) (q : ¬ n < 0) (hn : n.toNatClampNeg = j) : own_A Z h a ty j := by
  obtain ⟨c, A, -, S, -, H, G⟩ := Arv.new A q
  exact ⟨c, A, S.trans hn, fun i hi => ⟨_, H i (by omega), G i (by omega)⟩⟩
theorem own_A.ext {h' : Heap} {a : Addr} {ty : FieldType} {n : Nat} (A : own_A Z h a ty n) (E : Ext h h') : own_A Z h' a ty n := by obtain ⟨c, A, r⟩ := A; exact ⟨c, A.ext E, r⟩
theorem own_A.other {h' : Heap} {a b : Addr} {ty : FieldType} {n sl : Nat} {v : Value} (A : own_A Z h a ty n) (W : Wr h h' b sl v) (q : a ≠ b) : own_A Z h' a ty n := by obtain ⟨c, A, r⟩ := A; exact ⟨c, A.other W q, r⟩
theorem own_A.set {h' : Heap} {a : Addr} {ty : FieldType} {n j : Nat} {v : Value} (A : own_A Z h a ty n) (W : Wr h h' a j v) (hv : fits ty v = true) : own_A Z h' a ty n := by
  obtain ⟨c, A, S, H⟩ := A
  refine ⟨_, A.same W, by rw [sz_set]; exact S, fun i hi => ?_⟩
  by_cases hij : i = j
  · subst hij
    exact ⟨v, by simp [Cell.setSlot, S, hi], hv⟩
  · obtain ⟨w, h1, h2⟩ := H i hi
    refine ⟨w, ?_, h2⟩
    simp only [Cell.setSlot]
    rw [Array.getElem?_setIfInBounds_ne (fun z => hij z.symm)]
    exact h1
theorem own_inb {c : Cell} {n : Nat} {j : Int32} (S : c.slots.size = n) (h1 : 0 ≤ j.toInt) (h2 : j.toInt < n) : ¬ (j < 0 ∨ c.slots.size ≤ j.toNatClampNeg) := by
  have h3 : ¬ j < 0 := fun z => by have := Int32.lt_iff_toInt_lt.mp z; have e : (0 : Int32).toInt = 0 := rfl; omega
  have := nat_of h3
  rintro (z | z)
  · exact h3 z
  · omega
theorem own_stI (X : Stand p l e R s m args below meth c T locs cells slots) (hx : p.tables.exec = Jvm.exec) (hZ : Z.Warmed39 s.vm) (eT : T.heap = h) {a : Addr} {n : Nat} (A : own_A Z h a .int n) {j x : Int32} (h1 : 0 ≤ j.toInt) (h2 : j.toInt < n) {pc : Nat} {Ls : Array Slot} {rest : List Value} (hd : decode c.code pc = .ok (.iastore, 1)) :
    ∃ T' h', Stand p l e R s m args below meth c T' (locs ++ [⟨a, j.toNatClampNeg⟩]) cells slots ∧ T'.heap = h' ∧ Wr h h' a j.toNatClampNeg (.int x) ∧ own_A Z h' a .int n ∧ ∀ t, Steps p.tables e below (T'.setTop (mkF m (pc + 1) Ls rest)) t → Steps p.tables e below (T.setTop (mkF m pc Ls (.int x :: .int j :: .ref a :: rest))) t := by
  have A0 := A
  obtain ⟨cl, A1, S, H⟩ := A
  obtain ⟨T', h', X', e', W, st⟩ := stI X hx hZ eT A1 (j := j) (x := x) (own_inb S h1 h2) (g := mkF m pc Ls (.int x :: .int j :: .ref a :: rest)) rfl rfl hd
  exact ⟨T', h', X', e', W, A0.set W rfl, st⟩
theorem own_stJ (X : Stand p l e R s m args below meth c T locs cells slots) (hx : p.tables.exec = Jvm.exec) (hZ : Z.Warmed39 s.vm) (eT : T.heap = h) {a : Addr} {n : Nat} (A : own_A Z h a .long n) {j : Int32} {x : Int64} (h1 : 0 ≤ j.toInt) (h2 : j.toInt < n) {pc : Nat} {Ls : Array Slot} {rest : List Value} (hd : decode c.code pc = .ok (.lastore, 1)) :
    ∃ T' h', Stand p l e R s m args below meth c T' (locs ++ [⟨a, j.toNatClampNeg⟩]) cells slots ∧ T'.heap = h' ∧ Wr h h' a j.toNatClampNeg (.long x) ∧ own_A Z h' a .long n ∧ ∀ t, Steps p.tables e below (T'.setTop (mkF m (pc + 1) Ls rest)) t → Steps p.tables e below (T.setTop (mkF m pc Ls (.long x :: .int j :: .ref a :: rest))) t := by
  have A0 := A
  obtain ⟨cl, A1, S, H⟩ := A
  obtain ⟨T', h', X', e', W, st⟩ := stJ X hx hZ eT A1 (j := j) (x := x) (own_inb S h1 h2) (g := mkF m pc Ls (.long x :: .int j :: .ref a :: rest)) rfl rfl hd
  exact ⟨T', h', X', e', W, A0.set W rfl, st⟩
theorem own_ldI (X : Stand p l e R s m args below meth c T locs cells slots) (hx : p.tables.exec = Jvm.exec) (hZ : Z.Warmed39 s.vm) (eT : T.heap = h) {a : Addr} {n : Nat} (A : own_A Z h a .int n) {j : Int32} (h1 : 0 ≤ j.toInt) (h2 : j.toInt < n) {pc : Nat} {Ls : Array Slot} {rest : List Value} (hd : decode c.code pc = .ok (.iaload, 1)) :
    ∃ x : Int32, ∀ t, Steps p.tables e below (T.setTop (mkF m (pc + 1) Ls (.int x :: rest))) t → Steps p.tables e below (T.setTop (mkF m pc Ls (.int j :: .ref a :: rest))) t := by
  obtain ⟨cl, A1, S, H⟩ := A
  have hin := own_inb S h1 h2
  obtain ⟨v, g1, g2⟩ := H j.toNatClampNeg (by rw [← S]; exact Nat.lt_of_not_le fun q => hin (Or.inr q))
  obtain ⟨x, rfl⟩ := fit_I g2 (Or.inl rfl)
  exact ⟨x, fun t k => X.iaload hx (by rw [eT]; exact A1.1) (State.isArrayOf_alike hZ.alike A1.2.1) A1.2.2 hin g1 (g := mkF m pc Ls (.int j :: .ref a :: rest)) rfl rfl hd t k⟩
theorem own_ldJ (X : Stand p l e R s m args below meth c T locs cells slots) (hx : p.tables.exec = Jvm.exec) (hZ : Z.Warmed39 s.vm) (eT : T.heap = h) {a : Addr} {n : Nat} (A : own_A Z h a .long n) {j : Int32} (h1 : 0 ≤ j.toInt) (h2 : j.toInt < n) {pc : Nat} {Ls : Array Slot} {rest : List Value} (hd : decode c.code pc = .ok (.laload, 1)) :
    ∃ x : Int64, ∀ t, Steps p.tables e below (T.setTop (mkF m (pc + 1) Ls (.long x :: rest))) t → Steps p.tables e below (T.setTop (mkF m pc Ls (.int j :: .ref a :: rest))) t := by
  obtain ⟨cl, A1, S, H⟩ := A
  have hin := own_inb S h1 h2
  obtain ⟨v, g1, g2⟩ := H j.toNatClampNeg (by rw [← S]; exact Nat.lt_of_not_le fun q => hin (Or.inr q))
  obtain ⟨x, rfl⟩ := fit_J g2
  exact ⟨x, fun t k => X.laload hx (by rw [eT]; exact A1.1) (State.isArrayOf_alike hZ.alike A1.2.1) A1.2.2 hin g1 (g := mkF m pc Ls (.int j :: .ref a :: rest)) rfl rfl hd t k⟩
theorem own_len (X : Stand p l e R s m args below meth c T locs cells slots) (hx : p.tables.exec = Jvm.exec) (hZ : Z.Warmed39 s.vm) (eT : T.heap = h) {a : Addr} {n : Nat} {ty : FieldType} (A : own_A Z h a ty n) {pc : Nat} {Ls : Array Slot} {rest : List Value} (hd : decode c.code pc = .ok (.arraylength, 1)) :
    ∀ t, Steps p.tables e below (T.setTop (mkF m (pc + 1) Ls (.int n.toInt32 :: rest))) t → Steps p.tables e below (T.setTop (mkF m pc Ls (.ref a :: rest))) t := by
  obtain ⟨cl, A1, S, H⟩ := A
  subst S
  exact fun t k => X.arraylength hx (by rw [eT]; exact A1.1) (State.isArrayOf_alike hZ.alike A1.2.1) (g := mkF m pc Ls (.ref a :: rest)) rfl rfl hd t k
/-! own kit, part 5: an array by the function that tells what its places hold -/
def own_F (Z : State) (h : Heap) (a : Addr) (k : ClassId) (ty : FieldType) (n : Nat) (f : Nat → Value) : Prop := ∃ c : Cell, Arr Z h a c ty ∧ c.cls = k ∧ c.slots.size = n ∧ ∀ i, i < n → c.slots[i]? = some (f i)
def own_up (f : Nat → Value) (j : Nat) (v : Value) : Nat → Value := fun i => if i = j then v else f i
section F
variable {h' : Heap} {a b : Addr} {k : ClassId} {ty : FieldType} {n : Nat} {f : Nat → Value} {j x : Int32} {y : Int64} {i : Nat} {v : Value} {pc : Nat} {Ls : Array Slot} {rest : List Value}
theorem own_F.cong {g : Nat → Value} (F : own_F Z h a k ty n f) (q : ∀ i, i < n → f i = g i) : own_F Z h a k ty n g := by obtain ⟨c, A, r1, r2, r3⟩ := F; exact ⟨c, A, r1, r2, fun i hi => by rw [← q i hi]; exact r3 i hi⟩
theorem own_F.lt (F : own_F Z h a k ty n f) : a < h.size := by obtain ⟨c, A, -⟩ := F; exact A.lt
theorem own_F.ext (F : own_F Z h a k ty n f) (E : Ext h h') : own_F Z h' a k ty n f := by obtain ⟨c, A, r⟩ := F; exact ⟨c, A.ext E, r⟩
theorem own_F.other {sl : Nat} (F : own_F Z h a k ty n f) (W : Wr h h' b sl v) (q : a ≠ b) : own_F Z h' a k ty n f := by obtain ⟨c, A, r⟩ := F; exact ⟨c, A.other W q, r⟩
theorem own_F.keep {ws : List Addr} (F : own_F Z h a k ty n f) (K : Keep h h' ws) (q : a ∉ ws) : own_F Z h' a k ty n f := by obtain ⟨c, A, r⟩ := F; exact ⟨c, ⟨K.2.1 a c A.1 q, A.2⟩, r⟩
theorem own_F.new {z : Int32} (A : Arr Z h a (newA k ty z) ty) (q : ¬ z < 0) (hn : z.toNatClampNeg = n) : own_F Z h a k ty n (fun _ => defaultValue ty) := by
  refine ⟨_, A, rfl, (sz_new _ _ _).trans hn, fun i hi => ?_⟩
  simp [newA, hn, hi]
theorem own_F.set (F : own_F Z h a k ty n f) (W : Wr h h' a i v) : own_F Z h' a k ty n (own_up f i v) := by
  obtain ⟨c, A, q, S, H⟩ := F
  refine ⟨_, A.same W, q, by rw [sz_set]; exact S, fun j hj => ?_⟩
  unfold own_up
  by_cases hij : j = i
  · subst hij
    rw [if_pos rfl]; simp [Cell.setSlot, S, hj]
  · rw [if_neg hij]
    simp only [Cell.setSlot]
    rw [Array.getElem?_setIfInBounds_ne (fun z => hij z.symm)]
    exact H j hj
theorem own_nat (hj : j.toInt = i) : j.toNatClampNeg = i ∧ ¬ j < 0 := by
  have h3 : ¬ j < 0 := fun z => by have := Int32.lt_iff_toInt_lt.mp z; have e : (0 : Int32).toInt = 0 := rfl; omega
  have := nat_of h3
  exact ⟨by omega, h3⟩
theorem own_in {c : Cell} (S : c.slots.size = n) (hj : j.toInt = i) (hi : i < n) : ¬ (j < 0 ∨ c.slots.size ≤ j.toNatClampNeg) := by
  obtain ⟨e1, e2⟩ := own_nat hj
  rintro (z | z)
  · exact e2 z
  · omega
theorem own_fstI (X : Stand p l e R s m args below meth c T locs cells slots) (hx : p.tables.exec = Jvm.exec) (hZ : Z.Warmed39 s.vm) (eT : T.heap = h) (F : own_F Z h a k .int n f) (i : Nat) (hj : j.toInt = i) (hi : i < n) (hd : decode c.code pc = .ok (.iastore, 1)) :
    ∃ T' h', Stand p l e R s m args below meth c T' (locs ++ [⟨a, i⟩]) cells slots ∧ T'.heap = h' ∧ Wr h h' a i (.int x) ∧ own_F Z h' a k .int n (own_up f i (.int x)) ∧ ∀ t, Steps p.tables e below (T'.setTop (mkF m (pc + 1) Ls rest)) t → Steps p.tables e below (T.setTop (mkF m pc Ls (.int x :: .int j :: .ref a :: rest))) t := by
  have F0 := F
  obtain ⟨cl, A, q, S, H⟩ := F
  obtain ⟨T', h', X', e', W, st⟩ := stI X hx hZ eT A (j := j) (x := x) (own_in S hj hi) (g := mkF m pc Ls (.int x :: .int j :: .ref a :: rest)) rfl rfl hd
  rw [(own_nat hj).1] at X' W
  exact ⟨T', h', X', e', W, F0.set W, st⟩
theorem own_fstJ (X : Stand p l e R s m args below meth c T locs cells slots) (hx : p.tables.exec = Jvm.exec) (hZ : Z.Warmed39 s.vm) (eT : T.heap = h) (F : own_F Z h a k .long n f) (i : Nat) (hj : j.toInt = i) (hi : i < n) (hd : decode c.code pc = .ok (.lastore, 1)) :
    ∃ T' h', Stand p l e R s m args below meth c T' (locs ++ [⟨a, i⟩]) cells slots ∧ T'.heap = h' ∧ Wr h h' a i (.long y) ∧ own_F Z h' a k .long n (own_up f i (.long y)) ∧ ∀ t, Steps p.tables e below (T'.setTop (mkF m (pc + 1) Ls rest)) t → Steps p.tables e below (T.setTop (mkF m pc Ls (.long y :: .int j :: .ref a :: rest))) t := by
  have F0 := F
  obtain ⟨cl, A, q, S, H⟩ := F
  obtain ⟨T', h', X', e', W, st⟩ := stJ X hx hZ eT A (j := j) (x := y) (own_in S hj hi) (g := mkF m pc Ls (.long y :: .int j :: .ref a :: rest)) rfl rfl hd
  rw [(own_nat hj).1] at X' W
  exact ⟨T', h', X', e', W, F0.set W, st⟩
theorem own_fstC (X : Stand p l e R s m args below meth c T locs cells slots) (hx : p.tables.exec = Jvm.exec) (hZ : Z.Warmed39 s.vm) (eT : T.heap = h) (F : own_F Z h a k .char n f) (i : Nat) (hj : j.toInt = i) (hi : i < n) (hd : decode c.code pc = .ok (.castore, 1)) :
    ∃ T' h', Stand p l e R s m args below meth c T' (locs ++ [⟨a, i⟩]) cells slots ∧ T'.heap = h' ∧ Wr h h' a i (.int (nar .char x)) ∧ own_F Z h' a k .char n (own_up f i (.int (nar .char x))) ∧ ∀ t, Steps p.tables e below (T'.setTop (mkF m (pc + 1) Ls rest)) t → Steps p.tables e below (T.setTop (mkF m pc Ls (.int x :: .int j :: .ref a :: rest))) t := by
  have F0 := F
  obtain ⟨cl, A, q, S, H⟩ := F
  obtain ⟨T', h', X', e', W, st⟩ := stC X hx hZ eT A (j := j) (x := x) (own_in S hj hi) (g := mkF m pc Ls (.int x :: .int j :: .ref a :: rest)) rfl rfl hd
  rw [(own_nat hj).1] at X' W
  exact ⟨T', h', X', e', W, F0.set W, st⟩
theorem own_fstZ (X : Stand p l e R s m args below meth c T locs cells slots) (hx : p.tables.exec = Jvm.exec) (hZ : Z.Warmed39 s.vm) (eT : T.heap = h) (F : own_F Z h a k .boolean n f) (i : Nat) (hj : j.toInt = i) (hi : i < n) (hd : decode c.code pc = .ok (.bastore, 1)) :
    ∃ T' h', Stand p l e R s m args below meth c T' (locs ++ [⟨a, i⟩]) cells slots ∧ T'.heap = h' ∧ Wr h h' a i (.int (nar .boolean x)) ∧ own_F Z h' a k .boolean n (own_up f i (.int (nar .boolean x))) ∧ ∀ t, Steps p.tables e below (T'.setTop (mkF m (pc + 1) Ls rest)) t → Steps p.tables e below (T.setTop (mkF m pc Ls (.int x :: .int j :: .ref a :: rest))) t := by
  have F0 := F
  obtain ⟨cl, A, q, S, H⟩ := F
  obtain ⟨T', h', X', e', W, st⟩ := stZ X hx hZ eT A (j := j) (x := x) (own_in S hj hi) (g := mkF m pc Ls (.int x :: .int j :: .ref a :: rest)) rfl rfl hd
  rw [(own_nat hj).1] at X' W
  exact ⟨T', h', X', e', W, F0.set W, st⟩
theorem own_fstA (X : Stand p l e R s m args below meth c T locs cells slots) (hx : p.tables.exec = Jvm.exec) (hZ : Z.Warmed39 s.vm) (eT : T.heap = h) (F : own_F Z h a k ty n f) (hty : ty.isReference = true) (O : Sto Z h a v) (i : Nat) (hj : j.toInt = i) (hi : i < n) (hd : decode c.code pc = .ok (.aastore, 1)) :
    ∃ T' h', Stand p l e R s m args below meth c T' (locs ++ [⟨a, i⟩]) cells slots ∧ T'.heap = h' ∧ Wr h h' a i v ∧ own_F Z h' a k ty n (own_up f i v) ∧ ∀ t, Steps p.tables e below (T'.setTop (mkF m (pc + 1) Ls rest)) t → Steps p.tables e below (T.setTop (mkF m pc Ls (v :: .int j :: .ref a :: rest))) t := by
  have F0 := F
  obtain ⟨cl, A, q, S, H⟩ := F
  obtain ⟨T', h', X', e', W, st⟩ := stR X hx hZ eT A (j := j) (v := v) (own_in S hj hi) hty O (g := mkF m pc Ls (v :: .int j :: .ref a :: rest)) rfl rfl hd
  rw [(own_nat hj).1] at X' W
  exact ⟨T', h', X', e', W, F0.set W, st⟩
theorem own_fldI (X : Stand p l e R s m args below meth c T locs cells slots) (hx : p.tables.exec = Jvm.exec) (hZ : Z.Warmed39 s.vm) (eT : T.heap = h) (F : own_F Z h a k .int n f) (i : Nat) (hj : j.toInt = i) (hi : i < n) (hv : f i = v) (hd : decode c.code pc = .ok (.iaload, 1)) :
    ∀ t, Steps p.tables e below (T.setTop (mkF m (pc + 1) Ls (v :: rest))) t → Steps p.tables e below (T.setTop (mkF m pc Ls (.int j :: .ref a :: rest))) t := by
  obtain ⟨cl, A, q, S, H⟩ := F
  exact fun t kk => X.iaload hx (by rw [eT]; exact A.1) (State.isArrayOf_alike hZ.alike A.2.1) A.2.2 (own_in S hj hi) (by rw [(own_nat hj).1, ← hv]; exact H i hi) (g := mkF m pc Ls (.int j :: .ref a :: rest)) rfl rfl hd t kk
theorem own_fldJ (X : Stand p l e R s m args below meth c T locs cells slots) (hx : p.tables.exec = Jvm.exec) (hZ : Z.Warmed39 s.vm) (eT : T.heap = h) (F : own_F Z h a k .long n f) (i : Nat) (hj : j.toInt = i) (hi : i < n) (hv : f i = v) (hd : decode c.code pc = .ok (.laload, 1)) :
    ∀ t, Steps p.tables e below (T.setTop (mkF m (pc + 1) Ls (v :: rest))) t → Steps p.tables e below (T.setTop (mkF m pc Ls (.int j :: .ref a :: rest))) t := by
  obtain ⟨cl, A, q, S, H⟩ := F
  exact fun t kk => X.laload hx (by rw [eT]; exact A.1) (State.isArrayOf_alike hZ.alike A.2.1) A.2.2 (own_in S hj hi) (by rw [(own_nat hj).1, ← hv]; exact H i hi) (g := mkF m pc Ls (.int j :: .ref a :: rest)) rfl rfl hd t kk
theorem own_fldC (X : Stand p l e R s m args below meth c T locs cells slots) (hx : p.tables.exec = Jvm.exec) (hZ : Z.Warmed39 s.vm) (eT : T.heap = h) (F : own_F Z h a k .char n f) (i : Nat) (hj : j.toInt = i) (hi : i < n) (hv : f i = v) (hd : decode c.code pc = .ok (.caload, 1)) :
    ∀ t, Steps p.tables e below (T.setTop (mkF m (pc + 1) Ls (v :: rest))) t → Steps p.tables e below (T.setTop (mkF m pc Ls (.int j :: .ref a :: rest))) t := by
  obtain ⟨cl, A, q, S, H⟩ := F
  exact fun t kk => X.caload hx (by rw [eT]; exact A.1) (State.isArrayOf_alike hZ.alike A.2.1) A.2.2 (own_in S hj hi) (by rw [(own_nat hj).1, ← hv]; exact H i hi) (g := mkF m pc Ls (.int j :: .ref a :: rest)) rfl rfl hd t kk
theorem own_fldZ (X : Stand p l e R s m args below meth c T locs cells slots) (hx : p.tables.exec = Jvm.exec) (hZ : Z.Warmed39 s.vm) (eT : T.heap = h) (F : own_F Z h a k .boolean n f) (i : Nat) (hj : j.toInt = i) (hi : i < n) (hv : f i = v) (hd : decode c.code pc = .ok (.baload, 1)) :
    ∀ t, Steps p.tables e below (T.setTop (mkF m (pc + 1) Ls (v :: rest))) t → Steps p.tables e below (T.setTop (mkF m pc Ls (.int j :: .ref a :: rest))) t := by
  obtain ⟨cl, A, q, S, H⟩ := F
  exact fun t kk => X.baloadBooleans hx (by rw [eT]; exact A.1) (State.isArrayOf_alike hZ.alike A.2.1) A.2.2 (own_in S hj hi) (by rw [(own_nat hj).1, ← hv]; exact H i hi) (g := mkF m pc Ls (.int j :: .ref a :: rest)) rfl rfl hd t kk
theorem own_fldA (X : Stand p l e R s m args below meth c T locs cells slots) (hx : p.tables.exec = Jvm.exec) (hZ : Z.Warmed39 s.vm) (eT : T.heap = h) (F : own_F Z h a k ty n f) (hty : ty.isReference = true) (i : Nat) (hj : j.toInt = i) (hi : i < n) (hv : f i = v) (hd : decode c.code pc = .ok (.aaload, 1)) :
    ∀ t, Steps p.tables e below (T.setTop (mkF m (pc + 1) Ls (v :: rest))) t → Steps p.tables e below (T.setTop (mkF m pc Ls (.int j :: .ref a :: rest))) t := by
  obtain ⟨cl, A, q, S, H⟩ := F
  exact fun t kk => X.aaload hx (by rw [eT]; exact A.1) (State.isArrayOf_alike hZ.alike A.2.1) hty A.2.2 (own_in S hj hi) (by rw [(own_nat hj).1, ← hv]; exact H i hi) (g := mkF m pc Ls (.int j :: .ref a :: rest)) rfl rfl hd t kk
theorem own_flen (X : Stand p l e R s m args below meth c T locs cells slots) (hx : p.tables.exec = Jvm.exec) (hZ : Z.Warmed39 s.vm) (eT : T.heap = h) (F : own_F Z h a k ty n f) (hd : decode c.code pc = .ok (.arraylength, 1)) :
    ∀ t, Steps p.tables e below (T.setTop (mkF m (pc + 1) Ls (.int n.toInt32 :: rest))) t → Steps p.tables e below (T.setTop (mkF m pc Ls (.ref a :: rest))) t := by
  obtain ⟨cl, A, q, S, H⟩ := F
  subst S
  exact fun t kk => X.arraylength hx (by rw [eT]; exact A.1) (State.isArrayOf_alike hZ.alike A.2.1) (g := mkF m pc Ls (.ref a :: rest)) rfl rfl hd t kk
theorem own_F.sto {ty : FieldType} {y : Addr} {C : String} (F : own_F Z h a k (.array ty) n f) (O : OvrA Z k ty C) (E : Exa Z h y C) : Sto Z h a (.ref y) := by
  obtain ⟨c, A, q, -⟩ := F
  exact Sto.ofVA A q O (Ins.self E)
theorem own_up_eq : own_up f i v i = v := if_pos rfl
theorem own_up_ne {j : Nat} (q : j ≠ i) : own_up f i v j = f j := if_neg q
end F
end Own
theorem d1_0 : decode prog_110_method_1_code 0 = .ok (.aload_n 0, 1) := by decide +kernel
theorem d1_1 : decode prog_110_method_1_code 1 = .ok (.invokespecial 1, 3) := by decide +kernel
theorem d1_4 : decode prog_110_method_1_code 4 = .ok (.aload_n 0, 1) := by decide +kernel
theorem d1_5 : decode prog_110_method_1_code 5 = .ok (.iconst (-1), 1) := by decide +kernel
theorem d1_6 : decode prog_110_method_1_code 6 = .ok (.putfield 7, 3) := by decide +kernel
theorem d1_9 : decode prog_110_method_1_code 9 = .ok (.aload_n 0, 1) := by decide +kernel
theorem d1_10 : decode prog_110_method_1_code 10 = .ok (.aload_n 1, 1) := by decide +kernel
theorem d1_11 : decode prog_110_method_1_code 11 = .ok (.putfield 13, 3) := by decide +kernel
theorem d1_14 : decode prog_110_method_1_code 14 = .ok (.aload_n 0, 1) := by decide +kernel
theorem d1_15 : decode prog_110_method_1_code 15 = .ok (.aload_n 2, 1) := by decide +kernel
theorem d1_16 : decode prog_110_method_1_code 16 = .ok (.putfield 17, 3) := by decide +kernel
theorem d1_19 : decode prog_110_method_1_code 19 = .ok (.aload_n 0, 1) := by decide +kernel
theorem d1_20 : decode prog_110_method_1_code 20 = .ok (.aload_n 3, 1) := by decide +kernel
theorem d1_21 : decode prog_110_method_1_code 21 = .ok (.putfield 20, 3) := by decide +kernel
theorem d1_24 : decode prog_110_method_1_code 24 = .ok (.aload_n 0, 1) := by decide +kernel
theorem d1_25 : decode prog_110_method_1_code 25 = .ok (.aload_n 1, 1) := by decide +kernel
theorem d1_26 : decode prog_110_method_1_code 26 = .ok (.arraylength, 1) := by decide +kernel
theorem d1_27 : decode prog_110_method_1_code 27 = .ok (.invokestatic 24, 3) := by decide +kernel
theorem d1_30 : decode prog_110_method_1_code 30 = .ok (.putfield 30, 3) := by decide +kernel
theorem d1_33 : decode prog_110_method_1_code 33 = .ok (.return_, 1) := by decide +kernel
theorem d3_0 : decode prog_60_method_2_code 0 = .ok (.iload_n 0, 1) := by decide +kernel
theorem d3_1 : decode prog_60_method_2_code 1 = .ok (.newarray .int, 2) := by decide +kernel
theorem d3_3 : decode prog_60_method_2_code 3 = .ok (.astore_n 1, 1) := by decide +kernel
theorem d3_4 : decode prog_60_method_2_code 4 = .ok (.iconst 0, 1) := by decide +kernel
theorem d3_5 : decode prog_60_method_2_code 5 = .ok (.istore_n 2, 1) := by decide +kernel
theorem d3_6 : decode prog_60_method_2_code 6 = .ok (.iload_n 2, 1) := by decide +kernel
theorem d3_7 : decode prog_60_method_2_code 7 = .ok (.iload_n 0, 1) := by decide +kernel
theorem d3_8 : decode prog_60_method_2_code 8 = .ok (.if_icmp .ge 13, 3) := by decide +kernel
theorem d3_11 : decode prog_60_method_2_code 11 = .ok (.aload_n 1, 1) := by decide +kernel
theorem d3_12 : decode prog_60_method_2_code 12 = .ok (.iload_n 2, 1) := by decide +kernel
theorem d3_13 : decode prog_60_method_2_code 13 = .ok (.iload_n 2, 1) := by decide +kernel
theorem d3_14 : decode prog_60_method_2_code 14 = .ok (.iastore, 1) := by decide +kernel
theorem d3_15 : decode prog_60_method_2_code 15 = .ok (.iinc 2 1, 3) := by decide +kernel
theorem d3_18 : decode prog_60_method_2_code 18 = .ok (.goto (-12), 3) := by decide +kernel
theorem d3_21 : decode prog_60_method_2_code 21 = .ok (.aload_n 1, 1) := by decide +kernel
theorem d3_22 : decode prog_60_method_2_code 22 = .ok (.areturn, 1) := by decide +kernel
theorem d4_0 : decode prog_110_method_6_code 0 = .ok (.lconst 0, 1) := by decide +kernel
theorem d4_1 : decode prog_110_method_6_code 1 = .ok (.lstore_n 3, 1) := by decide +kernel
theorem d4_2 : decode prog_110_method_6_code 2 = .ok (.aload_n 0, 1) := by decide +kernel
theorem d4_3 : decode prog_110_method_6_code 3 = .ok (.dup, 1) := by decide +kernel
theorem d4_4 : decode prog_110_method_6_code 4 = .ok (.getfield 7, 3) := by decide +kernel
theorem d4_7 : decode prog_110_method_6_code 7 = .ok (.iconst 1, 1) := by decide +kernel
theorem d4_8 : decode prog_110_method_6_code 8 = .ok (.iadd, 1) := by decide +kernel
theorem d4_9 : decode prog_110_method_6_code 9 = .ok (.putfield 7, 3) := by decide +kernel
theorem d4_12 : decode prog_110_method_6_code 12 = .ok (.aload_n 0, 1) := by decide +kernel
theorem d4_13 : decode prog_110_method_6_code 13 = .ok (.getfield 20, 3) := by decide +kernel
theorem d4_16 : decode prog_110_method_6_code 16 = .ok (.aload_n 0, 1) := by decide +kernel
theorem d4_17 : decode prog_110_method_6_code 17 = .ok (.getfield 30, 3) := by decide +kernel
theorem d4_20 : decode prog_110_method_6_code 20 = .ok (.aload_n 0, 1) := by decide +kernel
theorem d4_21 : decode prog_110_method_6_code 21 = .ok (.getfield 7, 3) := by decide +kernel
theorem d4_24 : decode prog_110_method_6_code 24 = .ok (.iaload, 1) := by decide +kernel
theorem d4_25 : decode prog_110_method_6_code 25 = .ok (.laload, 1) := by decide +kernel
theorem d4_26 : decode prog_110_method_6_code 26 = .ok (.lstore 5, 2) := by decide +kernel
theorem d4_28 : decode prog_110_method_6_code 28 = .ok (.lload_n 1, 1) := by decide +kernel
theorem d4_29 : decode prog_110_method_6_code 29 = .ok (.lload_n 3, 1) := by decide +kernel
theorem d4_30 : decode prog_110_method_6_code 30 = .ok (.lload 5, 2) := by decide +kernel
theorem d4_32 : decode prog_110_method_6_code 32 = .ok (.ladd, 1) := by decide +kernel
theorem d4_33 : decode prog_110_method_6_code 33 = .ok (.lcmp, 1) := by decide +kernel
theorem d4_34 : decode prog_110_method_6_code 34 = .ok (.ifCond .ge 10, 3) := by decide +kernel
theorem d4_37 : decode prog_110_method_6_code 37 = .ok (.lload_n 3, 1) := by decide +kernel
theorem d4_38 : decode prog_110_method_6_code 38 = .ok (.lload 5, 2) := by decide +kernel
theorem d4_40 : decode prog_110_method_6_code 40 = .ok (.ladd, 1) := by decide +kernel
theorem d4_41 : decode prog_110_method_6_code 41 = .ok (.lload_n 1, 1) := by decide +kernel
theorem d4_42 : decode prog_110_method_6_code 42 = .ok (.lsub, 1) := by decide +kernel
theorem d4_43 : decode prog_110_method_6_code 43 = .ok (.lreturn, 1) := by decide +kernel
theorem d4_44 : decode prog_110_method_6_code 44 = .ok (.lload_n 3, 1) := by decide +kernel
theorem d4_45 : decode prog_110_method_6_code 45 = .ok (.lload 5, 2) := by decide +kernel
theorem d4_47 : decode prog_110_method_6_code 47 = .ok (.ladd, 1) := by decide +kernel
theorem d4_48 : decode prog_110_method_6_code 48 = .ok (.lstore_n 3, 1) := by decide +kernel
theorem d4_49 : decode prog_110_method_6_code 49 = .ok (.goto (-47), 3) := by decide +kernel
theorem d5_0 : decode prog_110_method_8_code 0 = .ok (.aload_n 0, 1) := by decide +kernel
theorem d5_1 : decode prog_110_method_8_code 1 = .ok (.getfield 13, 3) := by decide +kernel
theorem d5_4 : decode prog_110_method_8_code 4 = .ok (.aload_n 0, 1) := by decide +kernel
theorem d5_5 : decode prog_110_method_8_code 5 = .ok (.getfield 30, 3) := by decide +kernel
theorem d5_8 : decode prog_110_method_8_code 8 = .ok (.aload_n 0, 1) := by decide +kernel
theorem d5_9 : decode prog_110_method_8_code 9 = .ok (.getfield 7, 3) := by decide +kernel
theorem d5_12 : decode prog_110_method_8_code 12 = .ok (.iaload, 1) := by decide +kernel
theorem d5_13 : decode prog_110_method_8_code 13 = .ok (.iaload, 1) := by decide +kernel
theorem d5_14 : decode prog_110_method_8_code 14 = .ok (.ireturn, 1) := by decide +kernel
theorem d6_0 : decode prog_110_method_9_code 0 = .ok (.aload_n 0, 1) := by decide +kernel
theorem d6_1 : decode prog_110_method_9_code 1 = .ok (.getfield 17, 3) := by decide +kernel
theorem d6_4 : decode prog_110_method_9_code 4 = .ok (.aload_n 0, 1) := by decide +kernel
theorem d6_5 : decode prog_110_method_9_code 5 = .ok (.getfield 30, 3) := by decide +kernel
theorem d6_8 : decode prog_110_method_9_code 8 = .ok (.aload_n 0, 1) := by decide +kernel
theorem d6_9 : decode prog_110_method_9_code 9 = .ok (.getfield 7, 3) := by decide +kernel
theorem d6_12 : decode prog_110_method_9_code 12 = .ok (.iaload, 1) := by decide +kernel
theorem d6_13 : decode prog_110_method_9_code 13 = .ok (.iaload, 1) := by decide +kernel
theorem d6_14 : decode prog_110_method_9_code 14 = .ok (.ireturn, 1) := by decide +kernel
theorem d7_0 : decode prog_110_method_10_code 0 = .ok (.aload_n 0, 1) := by decide +kernel
theorem d7_1 : decode prog_110_method_10_code 1 = .ok (.getfield 20, 3) := by decide +kernel
theorem d7_4 : decode prog_110_method_10_code 4 = .ok (.aload_n 0, 1) := by decide +kernel
theorem d7_5 : decode prog_110_method_10_code 5 = .ok (.getfield 30, 3) := by decide +kernel
theorem d7_8 : decode prog_110_method_10_code 8 = .ok (.aload_n 0, 1) := by decide +kernel
theorem d7_9 : decode prog_110_method_10_code 9 = .ok (.getfield 7, 3) := by decide +kernel
theorem d7_12 : decode prog_110_method_10_code 12 = .ok (.iaload, 1) := by decide +kernel
theorem d7_13 : decode prog_110_method_10_code 13 = .ok (.laload, 1) := by decide +kernel
theorem d7_14 : decode prog_110_method_10_code 14 = .ok (.lreturn, 1) := by decide +kernel
theorem d8_0 : decode prog_110_method_7_code 0 = .ok (.aload_n 0, 1) := by decide +kernel
theorem d8_1 : decode prog_110_method_7_code 1 = .ok (.dup, 1) := by decide +kernel
theorem d8_2 : decode prog_110_method_7_code 2 = .ok (.getfield 7, 3) := by decide +kernel
theorem d8_5 : decode prog_110_method_7_code 5 = .ok (.iconst 1, 1) := by decide +kernel
theorem d8_6 : decode prog_110_method_7_code 6 = .ok (.iadd, 1) := by decide +kernel
theorem d8_7 : decode prog_110_method_7_code 7 = .ok (.putfield 7, 3) := by decide +kernel
theorem d8_10 : decode prog_110_method_7_code 10 = .ok (.aload_n 0, 1) := by decide +kernel
theorem d8_11 : decode prog_110_method_7_code 11 = .ok (.getfield 7, 3) := by decide +kernel
theorem d8_14 : decode prog_110_method_7_code 14 = .ok (.aload_n 0, 1) := by decide +kernel
theorem d8_15 : decode prog_110_method_7_code 15 = .ok (.getfield 30, 3) := by decide +kernel
theorem d8_18 : decode prog_110_method_7_code 18 = .ok (.arraylength, 1) := by decide +kernel
theorem d8_19 : decode prog_110_method_7_code 19 = .ok (.if_icmp .ge 7, 3) := by decide +kernel
theorem d8_22 : decode prog_110_method_7_code 22 = .ok (.iconst 1, 1) := by decide +kernel
theorem d8_23 : decode prog_110_method_7_code 23 = .ok (.goto 4, 3) := by decide +kernel
theorem d8_26 : decode prog_110_method_7_code 26 = .ok (.iconst 0, 1) := by decide +kernel
theorem d8_27 : decode prog_110_method_7_code 27 = .ok (.ireturn, 1) := by decide +kernel
theorem pd_I_aI : parseMethodDescriptor "(I)[I" = some ⟨[.int], some (.array .int)⟩ := by decide +kernel
theorem pd_J_J : parseMethodDescriptor "(J)J" = some ⟨[.long], some .long⟩ := by decide +kernel
theorem pd__I : parseMethodDescriptor "()I" = some ⟨[], some .int⟩ := by decide +kernel
theorem pd__J : parseMethodDescriptor "()J" = some ⟨[], some .long⟩ := by decide +kernel
theorem pd__Z : parseMethodDescriptor "()Z" = some ⟨[], some .boolean⟩ := by decide +kernel
theorem pd_aIaIaJ_V : parseMethodDescriptor "([I[I[J)V" = some ⟨[(.array .int), (.array .int), (.array .long)], none⟩ := by decide +kernel
theorem pn_IntSort : plainName "com/example/ordinate/ordinate/core/IntSort" = true := by first | (simp [plainName, overriddenIn]; done) | decide +kernel
theorem pn_PairBlocks_Sorted : plainName "com/example/ordinate/ordinate/core/PairBlocks$Sorted" = true := by first | (simp [plainName, overriddenIn]; done) | decide +kernel
theorem pn_SortedSkipPinLaw : plainName "com/example/ordinate/ordinate/core/SortedSkipPinLaw" = true := by first | (simp [plainName, overriddenIn]; done) | decide +kernel
def own_id (i : Nat) : Value := .int (Int32.ofNat i)
theorem own_idn {i : Nat} (h : i < 3) : (Int32.ofNat i).toInt = i := Int32.toInt_ofNat_of_lt (by omega)
theorem own_addJ {x y : Int64} (h1 : -9223372036854775808 ≤ x.toInt + y.toInt) (h2 : x.toInt + y.toInt < 9223372036854775808) : (x + y).toInt = x.toInt + y.toInt := by
  have := c_ladd x y; have := rng64 (x + y); omega
theorem own_subJ {x y : Int64} (h1 : -9223372036854775808 ≤ x.toInt - y.toInt) (h2 : x.toInt - y.toInt < 9223372036854775808) : (x - y).toInt = x.toInt - y.toInt := by
  have := c_lsub x y; have := rng64 (x - y); omega
def own_w3 (w0 w1 w2 : Int64) (i : Nat) : Value := .long (if i = 0 then w0 else if i = 1 then w1 else w2)
def own_i3 (x0 x1 x2 : Int32) (i : Nat) : Value := .int (if i = 0 then x0 else if i = 1 then x1 else x2)
set_option maxRecDepth 65536 in
set_option maxHeartbeats 40000000 in
theorem rm3 (l : Launch) (Z : State) (a0 : Array Value) (hw : ∀ d ∈ tables_1, d.before a0 Z = true) (ws : List Jvm.Cond)  (h0 : Heap) (n0 : Nat) (Z0 : n0 ≤ h0.size)  :
    own_Met l (⟨"com/example/ordinate/ordinate/core/IntSort", "identity", "(I)[I"⟩ : MethodName) prog_60_method_2_code 3 (some (.array .int)) ws ({ frames := 0, cells := 1, slots := 3, locals := 0 } : Room) #[(.int (3 : Int32))] Z h0 (fun v h L => ∃ b kb, v = some (.ref b) ∧ b = h0.size ∧ Fr n0 L ∧ Keep h0 h [] ∧ own_F Z h b kb .int 3 own_id) := by
  refine own_body (plainFor_of_name pn_IntSort) ?_
  intro p e s m below meth c s0 X0 hx hby hml hret hlk hown hnm hZ e0
  replace hown : s.vm.findClass "com/example/ordinate/ordinate/core/IntSort" = some m.cls := hown
  have N0 := Fr.nil n0
  have ef : entryFrame m #[(.int (3 : Int32))] 3 = (mkF m 0 #[.val (.int (3 : Int32)), .unset, .unset] []) := by first | (simp [entryFrame, mkF, argsToLocals, Value.category, maxLocals]; done) | rfl
  rw [ef]
  show own_End p e below s _ _ _ (s0.setTop (mkF m 0 #[.val (.int (3 : Int32)), .unset, .unset] []))
  have K1 := Keep.refl h0 []
  refine own_go (fun t k => XS.iloadN X0.here hx rfl (hb hby d3_0) rfl k) ?_
  show own_End p e below s _ _ _ (s0.setTop (mkF m 1 #[.val (.int (3 : Int32)), .unset, .unset] [(.int (3 : Int32))]))
  obtain ⟨T2, h2, k2, X2, e2, E2, A2, st2⟩ := newP X0 hx hZ (hw _ (List.mem_of_getElem? (i := 2) rfl)) e0 (g := (mkF m 1 #[.val (.int (3 : Int32)), .unset, .unset] [(.int (3 : Int32))])) rfl (hb hby d3_1) rfl (by decide) (cap := 3) (by decide) (by decide) (by decide) (by decide)
  obtain ⟨b2, gb2⟩ : ∃ z, z = h0.size := ⟨_, rfl⟩
  rw [← gb2] at A2 st2
  have F2 := own_F.new A2 (n := 3) (by decide) (by decide)
  have nb2 : n0 ≤ b2 := by rw [gb2]; exact Z0
  have Z2 : n0 ≤ h2.size := Nat.le_trans Z0 E2.1
  have sb2 : h0.size ≤ b2 := by rw [gb2]; exact K1.1
  have K3 := K1.ext E2
  refine own_go st2 ?_
  show own_End p e below s _ _ _ (T2.setTop (mkF m 3 #[.val (.int (3 : Int32)), .unset, .unset] [(.ref b2)]))
  refine own_go (fun t k => XS.astoreN X2.here hx rfl (hb hby d3_3) rfl rfl (l' := #[.val (.int (3 : Int32)), .val (.ref b2), .unset]) rfl k) ?_
  show own_End p e below s _ _ _ (T2.setTop (mkF m 4 #[.val (.int (3 : Int32)), .val (.ref b2), .unset] []))
  refine own_go (fun t k => XS.iconst X2.here hx rfl (hb hby d3_4) k) ?_
  show own_End p e below s _ _ _ (T2.setTop (mkF m 5 #[.val (.int (3 : Int32)), .val (.ref b2), .unset] [(.int (0 : Int32))]))
  refine own_go (fun t k => XS.istoreN X2.here hx rfl (hb hby d3_5) rfl (l' := #[.val (.int (3 : Int32)), .val (.ref b2), .val (.int (0 : Int32))]) rfl k) ?_
  show own_End p e below s _ _ _ (T2.setTop (mkF m 6 #[.val (.int (3 : Int32)), .val (.ref b2), .val (.int (0 : Int32))] []))
  refine own_go (fun t k => XS.iloadN X2.here hx rfl (hb hby d3_6) rfl k) ?_
  show own_End p e below s _ _ _ (T2.setTop (mkF m 7 #[.val (.int (3 : Int32)), .val (.ref b2), .val (.int (0 : Int32))] [(.int (0 : Int32))]))
  refine own_go (fun t k => XS.iloadN X2.here hx rfl (hb hby d3_7) rfl k) ?_
  show own_End p e below s _ _ _ (T2.setTop (mkF m 8 #[.val (.int (3 : Int32)), .val (.ref b2), .val (.int (0 : Int32))] [(.int (3 : Int32)), (.int (0 : Int32))]))
  refine own_go (fun t k => XS.icmpNo X2.here hx rfl (hb hby d3_8) rfl (by decide) k) ?_
  show own_End p e below s _ _ _ (T2.setTop (mkF m 11 #[.val (.int (3 : Int32)), .val (.ref b2), .val (.int (0 : Int32))] []))
  refine own_go (fun t k => XS.aloadN X2.here hx rfl (hb hby d3_11) rfl rfl k) ?_
  show own_End p e below s _ _ _ (T2.setTop (mkF m 12 #[.val (.int (3 : Int32)), .val (.ref b2), .val (.int (0 : Int32))] [(.ref b2)]))
  refine own_go (fun t k => XS.iloadN X2.here hx rfl (hb hby d3_12) rfl k) ?_
  show own_End p e below s _ _ _ (T2.setTop (mkF m 13 #[.val (.int (3 : Int32)), .val (.ref b2), .val (.int (0 : Int32))] [(.int (0 : Int32)), (.ref b2)]))
  refine own_go (fun t k => XS.iloadN X2.here hx rfl (hb hby d3_13) rfl k) ?_
  show own_End p e below s _ _ _ (T2.setTop (mkF m 14 #[.val (.int (3 : Int32)), .val (.ref b2), .val (.int (0 : Int32))] [(.int (0 : Int32)), (.int (0 : Int32)), (.ref b2)]))
  obtain ⟨T4, h4, X4, e4, W4, F4, st4⟩ := own_fstI X2 hx hZ e2 F2 (j := (0 : Int32)) (x := (0 : Int32)) 0 (by decide) (by decide) (pc := 14) (Ls := #[.val (.int (3 : Int32)), .val (.ref b2), .val (.int (0 : Int32))]) (rest := []) (hb hby d3_14)
  have N4 := Fr.snoc X4 N0 nb2
  have Z4 : n0 ≤ h4.size := by rw [W4.size]; exact Z2
  refine own_go st4 ?_
  have K5 := K3.wr W4 (Or.inr sb2)
  show own_End p e below s _ _ _ (T4.setTop (mkF m 15 #[.val (.int (3 : Int32)), .val (.ref b2), .val (.int (0 : Int32))] []))
  refine own_go (fun t k => XS.iinc X4.here hx rfl (hb hby d3_15) rfl (l' := #[.val (.int (3 : Int32)), .val (.ref b2), .val (.int ((0 : Int32) + (1 : Int32)))]) rfl k) ?_
  show own_End p e below s _ _ _ (T4.setTop (mkF m 18 #[.val (.int (3 : Int32)), .val (.ref b2), .val (.int ((0 : Int32) + (1 : Int32)))] []))
  rw [show ((0 : Int32) + (1 : Int32)) = (1 : Int32) by decide]
  show own_End p e below s _ _ _ (T4.setTop (mkF m 18 #[.val (.int (3 : Int32)), .val (.ref b2), .val (.int (1 : Int32))] []))
  refine own_go (fun t k => XS.goto X4.here hx rfl (pc0 := 18) (pc' := 6) rfl (hb hby d3_18) (by decide) (by decide) k) ?_
  show own_End p e below s _ _ _ (T4.setTop (mkF m 6 #[.val (.int (3 : Int32)), .val (.ref b2), .val (.int (1 : Int32))] []))
  refine own_go (fun t k => XS.iloadN X4.here hx rfl (hb hby d3_6) rfl k) ?_
  show own_End p e below s _ _ _ (T4.setTop (mkF m 7 #[.val (.int (3 : Int32)), .val (.ref b2), .val (.int (1 : Int32))] [(.int (1 : Int32))]))
  refine own_go (fun t k => XS.iloadN X4.here hx rfl (hb hby d3_7) rfl k) ?_
  show own_End p e below s _ _ _ (T4.setTop (mkF m 8 #[.val (.int (3 : Int32)), .val (.ref b2), .val (.int (1 : Int32))] [(.int (3 : Int32)), (.int (1 : Int32))]))
  refine own_go (fun t k => XS.icmpNo X4.here hx rfl (hb hby d3_8) rfl (by decide) k) ?_
  show own_End p e below s _ _ _ (T4.setTop (mkF m 11 #[.val (.int (3 : Int32)), .val (.ref b2), .val (.int (1 : Int32))] []))
  refine own_go (fun t k => XS.aloadN X4.here hx rfl (hb hby d3_11) rfl rfl k) ?_
  show own_End p e below s _ _ _ (T4.setTop (mkF m 12 #[.val (.int (3 : Int32)), .val (.ref b2), .val (.int (1 : Int32))] [(.ref b2)]))
  refine own_go (fun t k => XS.iloadN X4.here hx rfl (hb hby d3_12) rfl k) ?_
  show own_End p e below s _ _ _ (T4.setTop (mkF m 13 #[.val (.int (3 : Int32)), .val (.ref b2), .val (.int (1 : Int32))] [(.int (1 : Int32)), (.ref b2)]))
  refine own_go (fun t k => XS.iloadN X4.here hx rfl (hb hby d3_13) rfl k) ?_
  show own_End p e below s _ _ _ (T4.setTop (mkF m 14 #[.val (.int (3 : Int32)), .val (.ref b2), .val (.int (1 : Int32))] [(.int (1 : Int32)), (.int (1 : Int32)), (.ref b2)]))
  obtain ⟨T7, h7, X7, e7, W7, F7, st7⟩ := own_fstI X4 hx hZ e4 F4 (j := (1 : Int32)) (x := (1 : Int32)) 1 (by decide) (by decide) (pc := 14) (Ls := #[.val (.int (3 : Int32)), .val (.ref b2), .val (.int (1 : Int32))]) (rest := []) (hb hby d3_14)
  have N7 := Fr.snoc X7 N4 nb2
  have Z7 : n0 ≤ h7.size := by rw [W7.size]; exact Z4
  refine own_go st7 ?_
  have K8 := K5.wr W7 (Or.inr sb2)
  show own_End p e below s _ _ _ (T7.setTop (mkF m 15 #[.val (.int (3 : Int32)), .val (.ref b2), .val (.int (1 : Int32))] []))
  refine own_go (fun t k => XS.iinc X7.here hx rfl (hb hby d3_15) rfl (l' := #[.val (.int (3 : Int32)), .val (.ref b2), .val (.int ((1 : Int32) + (1 : Int32)))]) rfl k) ?_
  show own_End p e below s _ _ _ (T7.setTop (mkF m 18 #[.val (.int (3 : Int32)), .val (.ref b2), .val (.int ((1 : Int32) + (1 : Int32)))] []))
  rw [show ((1 : Int32) + (1 : Int32)) = (2 : Int32) by decide]
  show own_End p e below s _ _ _ (T7.setTop (mkF m 18 #[.val (.int (3 : Int32)), .val (.ref b2), .val (.int (2 : Int32))] []))
  refine own_go (fun t k => XS.goto X7.here hx rfl (pc0 := 18) (pc' := 6) rfl (hb hby d3_18) (by decide) (by decide) k) ?_
  show own_End p e below s _ _ _ (T7.setTop (mkF m 6 #[.val (.int (3 : Int32)), .val (.ref b2), .val (.int (2 : Int32))] []))
  refine own_go (fun t k => XS.iloadN X7.here hx rfl (hb hby d3_6) rfl k) ?_
  show own_End p e below s _ _ _ (T7.setTop (mkF m 7 #[.val (.int (3 : Int32)), .val (.ref b2), .val (.int (2 : Int32))] [(.int (2 : Int32))]))
  refine own_go (fun t k => XS.iloadN X7.here hx rfl (hb hby d3_7) rfl k) ?_
  show own_End p e below s _ _ _ (T7.setTop (mkF m 8 #[.val (.int (3 : Int32)), .val (.ref b2), .val (.int (2 : Int32))] [(.int (3 : Int32)), (.int (2 : Int32))]))
  refine own_go (fun t k => XS.icmpNo X7.here hx rfl (hb hby d3_8) rfl (by decide) k) ?_
  show own_End p e below s _ _ _ (T7.setTop (mkF m 11 #[.val (.int (3 : Int32)), .val (.ref b2), .val (.int (2 : Int32))] []))
  refine own_go (fun t k => XS.aloadN X7.here hx rfl (hb hby d3_11) rfl rfl k) ?_
  show own_End p e below s _ _ _ (T7.setTop (mkF m 12 #[.val (.int (3 : Int32)), .val (.ref b2), .val (.int (2 : Int32))] [(.ref b2)]))
  refine own_go (fun t k => XS.iloadN X7.here hx rfl (hb hby d3_12) rfl k) ?_
  show own_End p e below s _ _ _ (T7.setTop (mkF m 13 #[.val (.int (3 : Int32)), .val (.ref b2), .val (.int (2 : Int32))] [(.int (2 : Int32)), (.ref b2)]))
  refine own_go (fun t k => XS.iloadN X7.here hx rfl (hb hby d3_13) rfl k) ?_
  show own_End p e below s _ _ _ (T7.setTop (mkF m 14 #[.val (.int (3 : Int32)), .val (.ref b2), .val (.int (2 : Int32))] [(.int (2 : Int32)), (.int (2 : Int32)), (.ref b2)]))
  obtain ⟨T10, h10, X10, e10, W10, F10, st10⟩ := own_fstI X7 hx hZ e7 F7 (j := (2 : Int32)) (x := (2 : Int32)) 2 (by decide) (by decide) (pc := 14) (Ls := #[.val (.int (3 : Int32)), .val (.ref b2), .val (.int (2 : Int32))]) (rest := []) (hb hby d3_14)
  have N10 := Fr.snoc X10 N7 nb2
  have Z10 : n0 ≤ h10.size := by rw [W10.size]; exact Z7
  refine own_go st10 ?_
  have K11 := K8.wr W10 (Or.inr sb2)
  show own_End p e below s _ _ _ (T10.setTop (mkF m 15 #[.val (.int (3 : Int32)), .val (.ref b2), .val (.int (2 : Int32))] []))
  refine own_go (fun t k => XS.iinc X10.here hx rfl (hb hby d3_15) rfl (l' := #[.val (.int (3 : Int32)), .val (.ref b2), .val (.int ((2 : Int32) + (1 : Int32)))]) rfl k) ?_
  show own_End p e below s _ _ _ (T10.setTop (mkF m 18 #[.val (.int (3 : Int32)), .val (.ref b2), .val (.int ((2 : Int32) + (1 : Int32)))] []))
  rw [show ((2 : Int32) + (1 : Int32)) = (3 : Int32) by decide]
  show own_End p e below s _ _ _ (T10.setTop (mkF m 18 #[.val (.int (3 : Int32)), .val (.ref b2), .val (.int (3 : Int32))] []))
  refine own_go (fun t k => XS.goto X10.here hx rfl (pc0 := 18) (pc' := 6) rfl (hb hby d3_18) (by decide) (by decide) k) ?_
  show own_End p e below s _ _ _ (T10.setTop (mkF m 6 #[.val (.int (3 : Int32)), .val (.ref b2), .val (.int (3 : Int32))] []))
  refine own_go (fun t k => XS.iloadN X10.here hx rfl (hb hby d3_6) rfl k) ?_
  show own_End p e below s _ _ _ (T10.setTop (mkF m 7 #[.val (.int (3 : Int32)), .val (.ref b2), .val (.int (3 : Int32))] [(.int (3 : Int32))]))
  refine own_go (fun t k => XS.iloadN X10.here hx rfl (hb hby d3_7) rfl k) ?_
  show own_End p e below s _ _ _ (T10.setTop (mkF m 8 #[.val (.int (3 : Int32)), .val (.ref b2), .val (.int (3 : Int32))] [(.int (3 : Int32)), (.int (3 : Int32))]))
  refine own_go (fun t k => XS.icmpYes X10.here hx rfl (pc0 := 8) (pc' := 21) rfl (hb hby d3_8) rfl (by decide) (by decide) (by decide) k) ?_
  show own_End p e below s _ _ _ (T10.setTop (mkF m 21 #[.val (.int (3 : Int32)), .val (.ref b2), .val (.int (3 : Int32))] []))
  refine own_go (fun t k => XS.aloadN X10.here hx rfl (hb hby d3_21) rfl rfl k) ?_
  show own_End p e below s _ _ _ (T10.setTop (mkF m 22 #[.val (.int (3 : Int32)), .val (.ref b2), .val (.int (3 : Int32))] [(.ref b2)]))
  have FF : own_F Z h10 b2 k2 .int 3 own_id := own_F.cong F10 (fun i hi => by match i, hi with | 0, _ => rfl | 1, _ => rfl | 2, _ => rfl)
  exact own_retA X10 hx (t := (.array .int)) rfl hret hlk (hb hby d3_22) ⟨b2, _, rfl, gb2, N10, by rw [e10]; exact K11, by rw [e10]; exact FF⟩ (by decide) (by decide)
set_option maxRecDepth 65536 in
set_option maxHeartbeats 40000000 in
theorem rm1 (l : Launch) (Z : State) (a0 : Array Value) (hw : ∀ d ∈ tables_1, d.before a0 Z = true) (ws : List Jvm.Cond) (a : Addr) (xa : Addr) (ya : Addr) (wa : Addr) (h0 : Heap) (n0 : Nat) (Z0 : n0 ≤ h0.size) (na : n0 ≤ a) (ne_xa_a : xa ≠ a) (E0 : Exa Z h0 a "com/example/ordinate/ordinate/core/PairBlocks$Sorted") (f_at : Fld Z h0 a "com/example/ordinate/ordinate/core/PairBlocks$Sorted" "at" "I" (.int (0 : Int32))) (f_xs : Fld Z h0 a "com/example/ordinate/ordinate/core/PairBlocks$Sorted" "xs" "[I" .null) (f_ys : Fld Z h0 a "com/example/ordinate/ordinate/core/PairBlocks$Sorted" "ys" "[I" .null) (f_weights : Fld Z h0 a "com/example/ordinate/ordinate/core/PairBlocks$Sorted" "weights" "[J" .null) (f_sorted : Fld Z h0 a "com/example/ordinate/ordinate/core/PairBlocks$Sorted" "sorted" "[I" .null) {kx : ClassId} {fx : Nat → Value} (F_xa : own_F Z h0 xa kx .int 3 fx) :
    own_Met l (⟨"com/example/ordinate/ordinate/core/PairBlocks$Sorted", "<init>", "([I[I[J)V"⟩ : MethodName) prog_110_method_1_code 4 none ws ({ frames := 1, cells := 1, slots := 3, locals := 15 } : Room) #[(.ref a), (.ref xa), (.ref ya), (.ref wa)] Z h0 (fun v h L => v = none ∧ Fr n0 L ∧ Keep h0 h [a] ∧ ∃ so kso, h0.size ≤ so ∧ own_F Z h so kso .int 3 own_id ∧ Fld Z h a "com/example/ordinate/ordinate/core/PairBlocks$Sorted" "at" "I" (.int (-1)) ∧ Fld Z h a "com/example/ordinate/ordinate/core/PairBlocks$Sorted" "xs" "[I" (.ref xa) ∧ Fld Z h a "com/example/ordinate/ordinate/core/PairBlocks$Sorted" "ys" "[I" (.ref ya) ∧ Fld Z h a "com/example/ordinate/ordinate/core/PairBlocks$Sorted" "weights" "[J" (.ref wa) ∧ Fld Z h a "com/example/ordinate/ordinate/core/PairBlocks$Sorted" "sorted" "[I" (.ref so)) := by
  refine own_body (plainFor_of_name pn_PairBlocks_Sorted) ?_
  intro p e s m below meth c s0 X0 hx hby hml hret hlk hown hnm hZ e0
  replace hown : s.vm.findClass "com/example/ordinate/ordinate/core/PairBlocks$Sorted" = some m.cls := hown
  have N0 := Fr.nil n0
  have ef : entryFrame m #[(.ref a), (.ref xa), (.ref ya), (.ref wa)] 4 = (mkF m 0 #[.val (.ref a), .val (.ref xa), .val (.ref ya), .val (.ref wa)] []) := by first | (simp [entryFrame, mkF, argsToLocals, Value.category, maxLocals]; done) | rfl
  rw [ef]
  show own_End p e below s _ _ _ (s0.setTop (mkF m 0 #[.val (.ref a), .val (.ref xa), .val (.ref ya), .val (.ref wa)] []))
  have K13 := Keep.refl h0 [a]
  refine own_go (fun t k => XS.aloadN X0.here hx rfl (hb hby d1_0) rfl rfl k) ?_
  show own_End p e below s _ _ _ (s0.setTop (mkF m 1 #[.val (.ref a), .val (.ref xa), .val (.ref ya), .val (.ref wa)] [(.ref a)]))
  obtain ⟨T14, X14, e14, st14⟩ := initO X0 hx hZ hown (hw _ (List.mem_of_getElem? (i := 10) rfl)) (hw _ (List.mem_of_getElem? (i := 11) rfl)) (hw _ (List.mem_of_getElem? (i := 12) rfl)) e0 (g := (mkF m 1 #[.val (.ref a), .val (.ref xa), .val (.ref ya), .val (.ref wa)] [(.ref a)])) rfl (by rw [hml]; rfl) rfl (hb hby d1_1) (by decide) (W := 0) (by show 2 * 0 + _ ≤ _; exact Nat.le_of_eq rfl) (by decide)
  refine own_go st14 ?_
  show own_End p e below s _ _ _ (T14.setTop (mkF m 4 #[.val (.ref a), .val (.ref xa), .val (.ref ya), .val (.ref wa)] []))
  refine own_go (fun t k => XS.aloadN X14.here hx rfl (hb hby d1_4) rfl rfl k) ?_
  show own_End p e below s _ _ _ (T14.setTop (mkF m 5 #[.val (.ref a), .val (.ref xa), .val (.ref ya), .val (.ref wa)] [(.ref a)]))
  refine own_go (fun t k => XS.iconst X14.here hx rfl (hb hby d1_5) k) ?_
  show own_End p e below s _ _ _ (T14.setTop (mkF m 6 #[.val (.ref a), .val (.ref xa), .val (.ref ya), .val (.ref wa)] [(.int (-1 : Int32)), (.ref a)]))
  obtain ⟨T15, h15, X15, e15, W15, st15⟩ := putF X14 hx hZ hown (host := "") (Or.inl (hw _ (List.mem_of_getElem? (i := 13) rfl))) Via.refl e14 f_at E0 (Or.inl (hw _ (List.mem_of_getElem? (i := 14) rfl))) (hw _ (List.mem_of_getElem? (i := 5) rfl)) (ty := .int) (by decide) rfl rfl (g := (mkF m 6 #[.val (.ref a), .val (.ref xa), .val (.ref ya), .val (.ref wa)] [(.int (-1 : Int32)), (.ref a)])) rfl rfl (hb hby d1_6)
  have N15 := Fr.snoc X15 N0 na
  have Z15 : n0 ≤ h15.size := by rw [W15.size]; exact Z0
  refine own_go st15 ?_
  have K16 := K13.wr W15 (Or.inl (List.mem_of_getElem? (i := 0) rfl))
  have f17 := E0.wr W15
  have f18 := f_at.same W15
  have f19 := f_xs.other W15 (Or.inr (slot_ne (Or.inr (hw _ (List.mem_of_getElem? (i := 16) rfl))) (Or.inl (hw _ (List.mem_of_getElem? (i := 14) rfl))) (by decide) (t := (.array .int)) (t' := .int) (by decide) (by decide)))
  have f20 := f_ys.other W15 (Or.inr (slot_ne (Or.inr (hw _ (List.mem_of_getElem? (i := 18) rfl))) (Or.inl (hw _ (List.mem_of_getElem? (i := 14) rfl))) (by decide) (t := (.array .int)) (t' := .int) (by decide) (by decide)))
  have f21 := f_weights.other W15 (Or.inr (slot_ne (Or.inr (hw _ (List.mem_of_getElem? (i := 20) rfl))) (Or.inl (hw _ (List.mem_of_getElem? (i := 14) rfl))) (by decide) (t := (.array .long)) (t' := .int) (by decide) (by decide)))
  have f22 := f_sorted.other W15 (Or.inr (slot_ne (Or.inr (hw _ (List.mem_of_getElem? (i := 26) rfl))) (Or.inl (hw _ (List.mem_of_getElem? (i := 14) rfl))) (by decide) (t := (.array .int)) (t' := .int) (by decide) (by decide)))
  have f23 := F_xa.other W15 ne_xa_a
  show own_End p e below s _ _ _ (T15.setTop (mkF m 9 #[.val (.ref a), .val (.ref xa), .val (.ref ya), .val (.ref wa)] []))
  refine own_go (fun t k => XS.aloadN X15.here hx rfl (hb hby d1_9) rfl rfl k) ?_
  show own_End p e below s _ _ _ (T15.setTop (mkF m 10 #[.val (.ref a), .val (.ref xa), .val (.ref ya), .val (.ref wa)] [(.ref a)]))
  refine own_go (fun t k => XS.aloadN X15.here hx rfl (hb hby d1_10) rfl rfl k) ?_
  show own_End p e below s _ _ _ (T15.setTop (mkF m 11 #[.val (.ref a), .val (.ref xa), .val (.ref ya), .val (.ref wa)] [(.ref xa), (.ref a)]))
  obtain ⟨T24, h24, X24, e24, W24, st24⟩ := putF X15 hx hZ hown (host := "") (Or.inl (hw _ (List.mem_of_getElem? (i := 15) rfl))) Via.refl e15 f19 f17 (Or.inr ⟨(hw _ (List.mem_of_getElem? (i := 16) rfl)), rfl, hnm⟩) (hw _ (List.mem_of_getElem? (i := 5) rfl)) (ty := (.array .int)) (by decide) rfl rfl (g := (mkF m 11 #[.val (.ref a), .val (.ref xa), .val (.ref ya), .val (.ref wa)] [(.ref xa), (.ref a)])) rfl rfl (hb hby d1_11)
  have N24 := Fr.snoc X24 N15 na
  have Z24 : n0 ≤ h24.size := by rw [W24.size]; exact Z15
  refine own_go st24 ?_
  have K25 := K16.wr W24 (Or.inl (List.mem_of_getElem? (i := 0) rfl))
  have f26 := f17.wr W24
  have f27 := f18.other W24 (Or.inr (slot_ne (Or.inl (hw _ (List.mem_of_getElem? (i := 14) rfl))) (Or.inr (hw _ (List.mem_of_getElem? (i := 16) rfl))) (by decide) (t := .int) (t' := (.array .int)) (by decide) (by decide)))
  have f28 := f19.same W24
  have f29 := f20.other W24 (Or.inr (slot_ne (Or.inr (hw _ (List.mem_of_getElem? (i := 18) rfl))) (Or.inr (hw _ (List.mem_of_getElem? (i := 16) rfl))) (by decide) (t := (.array .int)) (t' := (.array .int)) (by decide) (by decide)))
  have f30 := f21.other W24 (Or.inr (slot_ne (Or.inr (hw _ (List.mem_of_getElem? (i := 20) rfl))) (Or.inr (hw _ (List.mem_of_getElem? (i := 16) rfl))) (by decide) (t := (.array .long)) (t' := (.array .int)) (by decide) (by decide)))
  have f31 := f22.other W24 (Or.inr (slot_ne (Or.inr (hw _ (List.mem_of_getElem? (i := 26) rfl))) (Or.inr (hw _ (List.mem_of_getElem? (i := 16) rfl))) (by decide) (t := (.array .int)) (t' := (.array .int)) (by decide) (by decide)))
  have f32 := f23.other W24 ne_xa_a
  show own_End p e below s _ _ _ (T24.setTop (mkF m 14 #[.val (.ref a), .val (.ref xa), .val (.ref ya), .val (.ref wa)] []))
  refine own_go (fun t k => XS.aloadN X24.here hx rfl (hb hby d1_14) rfl rfl k) ?_
  show own_End p e below s _ _ _ (T24.setTop (mkF m 15 #[.val (.ref a), .val (.ref xa), .val (.ref ya), .val (.ref wa)] [(.ref a)]))
  refine own_go (fun t k => XS.aloadN X24.here hx rfl (hb hby d1_15) rfl rfl k) ?_
  show own_End p e below s _ _ _ (T24.setTop (mkF m 16 #[.val (.ref a), .val (.ref xa), .val (.ref ya), .val (.ref wa)] [(.ref ya), (.ref a)]))
  obtain ⟨T33, h33, X33, e33, W33, st33⟩ := putF X24 hx hZ hown (host := "") (Or.inl (hw _ (List.mem_of_getElem? (i := 17) rfl))) Via.refl e24 f29 f26 (Or.inr ⟨(hw _ (List.mem_of_getElem? (i := 18) rfl)), rfl, hnm⟩) (hw _ (List.mem_of_getElem? (i := 5) rfl)) (ty := (.array .int)) (by decide) rfl rfl (g := (mkF m 16 #[.val (.ref a), .val (.ref xa), .val (.ref ya), .val (.ref wa)] [(.ref ya), (.ref a)])) rfl rfl (hb hby d1_16)
  have N33 := Fr.snoc X33 N24 na
  have Z33 : n0 ≤ h33.size := by rw [W33.size]; exact Z24
  refine own_go st33 ?_
  have K34 := K25.wr W33 (Or.inl (List.mem_of_getElem? (i := 0) rfl))
  have f35 := f26.wr W33
  have f36 := f27.other W33 (Or.inr (slot_ne (Or.inl (hw _ (List.mem_of_getElem? (i := 14) rfl))) (Or.inr (hw _ (List.mem_of_getElem? (i := 18) rfl))) (by decide) (t := .int) (t' := (.array .int)) (by decide) (by decide)))
  have f37 := f28.other W33 (Or.inr (slot_ne (Or.inr (hw _ (List.mem_of_getElem? (i := 16) rfl))) (Or.inr (hw _ (List.mem_of_getElem? (i := 18) rfl))) (by decide) (t := (.array .int)) (t' := (.array .int)) (by decide) (by decide)))
  have f38 := f29.same W33
  have f39 := f30.other W33 (Or.inr (slot_ne (Or.inr (hw _ (List.mem_of_getElem? (i := 20) rfl))) (Or.inr (hw _ (List.mem_of_getElem? (i := 18) rfl))) (by decide) (t := (.array .long)) (t' := (.array .int)) (by decide) (by decide)))
  have f40 := f31.other W33 (Or.inr (slot_ne (Or.inr (hw _ (List.mem_of_getElem? (i := 26) rfl))) (Or.inr (hw _ (List.mem_of_getElem? (i := 18) rfl))) (by decide) (t := (.array .int)) (t' := (.array .int)) (by decide) (by decide)))
  have f41 := f32.other W33 ne_xa_a
  show own_End p e below s _ _ _ (T33.setTop (mkF m 19 #[.val (.ref a), .val (.ref xa), .val (.ref ya), .val (.ref wa)] []))
  refine own_go (fun t k => XS.aloadN X33.here hx rfl (hb hby d1_19) rfl rfl k) ?_
  show own_End p e below s _ _ _ (T33.setTop (mkF m 20 #[.val (.ref a), .val (.ref xa), .val (.ref ya), .val (.ref wa)] [(.ref a)]))
  refine own_go (fun t k => XS.aloadN X33.here hx rfl (hb hby d1_20) rfl rfl k) ?_
  show own_End p e below s _ _ _ (T33.setTop (mkF m 21 #[.val (.ref a), .val (.ref xa), .val (.ref ya), .val (.ref wa)] [(.ref wa), (.ref a)]))
  obtain ⟨T42, h42, X42, e42, W42, st42⟩ := putF X33 hx hZ hown (host := "") (Or.inl (hw _ (List.mem_of_getElem? (i := 19) rfl))) Via.refl e33 f39 f35 (Or.inr ⟨(hw _ (List.mem_of_getElem? (i := 20) rfl)), rfl, hnm⟩) (hw _ (List.mem_of_getElem? (i := 5) rfl)) (ty := (.array .long)) (by decide) rfl rfl (g := (mkF m 21 #[.val (.ref a), .val (.ref xa), .val (.ref ya), .val (.ref wa)] [(.ref wa), (.ref a)])) rfl rfl (hb hby d1_21)
  have N42 := Fr.snoc X42 N33 na
  have Z42 : n0 ≤ h42.size := by rw [W42.size]; exact Z33
  refine own_go st42 ?_
  have K43 := K34.wr W42 (Or.inl (List.mem_of_getElem? (i := 0) rfl))
  have f44 := f35.wr W42
  have f45 := f36.other W42 (Or.inr (slot_ne (Or.inl (hw _ (List.mem_of_getElem? (i := 14) rfl))) (Or.inr (hw _ (List.mem_of_getElem? (i := 20) rfl))) (by decide) (t := .int) (t' := (.array .long)) (by decide) (by decide)))
  have f46 := f37.other W42 (Or.inr (slot_ne (Or.inr (hw _ (List.mem_of_getElem? (i := 16) rfl))) (Or.inr (hw _ (List.mem_of_getElem? (i := 20) rfl))) (by decide) (t := (.array .int)) (t' := (.array .long)) (by decide) (by decide)))
  have f47 := f38.other W42 (Or.inr (slot_ne (Or.inr (hw _ (List.mem_of_getElem? (i := 18) rfl))) (Or.inr (hw _ (List.mem_of_getElem? (i := 20) rfl))) (by decide) (t := (.array .int)) (t' := (.array .long)) (by decide) (by decide)))
  have f48 := f39.same W42
  have f49 := f40.other W42 (Or.inr (slot_ne (Or.inr (hw _ (List.mem_of_getElem? (i := 26) rfl))) (Or.inr (hw _ (List.mem_of_getElem? (i := 20) rfl))) (by decide) (t := (.array .int)) (t' := (.array .long)) (by decide) (by decide)))
  have f50 := f41.other W42 ne_xa_a
  show own_End p e below s _ _ _ (T42.setTop (mkF m 24 #[.val (.ref a), .val (.ref xa), .val (.ref ya), .val (.ref wa)] []))
  refine own_go (fun t k => XS.aloadN X42.here hx rfl (hb hby d1_24) rfl rfl k) ?_
  show own_End p e below s _ _ _ (T42.setTop (mkF m 25 #[.val (.ref a), .val (.ref xa), .val (.ref ya), .val (.ref wa)] [(.ref a)]))
  refine own_go (fun t k => XS.aloadN X42.here hx rfl (hb hby d1_25) rfl rfl k) ?_
  show own_End p e below s _ _ _ (T42.setTop (mkF m 26 #[.val (.ref a), .val (.ref xa), .val (.ref ya), .val (.ref wa)] [(.ref xa), (.ref a)]))
  refine own_go (own_flen X42 hx hZ e42 f50 (pc := 26) (Ls := #[.val (.ref a), .val (.ref xa), .val (.ref ya), .val (.ref wa)]) (rest := [(.ref a)]) (hb hby d1_26)) ?_
  show own_End p e below s _ _ _ (T42.setTop (mkF m 27 #[.val (.ref a), .val (.ref xa), .val (.ref ya), .val (.ref wa)] [(.int (3 : Int32)), (.ref a)]))
  obtain ⟨v51, T51, L51, X51, hQ51, st51⟩ := own_callS X42 hx hZ (y := (⟨"com/example/ordinate/ordinate/core/IntSort", "identity", "(I)[I"⟩ : MethodName)) 1 hown (hw _ (List.mem_of_getElem? (i := 21) rfl)) (hw _ (List.mem_of_getElem? (i := 22) rfl)) (hw _ (List.mem_of_getElem? (i := 23) rfl)) (hw _ (List.mem_of_getElem? (i := 24) rfl)) (by decide) (rm3 l Z a0 hw [] h42 n0 Z42) e42 (pc := 27) (Ls := #[.val (.ref a), .val (.ref xa), .val (.ref ya), .val (.ref wa)]) [(.int (3 : Int32))] [(.ref a)] (by rw [hml]; rfl) rfl rfl (lenOf pd_I_aI rfl) (Nat.le_of_eq rfl) (hb hby d1_27) (by decide) (by decide) (by decide) (by decide)
  obtain ⟨h52, e52⟩ : ∃ z, T51.heap = z := ⟨_, rfl⟩
  rw [e52] at hQ51
  obtain ⟨so, kso, rfl, gso, Nc, Kc, Fso⟩ := hQ51
  have N_c := Fr.app N42 Nc
  have lt_a_so : @LT.lt Nat _ a so := Nat.lt_of_lt_of_le f44.lt (Nat.le_of_eq gso.symm)
  have lt_xa_so : @LT.lt Nat _ xa so := Nat.lt_of_lt_of_le f50.lt (Nat.le_of_eq gso.symm)
  have nso : n0 ≤ so := Nat.le_trans Z42 (Nat.le_of_eq gso.symm)
  have sso : h0.size ≤ so := Nat.le_trans K43.1 (Nat.le_of_eq gso.symm)
  have Z52 : n0 ≤ h52.size := Nat.le_trans Z42 Kc.1
  have K53 := K43.trans Kc all0
  have f54 := f44.keep Kc
  have f55 := f45.keep Kc nin0
  have f56 := f46.keep Kc nin0
  have f57 := f47.keep Kc nin0
  have f58 := f48.keep Kc nin0
  have f59 := f49.keep Kc nin0
  have f60 := f50.keep Kc nin0
  refine own_go st51 ?_
  show own_End p e below s _ _ _ (T51.setTop (mkF m 30 #[.val (.ref a), .val (.ref xa), .val (.ref ya), .val (.ref wa)] [(.ref so), (.ref a)]))
  obtain ⟨T61, h61, X61, e61, W61, st61⟩ := putF X51 hx hZ hown (host := "") (Or.inl (hw _ (List.mem_of_getElem? (i := 25) rfl))) Via.refl e52 f59 f54 (Or.inr ⟨(hw _ (List.mem_of_getElem? (i := 26) rfl)), rfl, hnm⟩) (hw _ (List.mem_of_getElem? (i := 5) rfl)) (ty := (.array .int)) (by decide) rfl rfl (g := (mkF m 30 #[.val (.ref a), .val (.ref xa), .val (.ref ya), .val (.ref wa)] [(.ref so), (.ref a)])) rfl rfl (hb hby d1_30)
  have N61 := Fr.snoc X61 N_c na
  have Z61 : n0 ≤ h61.size := by rw [W61.size]; exact Z52
  refine own_go st61 ?_
  have K62 := K53.wr W61 (Or.inl (List.mem_of_getElem? (i := 0) rfl))
  have f63 := f54.wr W61
  have f64 := f55.other W61 (Or.inr (slot_ne (Or.inl (hw _ (List.mem_of_getElem? (i := 14) rfl))) (Or.inr (hw _ (List.mem_of_getElem? (i := 26) rfl))) (by decide) (t := .int) (t' := (.array .int)) (by decide) (by decide)))
  have f65 := f56.other W61 (Or.inr (slot_ne (Or.inr (hw _ (List.mem_of_getElem? (i := 16) rfl))) (Or.inr (hw _ (List.mem_of_getElem? (i := 26) rfl))) (by decide) (t := (.array .int)) (t' := (.array .int)) (by decide) (by decide)))
  have f66 := f57.other W61 (Or.inr (slot_ne (Or.inr (hw _ (List.mem_of_getElem? (i := 18) rfl))) (Or.inr (hw _ (List.mem_of_getElem? (i := 26) rfl))) (by decide) (t := (.array .int)) (t' := (.array .int)) (by decide) (by decide)))
  have f67 := f58.other W61 (Or.inr (slot_ne (Or.inr (hw _ (List.mem_of_getElem? (i := 20) rfl))) (Or.inr (hw _ (List.mem_of_getElem? (i := 26) rfl))) (by decide) (t := (.array .long)) (t' := (.array .int)) (by decide) (by decide)))
  have f68 := f59.same W61
  have f69 := f60.other W61 ne_xa_a
  have f70 := Fso.other W61 (Nat.ne_of_gt lt_a_so)
  show own_End p e below s _ _ _ (T61.setTop (mkF m 33 #[.val (.ref a), .val (.ref xa), .val (.ref ya), .val (.ref wa)] []))
  exact own_ret X61 hx hret hlk (hb hby d1_33) ⟨rfl, N61, by rw [e61]; exact K62, so, kso, sso, by rw [e61]; exact ⟨f70, f64, f65, f66, f67, f68⟩⟩ (by decide) (by decide)
set_option maxRecDepth 65536 in
set_option maxHeartbeats 40000000 in
theorem rm4_0 (l : Launch) (Z : State) (a0 : Array Value) (hw : ∀ d ∈ tables_1, d.before a0 Z = true) (ws : List Jvm.Cond) (a : Addr) (pl : Int64) (h0 : Heap) (n0 : Nat) (Z0 : n0 ≤ h0.size) (w0 w1 w2 : Int64) (xa ya wa so : Addr) (ne_wa_a : wa ≠ a) (ne_so_a : so ≠ a) (na : n0 ≤ a) (E0 : Exa Z h0 a "com/example/ordinate/ordinate/core/PairBlocks$Sorted") (f_at : Fld Z h0 a "com/example/ordinate/ordinate/core/PairBlocks$Sorted" "at" "I" (.int (-1))) (f_xs : Fld Z h0 a "com/example/ordinate/ordinate/core/PairBlocks$Sorted" "xs" "[I" (.ref xa)) (f_ys : Fld Z h0 a "com/example/ordinate/ordinate/core/PairBlocks$Sorted" "ys" "[I" (.ref ya)) (f_weights : Fld Z h0 a "com/example/ordinate/ordinate/core/PairBlocks$Sorted" "weights" "[J" (.ref wa)) (f_sorted : Fld Z h0 a "com/example/ordinate/ordinate/core/PairBlocks$Sorted" "sorted" "[I" (.ref so)) {kso : ClassId} (F_so : own_F Z h0 so kso .int 3 own_id) {kw : ClassId} (F_wa : own_F Z h0 wa kw .long 3 (own_w3 w0 w1 w2)) (hs1 : (w0 + w1).toInt = w0.toInt + w1.toInt) (hs2 : ((w0 + w1) + w2).toInt = w0.toInt + w1.toInt + w2.toInt) (hp : pl.toInt < w0.toInt) :
    own_Met l (⟨"com/example/ordinate/ordinate/core/PairBlocks$Sorted", "skip", "(J)J"⟩ : MethodName) prog_110_method_6_code 7 (some .long) ws ({ frames := 0, cells := 0, slots := 0, locals := 0 } : Room) #[(.ref a), (.long pl)] Z h0 (fun v h L => v = some (.long (w0 - pl)) ∧ Fr n0 L ∧ Keep h0 h [a] ∧ Fld Z h a "com/example/ordinate/ordinate/core/PairBlocks$Sorted" "at" "I" (.int 0) ∧ Fld Z h a "com/example/ordinate/ordinate/core/PairBlocks$Sorted" "xs" "[I" (.ref xa) ∧ Fld Z h a "com/example/ordinate/ordinate/core/PairBlocks$Sorted" "ys" "[I" (.ref ya) ∧ Fld Z h a "com/example/ordinate/ordinate/core/PairBlocks$Sorted" "weights" "[J" (.ref wa) ∧ Fld Z h a "com/example/ordinate/ordinate/core/PairBlocks$Sorted" "sorted" "[I" (.ref so)) := by
  refine own_body (plainFor_of_name pn_PairBlocks_Sorted) ?_
  intro p e s m below meth c s0 X0 hx hby hml hret hlk hown hnm hZ e0
  replace hown : s.vm.findClass "com/example/ordinate/ordinate/core/PairBlocks$Sorted" = some m.cls := hown
  have N0 := Fr.nil n0
  have ef : entryFrame m #[(.ref a), (.long pl)] 7 = (mkF m 0 #[.val (.ref a), .val (.long pl), .second, .unset, .unset, .unset, .unset] []) := by first | (simp [entryFrame, mkF, argsToLocals, Value.category, maxLocals]; done) | rfl
  rw [ef]
  show own_End p e below s _ _ _ (s0.setTop (mkF m 0 #[.val (.ref a), .val (.long pl), .second, .unset, .unset, .unset, .unset] []))
  have K71 := Keep.refl h0 [a]
  refine own_go (fun t k => XT.lconst X0.here hx rfl (hb hby d4_0) k) ?_
  show own_End p e below s _ _ _ (s0.setTop (mkF m 1 #[.val (.ref a), .val (.long pl), .second, .unset, .unset, .unset, .unset] [(.long (0 : Int64))]))
  refine own_go (fun t k => XT.lstoreN X0.here hx rfl (hb hby d4_1) rfl (l' := #[.val (.ref a), .val (.long pl), .second, .val (.long (0 : Int64)), .second, .unset, .unset]) rfl k) ?_
  show own_End p e below s _ _ _ (s0.setTop (mkF m 2 #[.val (.ref a), .val (.long pl), .second, .val (.long (0 : Int64)), .second, .unset, .unset] []))
  refine own_go (fun t k => XS.aloadN X0.here hx rfl (hb hby d4_2) rfl rfl k) ?_
  show own_End p e below s _ _ _ (s0.setTop (mkF m 3 #[.val (.ref a), .val (.long pl), .second, .val (.long (0 : Int64)), .second, .unset, .unset] [(.ref a)]))
  refine own_go (fun t k => XS.dup X0.here hx rfl (hb hby d4_3) rfl rfl k) ?_
  show own_End p e below s _ _ _ (s0.setTop (mkF m 4 #[.val (.ref a), .val (.long pl), .second, .val (.long (0 : Int64)), .second, .unset, .unset] [(.ref a), (.ref a)]))
  obtain ⟨T72, X72, e72, st72⟩ := getF X0 hx hZ hown (host := "") (Or.inl (hw _ (List.mem_of_getElem? (i := 13) rfl))) Via.refl e0 f_at (g := (mkF m 4 #[.val (.ref a), .val (.long pl), .second, .val (.long (0 : Int64)), .second, .unset, .unset] [(.ref a), (.ref a)])) rfl rfl (hb hby d4_4)
  refine own_go st72 ?_
  show own_End p e below s _ _ _ (T72.setTop (mkF m 7 #[.val (.ref a), .val (.long pl), .second, .val (.long (0 : Int64)), .second, .unset, .unset] [(.int (-1 : Int32)), (.ref a)]))
  refine own_go (fun t k => XS.iconst X72.here hx rfl (hb hby d4_7) k) ?_
  show own_End p e below s _ _ _ (T72.setTop (mkF m 8 #[.val (.ref a), .val (.long pl), .second, .val (.long (0 : Int64)), .second, .unset, .unset] [(.int (1 : Int32)), (.int (-1 : Int32)), (.ref a)]))
  refine own_go (fun t k => XS.iadd X72.here hx rfl (hb hby d4_8) rfl k) ?_
  show own_End p e below s _ _ _ (T72.setTop (mkF m 9 #[.val (.ref a), .val (.long pl), .second, .val (.long (0 : Int64)), .second, .unset, .unset] [(.int ((-1 : Int32) + (1 : Int32))), (.ref a)]))
  rw [show ((-1 : Int32) + (1 : Int32)) = (0 : Int32) by decide]
  show own_End p e below s _ _ _ (T72.setTop (mkF m 9 #[.val (.ref a), .val (.long pl), .second, .val (.long (0 : Int64)), .second, .unset, .unset] [(.int (0 : Int32)), (.ref a)]))
  obtain ⟨T73, h73, X73, e73, W73, st73⟩ := putF X72 hx hZ hown (host := "") (Or.inl (hw _ (List.mem_of_getElem? (i := 13) rfl))) Via.refl e72 f_at E0 (Or.inl (hw _ (List.mem_of_getElem? (i := 14) rfl))) (hw _ (List.mem_of_getElem? (i := 5) rfl)) (ty := .int) (by decide) rfl rfl (g := (mkF m 9 #[.val (.ref a), .val (.long pl), .second, .val (.long (0 : Int64)), .second, .unset, .unset] [(.int (0 : Int32)), (.ref a)])) rfl rfl (hb hby d4_9)
  have N73 := Fr.snoc X73 N0 na
  have Z73 : n0 ≤ h73.size := by rw [W73.size]; exact Z0
  refine own_go st73 ?_
  have K74 := K71.wr W73 (Or.inl (List.mem_of_getElem? (i := 0) rfl))
  have f75 := E0.wr W73
  have f76 := f_at.same W73
  have f77 := f_xs.other W73 (Or.inr (slot_ne (Or.inr (hw _ (List.mem_of_getElem? (i := 16) rfl))) (Or.inl (hw _ (List.mem_of_getElem? (i := 14) rfl))) (by decide) (t := (.array .int)) (t' := .int) (by decide) (by decide)))
  have f78 := f_ys.other W73 (Or.inr (slot_ne (Or.inr (hw _ (List.mem_of_getElem? (i := 18) rfl))) (Or.inl (hw _ (List.mem_of_getElem? (i := 14) rfl))) (by decide) (t := (.array .int)) (t' := .int) (by decide) (by decide)))
  have f79 := f_weights.other W73 (Or.inr (slot_ne (Or.inr (hw _ (List.mem_of_getElem? (i := 20) rfl))) (Or.inl (hw _ (List.mem_of_getElem? (i := 14) rfl))) (by decide) (t := (.array .long)) (t' := .int) (by decide) (by decide)))
  have f80 := f_sorted.other W73 (Or.inr (slot_ne (Or.inr (hw _ (List.mem_of_getElem? (i := 26) rfl))) (Or.inl (hw _ (List.mem_of_getElem? (i := 14) rfl))) (by decide) (t := (.array .int)) (t' := .int) (by decide) (by decide)))
  have f81 := F_so.other W73 ne_so_a
  have f82 := F_wa.other W73 ne_wa_a
  show own_End p e below s _ _ _ (T73.setTop (mkF m 12 #[.val (.ref a), .val (.long pl), .second, .val (.long (0 : Int64)), .second, .unset, .unset] []))
  refine own_go (fun t k => XS.aloadN X73.here hx rfl (hb hby d4_12) rfl rfl k) ?_
  show own_End p e below s _ _ _ (T73.setTop (mkF m 13 #[.val (.ref a), .val (.long pl), .second, .val (.long (0 : Int64)), .second, .unset, .unset] [(.ref a)]))
  obtain ⟨T83, X83, e83, st83⟩ := getF X73 hx hZ hown (host := "") (Or.inl (hw _ (List.mem_of_getElem? (i := 19) rfl))) Via.refl e73 f79 (g := (mkF m 13 #[.val (.ref a), .val (.long pl), .second, .val (.long (0 : Int64)), .second, .unset, .unset] [(.ref a)])) rfl rfl (hb hby d4_13)
  refine own_go st83 ?_
  show own_End p e below s _ _ _ (T83.setTop (mkF m 16 #[.val (.ref a), .val (.long pl), .second, .val (.long (0 : Int64)), .second, .unset, .unset] [(.ref wa)]))
  refine own_go (fun t k => XS.aloadN X83.here hx rfl (hb hby d4_16) rfl rfl k) ?_
  show own_End p e below s _ _ _ (T83.setTop (mkF m 17 #[.val (.ref a), .val (.long pl), .second, .val (.long (0 : Int64)), .second, .unset, .unset] [(.ref a), (.ref wa)]))
  obtain ⟨T84, X84, e84, st84⟩ := getF X83 hx hZ hown (host := "") (Or.inl (hw _ (List.mem_of_getElem? (i := 25) rfl))) Via.refl e83 f80 (g := (mkF m 17 #[.val (.ref a), .val (.long pl), .second, .val (.long (0 : Int64)), .second, .unset, .unset] [(.ref a), (.ref wa)])) rfl rfl (hb hby d4_17)
  refine own_go st84 ?_
  show own_End p e below s _ _ _ (T84.setTop (mkF m 20 #[.val (.ref a), .val (.long pl), .second, .val (.long (0 : Int64)), .second, .unset, .unset] [(.ref so), (.ref wa)]))
  refine own_go (fun t k => XS.aloadN X84.here hx rfl (hb hby d4_20) rfl rfl k) ?_
  show own_End p e below s _ _ _ (T84.setTop (mkF m 21 #[.val (.ref a), .val (.long pl), .second, .val (.long (0 : Int64)), .second, .unset, .unset] [(.ref a), (.ref so), (.ref wa)]))
  obtain ⟨T85, X85, e85, st85⟩ := getF X84 hx hZ hown (host := "") (Or.inl (hw _ (List.mem_of_getElem? (i := 13) rfl))) Via.refl e84 f76 (g := (mkF m 21 #[.val (.ref a), .val (.long pl), .second, .val (.long (0 : Int64)), .second, .unset, .unset] [(.ref a), (.ref so), (.ref wa)])) rfl rfl (hb hby d4_21)
  refine own_go st85 ?_
  show own_End p e below s _ _ _ (T85.setTop (mkF m 24 #[.val (.ref a), .val (.long pl), .second, .val (.long (0 : Int64)), .second, .unset, .unset] [(.int (0 : Int32)), (.ref so), (.ref wa)]))
  refine own_go (own_fldI X85 hx hZ e85 f81 (j := (0 : Int32)) (v := (.int (0 : Int32))) 0 (by decide) (by decide) rfl (pc := 24) (Ls := #[.val (.ref a), .val (.long pl), .second, .val (.long (0 : Int64)), .second, .unset, .unset]) (rest := [(.ref wa)]) (hb hby d4_24)) ?_
  show own_End p e below s _ _ _ (T85.setTop (mkF m 25 #[.val (.ref a), .val (.long pl), .second, .val (.long (0 : Int64)), .second, .unset, .unset] [(.int (0 : Int32)), (.ref wa)]))
  refine own_go (own_fldJ X85 hx hZ e85 f82 (j := (0 : Int32)) (v := (.long w0)) 0 (by decide) (by decide) rfl (pc := 25) (Ls := #[.val (.ref a), .val (.long pl), .second, .val (.long (0 : Int64)), .second, .unset, .unset]) (rest := []) (hb hby d4_25)) ?_
  show own_End p e below s _ _ _ (T85.setTop (mkF m 26 #[.val (.ref a), .val (.long pl), .second, .val (.long (0 : Int64)), .second, .unset, .unset] [(.long w0)]))
  refine own_go (fun t k => XT.lstore X85.here hx rfl (hb hby d4_26) rfl (l' := #[.val (.ref a), .val (.long pl), .second, .val (.long (0 : Int64)), .second, .val (.long w0), .second]) rfl k) ?_
  show own_End p e below s _ _ _ (T85.setTop (mkF m 28 #[.val (.ref a), .val (.long pl), .second, .val (.long (0 : Int64)), .second, .val (.long w0), .second] []))
  refine own_go (fun t k => XT.lloadN X85.here hx rfl (hb hby d4_28) rfl k) ?_
  show own_End p e below s _ _ _ (T85.setTop (mkF m 29 #[.val (.ref a), .val (.long pl), .second, .val (.long (0 : Int64)), .second, .val (.long w0), .second] [(.long pl)]))
  refine own_go (fun t k => XT.lloadN X85.here hx rfl (hb hby d4_29) rfl k) ?_
  show own_End p e below s _ _ _ (T85.setTop (mkF m 30 #[.val (.ref a), .val (.long pl), .second, .val (.long (0 : Int64)), .second, .val (.long w0), .second] [(.long (0 : Int64)), (.long pl)]))
  refine own_go (fun t k => XT.lload X85.here hx rfl (hb hby d4_30) rfl k) ?_
  show own_End p e below s _ _ _ (T85.setTop (mkF m 32 #[.val (.ref a), .val (.long pl), .second, .val (.long (0 : Int64)), .second, .val (.long w0), .second] [(.long w0), (.long (0 : Int64)), (.long pl)]))
  refine own_go (fun t k => XT.ladd X85.here hx rfl (hb hby d4_32) rfl k) ?_
  show own_End p e below s _ _ _ (T85.setTop (mkF m 33 #[.val (.ref a), .val (.long pl), .second, .val (.long (0 : Int64)), .second, .val (.long w0), .second] [(.long ((0 : Int64) + w0)), (.long pl)]))
  rw [Int64.zero_add]
  show own_End p e below s _ _ _ (T85.setTop (mkF m 33 #[.val (.ref a), .val (.long pl), .second, .val (.long (0 : Int64)), .second, .val (.long w0), .second] [(.long w0), (.long pl)]))
  refine own_go (fun t k => XT.lcmp X85.here hx rfl (hb hby d4_33) rfl k) ?_
  show own_End p e below s _ _ _ (T85.setTop (mkF m 34 #[.val (.ref a), .val (.long pl), .second, .val (.long (0 : Int64)), .second, .val (.long w0), .second] [(.int (XT.cmpL pl w0))]))
  refine own_go (fun t k => XS.ifNo X85.here hx rfl (hb hby d4_34) rfl (own_lgeN (k := w0.toInt) rfl (by omega)) k) ?_
  show own_End p e below s _ _ _ (T85.setTop (mkF m 37 #[.val (.ref a), .val (.long pl), .second, .val (.long (0 : Int64)), .second, .val (.long w0), .second] []))
  refine own_go (fun t k => XT.lloadN X85.here hx rfl (hb hby d4_37) rfl k) ?_
  show own_End p e below s _ _ _ (T85.setTop (mkF m 38 #[.val (.ref a), .val (.long pl), .second, .val (.long (0 : Int64)), .second, .val (.long w0), .second] [(.long (0 : Int64))]))
  refine own_go (fun t k => XT.lload X85.here hx rfl (hb hby d4_38) rfl k) ?_
  show own_End p e below s _ _ _ (T85.setTop (mkF m 40 #[.val (.ref a), .val (.long pl), .second, .val (.long (0 : Int64)), .second, .val (.long w0), .second] [(.long w0), (.long (0 : Int64))]))
  refine own_go (fun t k => XT.ladd X85.here hx rfl (hb hby d4_40) rfl k) ?_
  show own_End p e below s _ _ _ (T85.setTop (mkF m 41 #[.val (.ref a), .val (.long pl), .second, .val (.long (0 : Int64)), .second, .val (.long w0), .second] [(.long ((0 : Int64) + w0))]))
  rw [Int64.zero_add]
  show own_End p e below s _ _ _ (T85.setTop (mkF m 41 #[.val (.ref a), .val (.long pl), .second, .val (.long (0 : Int64)), .second, .val (.long w0), .second] [(.long w0)]))
  refine own_go (fun t k => XT.lloadN X85.here hx rfl (hb hby d4_41) rfl k) ?_
  show own_End p e below s _ _ _ (T85.setTop (mkF m 42 #[.val (.ref a), .val (.long pl), .second, .val (.long (0 : Int64)), .second, .val (.long w0), .second] [(.long pl), (.long w0)]))
  refine own_go (fun t k => XT.lsub X85.here hx rfl (hb hby d4_42) rfl k) ?_
  show own_End p e below s _ _ _ (T85.setTop (mkF m 43 #[.val (.ref a), .val (.long pl), .second, .val (.long (0 : Int64)), .second, .val (.long w0), .second] [(.long (w0 - pl))]))
  exact own_retJ X85 hx hret hlk (hb hby d4_43) ⟨rfl, N73, by rw [e85]; exact K74, by rw [e85]; exact ⟨f76, f77, f78, f79, f80⟩⟩ (by decide) (by decide)
set_option maxRecDepth 65536 in
set_option maxHeartbeats 40000000 in
theorem rm4_1 (l : Launch) (Z : State) (a0 : Array Value) (hw : ∀ d ∈ tables_1, d.before a0 Z = true) (ws : List Jvm.Cond) (a : Addr) (pl : Int64) (h0 : Heap) (n0 : Nat) (Z0 : n0 ≤ h0.size) (w0 w1 w2 : Int64) (xa ya wa so : Addr) (ne_wa_a : wa ≠ a) (ne_so_a : so ≠ a) (na : n0 ≤ a) (E0 : Exa Z h0 a "com/example/ordinate/ordinate/core/PairBlocks$Sorted") (f_at : Fld Z h0 a "com/example/ordinate/ordinate/core/PairBlocks$Sorted" "at" "I" (.int (-1))) (f_xs : Fld Z h0 a "com/example/ordinate/ordinate/core/PairBlocks$Sorted" "xs" "[I" (.ref xa)) (f_ys : Fld Z h0 a "com/example/ordinate/ordinate/core/PairBlocks$Sorted" "ys" "[I" (.ref ya)) (f_weights : Fld Z h0 a "com/example/ordinate/ordinate/core/PairBlocks$Sorted" "weights" "[J" (.ref wa)) (f_sorted : Fld Z h0 a "com/example/ordinate/ordinate/core/PairBlocks$Sorted" "sorted" "[I" (.ref so)) {kso : ClassId} (F_so : own_F Z h0 so kso .int 3 own_id) {kw : ClassId} (F_wa : own_F Z h0 wa kw .long 3 (own_w3 w0 w1 w2)) (hs1 : (w0 + w1).toInt = w0.toInt + w1.toInt) (hs2 : ((w0 + w1) + w2).toInt = w0.toInt + w1.toInt + w2.toInt) (hp0 : w0.toInt ≤ pl.toInt) (hp : pl.toInt < w0.toInt + w1.toInt) :
    own_Met l (⟨"com/example/ordinate/ordinate/core/PairBlocks$Sorted", "skip", "(J)J"⟩ : MethodName) prog_110_method_6_code 7 (some .long) ws ({ frames := 0, cells := 0, slots := 0, locals := 0 } : Room) #[(.ref a), (.long pl)] Z h0 (fun v h L => v = some (.long ((w0 + w1) - pl)) ∧ Fr n0 L ∧ Keep h0 h [a] ∧ Fld Z h a "com/example/ordinate/ordinate/core/PairBlocks$Sorted" "at" "I" (.int 1) ∧ Fld Z h a "com/example/ordinate/ordinate/core/PairBlocks$Sorted" "xs" "[I" (.ref xa) ∧ Fld Z h a "com/example/ordinate/ordinate/core/PairBlocks$Sorted" "ys" "[I" (.ref ya) ∧ Fld Z h a "com/example/ordinate/ordinate/core/PairBlocks$Sorted" "weights" "[J" (.ref wa) ∧ Fld Z h a "com/example/ordinate/ordinate/core/PairBlocks$Sorted" "sorted" "[I" (.ref so)) := by
  refine own_body (plainFor_of_name pn_PairBlocks_Sorted) ?_
  intro p e s m below meth c s0 X0 hx hby hml hret hlk hown hnm hZ e0
  replace hown : s.vm.findClass "com/example/ordinate/ordinate/core/PairBlocks$Sorted" = some m.cls := hown
  have N0 := Fr.nil n0
  have ef : entryFrame m #[(.ref a), (.long pl)] 7 = (mkF m 0 #[.val (.ref a), .val (.long pl), .second, .unset, .unset, .unset, .unset] []) := by first | (simp [entryFrame, mkF, argsToLocals, Value.category, maxLocals]; done) | rfl
  rw [ef]
  show own_End p e below s _ _ _ (s0.setTop (mkF m 0 #[.val (.ref a), .val (.long pl), .second, .unset, .unset, .unset, .unset] []))
  have K86 := Keep.refl h0 [a]
  refine own_go (fun t k => XT.lconst X0.here hx rfl (hb hby d4_0) k) ?_
  show own_End p e below s _ _ _ (s0.setTop (mkF m 1 #[.val (.ref a), .val (.long pl), .second, .unset, .unset, .unset, .unset] [(.long (0 : Int64))]))
  refine own_go (fun t k => XT.lstoreN X0.here hx rfl (hb hby d4_1) rfl (l' := #[.val (.ref a), .val (.long pl), .second, .val (.long (0 : Int64)), .second, .unset, .unset]) rfl k) ?_
  show own_End p e below s _ _ _ (s0.setTop (mkF m 2 #[.val (.ref a), .val (.long pl), .second, .val (.long (0 : Int64)), .second, .unset, .unset] []))
  refine own_go (fun t k => XS.aloadN X0.here hx rfl (hb hby d4_2) rfl rfl k) ?_
  show own_End p e below s _ _ _ (s0.setTop (mkF m 3 #[.val (.ref a), .val (.long pl), .second, .val (.long (0 : Int64)), .second, .unset, .unset] [(.ref a)]))
  refine own_go (fun t k => XS.dup X0.here hx rfl (hb hby d4_3) rfl rfl k) ?_
  show own_End p e below s _ _ _ (s0.setTop (mkF m 4 #[.val (.ref a), .val (.long pl), .second, .val (.long (0 : Int64)), .second, .unset, .unset] [(.ref a), (.ref a)]))
  obtain ⟨T87, X87, e87, st87⟩ := getF X0 hx hZ hown (host := "") (Or.inl (hw _ (List.mem_of_getElem? (i := 13) rfl))) Via.refl e0 f_at (g := (mkF m 4 #[.val (.ref a), .val (.long pl), .second, .val (.long (0 : Int64)), .second, .unset, .unset] [(.ref a), (.ref a)])) rfl rfl (hb hby d4_4)
  refine own_go st87 ?_
  show own_End p e below s _ _ _ (T87.setTop (mkF m 7 #[.val (.ref a), .val (.long pl), .second, .val (.long (0 : Int64)), .second, .unset, .unset] [(.int (-1 : Int32)), (.ref a)]))
  refine own_go (fun t k => XS.iconst X87.here hx rfl (hb hby d4_7) k) ?_
  show own_End p e below s _ _ _ (T87.setTop (mkF m 8 #[.val (.ref a), .val (.long pl), .second, .val (.long (0 : Int64)), .second, .unset, .unset] [(.int (1 : Int32)), (.int (-1 : Int32)), (.ref a)]))
  refine own_go (fun t k => XS.iadd X87.here hx rfl (hb hby d4_8) rfl k) ?_
  show own_End p e below s _ _ _ (T87.setTop (mkF m 9 #[.val (.ref a), .val (.long pl), .second, .val (.long (0 : Int64)), .second, .unset, .unset] [(.int ((-1 : Int32) + (1 : Int32))), (.ref a)]))
  rw [show ((-1 : Int32) + (1 : Int32)) = (0 : Int32) by decide]
  show own_End p e below s _ _ _ (T87.setTop (mkF m 9 #[.val (.ref a), .val (.long pl), .second, .val (.long (0 : Int64)), .second, .unset, .unset] [(.int (0 : Int32)), (.ref a)]))
  obtain ⟨T88, h88, X88, e88, W88, st88⟩ := putF X87 hx hZ hown (host := "") (Or.inl (hw _ (List.mem_of_getElem? (i := 13) rfl))) Via.refl e87 f_at E0 (Or.inl (hw _ (List.mem_of_getElem? (i := 14) rfl))) (hw _ (List.mem_of_getElem? (i := 5) rfl)) (ty := .int) (by decide) rfl rfl (g := (mkF m 9 #[.val (.ref a), .val (.long pl), .second, .val (.long (0 : Int64)), .second, .unset, .unset] [(.int (0 : Int32)), (.ref a)])) rfl rfl (hb hby d4_9)
  have N88 := Fr.snoc X88 N0 na
  have Z88 : n0 ≤ h88.size := by rw [W88.size]; exact Z0
  refine own_go st88 ?_
  have K89 := K86.wr W88 (Or.inl (List.mem_of_getElem? (i := 0) rfl))
  have f90 := E0.wr W88
  have f91 := f_at.same W88
  have f92 := f_xs.other W88 (Or.inr (slot_ne (Or.inr (hw _ (List.mem_of_getElem? (i := 16) rfl))) (Or.inl (hw _ (List.mem_of_getElem? (i := 14) rfl))) (by decide) (t := (.array .int)) (t' := .int) (by decide) (by decide)))
  have f93 := f_ys.other W88 (Or.inr (slot_ne (Or.inr (hw _ (List.mem_of_getElem? (i := 18) rfl))) (Or.inl (hw _ (List.mem_of_getElem? (i := 14) rfl))) (by decide) (t := (.array .int)) (t' := .int) (by decide) (by decide)))
  have f94 := f_weights.other W88 (Or.inr (slot_ne (Or.inr (hw _ (List.mem_of_getElem? (i := 20) rfl))) (Or.inl (hw _ (List.mem_of_getElem? (i := 14) rfl))) (by decide) (t := (.array .long)) (t' := .int) (by decide) (by decide)))
  have f95 := f_sorted.other W88 (Or.inr (slot_ne (Or.inr (hw _ (List.mem_of_getElem? (i := 26) rfl))) (Or.inl (hw _ (List.mem_of_getElem? (i := 14) rfl))) (by decide) (t := (.array .int)) (t' := .int) (by decide) (by decide)))
  have f96 := F_so.other W88 ne_so_a
  have f97 := F_wa.other W88 ne_wa_a
  show own_End p e below s _ _ _ (T88.setTop (mkF m 12 #[.val (.ref a), .val (.long pl), .second, .val (.long (0 : Int64)), .second, .unset, .unset] []))
  refine own_go (fun t k => XS.aloadN X88.here hx rfl (hb hby d4_12) rfl rfl k) ?_
  show own_End p e below s _ _ _ (T88.setTop (mkF m 13 #[.val (.ref a), .val (.long pl), .second, .val (.long (0 : Int64)), .second, .unset, .unset] [(.ref a)]))
  obtain ⟨T98, X98, e98, st98⟩ := getF X88 hx hZ hown (host := "") (Or.inl (hw _ (List.mem_of_getElem? (i := 19) rfl))) Via.refl e88 f94 (g := (mkF m 13 #[.val (.ref a), .val (.long pl), .second, .val (.long (0 : Int64)), .second, .unset, .unset] [(.ref a)])) rfl rfl (hb hby d4_13)
  refine own_go st98 ?_
  show own_End p e below s _ _ _ (T98.setTop (mkF m 16 #[.val (.ref a), .val (.long pl), .second, .val (.long (0 : Int64)), .second, .unset, .unset] [(.ref wa)]))
  refine own_go (fun t k => XS.aloadN X98.here hx rfl (hb hby d4_16) rfl rfl k) ?_
  show own_End p e below s _ _ _ (T98.setTop (mkF m 17 #[.val (.ref a), .val (.long pl), .second, .val (.long (0 : Int64)), .second, .unset, .unset] [(.ref a), (.ref wa)]))
  obtain ⟨T99, X99, e99, st99⟩ := getF X98 hx hZ hown (host := "") (Or.inl (hw _ (List.mem_of_getElem? (i := 25) rfl))) Via.refl e98 f95 (g := (mkF m 17 #[.val (.ref a), .val (.long pl), .second, .val (.long (0 : Int64)), .second, .unset, .unset] [(.ref a), (.ref wa)])) rfl rfl (hb hby d4_17)
  refine own_go st99 ?_
  show own_End p e below s _ _ _ (T99.setTop (mkF m 20 #[.val (.ref a), .val (.long pl), .second, .val (.long (0 : Int64)), .second, .unset, .unset] [(.ref so), (.ref wa)]))
  refine own_go (fun t k => XS.aloadN X99.here hx rfl (hb hby d4_20) rfl rfl k) ?_
  show own_End p e below s _ _ _ (T99.setTop (mkF m 21 #[.val (.ref a), .val (.long pl), .second, .val (.long (0 : Int64)), .second, .unset, .unset] [(.ref a), (.ref so), (.ref wa)]))
  obtain ⟨T100, X100, e100, st100⟩ := getF X99 hx hZ hown (host := "") (Or.inl (hw _ (List.mem_of_getElem? (i := 13) rfl))) Via.refl e99 f91 (g := (mkF m 21 #[.val (.ref a), .val (.long pl), .second, .val (.long (0 : Int64)), .second, .unset, .unset] [(.ref a), (.ref so), (.ref wa)])) rfl rfl (hb hby d4_21)
  refine own_go st100 ?_
  show own_End p e below s _ _ _ (T100.setTop (mkF m 24 #[.val (.ref a), .val (.long pl), .second, .val (.long (0 : Int64)), .second, .unset, .unset] [(.int (0 : Int32)), (.ref so), (.ref wa)]))
  refine own_go (own_fldI X100 hx hZ e100 f96 (j := (0 : Int32)) (v := (.int (0 : Int32))) 0 (by decide) (by decide) rfl (pc := 24) (Ls := #[.val (.ref a), .val (.long pl), .second, .val (.long (0 : Int64)), .second, .unset, .unset]) (rest := [(.ref wa)]) (hb hby d4_24)) ?_
  show own_End p e below s _ _ _ (T100.setTop (mkF m 25 #[.val (.ref a), .val (.long pl), .second, .val (.long (0 : Int64)), .second, .unset, .unset] [(.int (0 : Int32)), (.ref wa)]))
  refine own_go (own_fldJ X100 hx hZ e100 f97 (j := (0 : Int32)) (v := (.long w0)) 0 (by decide) (by decide) rfl (pc := 25) (Ls := #[.val (.ref a), .val (.long pl), .second, .val (.long (0 : Int64)), .second, .unset, .unset]) (rest := []) (hb hby d4_25)) ?_
  show own_End p e below s _ _ _ (T100.setTop (mkF m 26 #[.val (.ref a), .val (.long pl), .second, .val (.long (0 : Int64)), .second, .unset, .unset] [(.long w0)]))
  refine own_go (fun t k => XT.lstore X100.here hx rfl (hb hby d4_26) rfl (l' := #[.val (.ref a), .val (.long pl), .second, .val (.long (0 : Int64)), .second, .val (.long w0), .second]) rfl k) ?_
  show own_End p e below s _ _ _ (T100.setTop (mkF m 28 #[.val (.ref a), .val (.long pl), .second, .val (.long (0 : Int64)), .second, .val (.long w0), .second] []))
  refine own_go (fun t k => XT.lloadN X100.here hx rfl (hb hby d4_28) rfl k) ?_
  show own_End p e below s _ _ _ (T100.setTop (mkF m 29 #[.val (.ref a), .val (.long pl), .second, .val (.long (0 : Int64)), .second, .val (.long w0), .second] [(.long pl)]))
  refine own_go (fun t k => XT.lloadN X100.here hx rfl (hb hby d4_29) rfl k) ?_
  show own_End p e below s _ _ _ (T100.setTop (mkF m 30 #[.val (.ref a), .val (.long pl), .second, .val (.long (0 : Int64)), .second, .val (.long w0), .second] [(.long (0 : Int64)), (.long pl)]))
  refine own_go (fun t k => XT.lload X100.here hx rfl (hb hby d4_30) rfl k) ?_
  show own_End p e below s _ _ _ (T100.setTop (mkF m 32 #[.val (.ref a), .val (.long pl), .second, .val (.long (0 : Int64)), .second, .val (.long w0), .second] [(.long w0), (.long (0 : Int64)), (.long pl)]))
  refine own_go (fun t k => XT.ladd X100.here hx rfl (hb hby d4_32) rfl k) ?_
  show own_End p e below s _ _ _ (T100.setTop (mkF m 33 #[.val (.ref a), .val (.long pl), .second, .val (.long (0 : Int64)), .second, .val (.long w0), .second] [(.long ((0 : Int64) + w0)), (.long pl)]))
  rw [Int64.zero_add]
  show own_End p e below s _ _ _ (T100.setTop (mkF m 33 #[.val (.ref a), .val (.long pl), .second, .val (.long (0 : Int64)), .second, .val (.long w0), .second] [(.long w0), (.long pl)]))
  refine own_go (fun t k => XT.lcmp X100.here hx rfl (hb hby d4_33) rfl k) ?_
  show own_End p e below s _ _ _ (T100.setTop (mkF m 34 #[.val (.ref a), .val (.long pl), .second, .val (.long (0 : Int64)), .second, .val (.long w0), .second] [(.int (XT.cmpL pl w0))]))
  refine own_go (fun t k => XS.ifYes X100.here hx rfl (pc0 := 34) (pc' := 44) rfl (hb hby d4_34) rfl (own_lgeY (k := w0.toInt) rfl (by omega)) (by decide) (by decide) k) ?_
  show own_End p e below s _ _ _ (T100.setTop (mkF m 44 #[.val (.ref a), .val (.long pl), .second, .val (.long (0 : Int64)), .second, .val (.long w0), .second] []))
  refine own_go (fun t k => XT.lloadN X100.here hx rfl (hb hby d4_44) rfl k) ?_
  show own_End p e below s _ _ _ (T100.setTop (mkF m 45 #[.val (.ref a), .val (.long pl), .second, .val (.long (0 : Int64)), .second, .val (.long w0), .second] [(.long (0 : Int64))]))
  refine own_go (fun t k => XT.lload X100.here hx rfl (hb hby d4_45) rfl k) ?_
  show own_End p e below s _ _ _ (T100.setTop (mkF m 47 #[.val (.ref a), .val (.long pl), .second, .val (.long (0 : Int64)), .second, .val (.long w0), .second] [(.long w0), (.long (0 : Int64))]))
  refine own_go (fun t k => XT.ladd X100.here hx rfl (hb hby d4_47) rfl k) ?_
  show own_End p e below s _ _ _ (T100.setTop (mkF m 48 #[.val (.ref a), .val (.long pl), .second, .val (.long (0 : Int64)), .second, .val (.long w0), .second] [(.long ((0 : Int64) + w0))]))
  rw [Int64.zero_add]
  show own_End p e below s _ _ _ (T100.setTop (mkF m 48 #[.val (.ref a), .val (.long pl), .second, .val (.long (0 : Int64)), .second, .val (.long w0), .second] [(.long w0)]))
  refine own_go (fun t k => XT.lstoreN X100.here hx rfl (hb hby d4_48) rfl (l' := #[.val (.ref a), .val (.long pl), .second, .val (.long w0), .second, .val (.long w0), .second]) rfl k) ?_
  show own_End p e below s _ _ _ (T100.setTop (mkF m 49 #[.val (.ref a), .val (.long pl), .second, .val (.long w0), .second, .val (.long w0), .second] []))
  refine own_go (fun t k => XS.goto X100.here hx rfl (pc0 := 49) (pc' := 2) rfl (hb hby d4_49) (by decide) (by decide) k) ?_
  show own_End p e below s _ _ _ (T100.setTop (mkF m 2 #[.val (.ref a), .val (.long pl), .second, .val (.long w0), .second, .val (.long w0), .second] []))
  refine own_go (fun t k => XS.aloadN X100.here hx rfl (hb hby d4_2) rfl rfl k) ?_
  show own_End p e below s _ _ _ (T100.setTop (mkF m 3 #[.val (.ref a), .val (.long pl), .second, .val (.long w0), .second, .val (.long w0), .second] [(.ref a)]))
  refine own_go (fun t k => XS.dup X100.here hx rfl (hb hby d4_3) rfl rfl k) ?_
  show own_End p e below s _ _ _ (T100.setTop (mkF m 4 #[.val (.ref a), .val (.long pl), .second, .val (.long w0), .second, .val (.long w0), .second] [(.ref a), (.ref a)]))
  obtain ⟨T101, X101, e101, st101⟩ := getF X100 hx hZ hown (host := "") (Or.inl (hw _ (List.mem_of_getElem? (i := 13) rfl))) Via.refl e100 f91 (g := (mkF m 4 #[.val (.ref a), .val (.long pl), .second, .val (.long w0), .second, .val (.long w0), .second] [(.ref a), (.ref a)])) rfl rfl (hb hby d4_4)
  refine own_go st101 ?_
  show own_End p e below s _ _ _ (T101.setTop (mkF m 7 #[.val (.ref a), .val (.long pl), .second, .val (.long w0), .second, .val (.long w0), .second] [(.int (0 : Int32)), (.ref a)]))
  refine own_go (fun t k => XS.iconst X101.here hx rfl (hb hby d4_7) k) ?_
  show own_End p e below s _ _ _ (T101.setTop (mkF m 8 #[.val (.ref a), .val (.long pl), .second, .val (.long w0), .second, .val (.long w0), .second] [(.int (1 : Int32)), (.int (0 : Int32)), (.ref a)]))
  refine own_go (fun t k => XS.iadd X101.here hx rfl (hb hby d4_8) rfl k) ?_
  show own_End p e below s _ _ _ (T101.setTop (mkF m 9 #[.val (.ref a), .val (.long pl), .second, .val (.long w0), .second, .val (.long w0), .second] [(.int ((0 : Int32) + (1 : Int32))), (.ref a)]))
  rw [show ((0 : Int32) + (1 : Int32)) = (1 : Int32) by decide]
  show own_End p e below s _ _ _ (T101.setTop (mkF m 9 #[.val (.ref a), .val (.long pl), .second, .val (.long w0), .second, .val (.long w0), .second] [(.int (1 : Int32)), (.ref a)]))
  obtain ⟨T102, h102, X102, e102, W102, st102⟩ := putF X101 hx hZ hown (host := "") (Or.inl (hw _ (List.mem_of_getElem? (i := 13) rfl))) Via.refl e101 f91 f90 (Or.inl (hw _ (List.mem_of_getElem? (i := 14) rfl))) (hw _ (List.mem_of_getElem? (i := 5) rfl)) (ty := .int) (by decide) rfl rfl (g := (mkF m 9 #[.val (.ref a), .val (.long pl), .second, .val (.long w0), .second, .val (.long w0), .second] [(.int (1 : Int32)), (.ref a)])) rfl rfl (hb hby d4_9)
  have N102 := Fr.snoc X102 N88 na
  have Z102 : n0 ≤ h102.size := by rw [W102.size]; exact Z88
  refine own_go st102 ?_
  have K103 := K89.wr W102 (Or.inl (List.mem_of_getElem? (i := 0) rfl))
  have f104 := f90.wr W102
  have f105 := f91.same W102
  have f106 := f92.other W102 (Or.inr (slot_ne (Or.inr (hw _ (List.mem_of_getElem? (i := 16) rfl))) (Or.inl (hw _ (List.mem_of_getElem? (i := 14) rfl))) (by decide) (t := (.array .int)) (t' := .int) (by decide) (by decide)))
  have f107 := f93.other W102 (Or.inr (slot_ne (Or.inr (hw _ (List.mem_of_getElem? (i := 18) rfl))) (Or.inl (hw _ (List.mem_of_getElem? (i := 14) rfl))) (by decide) (t := (.array .int)) (t' := .int) (by decide) (by decide)))
  have f108 := f94.other W102 (Or.inr (slot_ne (Or.inr (hw _ (List.mem_of_getElem? (i := 20) rfl))) (Or.inl (hw _ (List.mem_of_getElem? (i := 14) rfl))) (by decide) (t := (.array .long)) (t' := .int) (by decide) (by decide)))
  have f109 := f95.other W102 (Or.inr (slot_ne (Or.inr (hw _ (List.mem_of_getElem? (i := 26) rfl))) (Or.inl (hw _ (List.mem_of_getElem? (i := 14) rfl))) (by decide) (t := (.array .int)) (t' := .int) (by decide) (by decide)))
  have f110 := f96.other W102 ne_so_a
  have f111 := f97.other W102 ne_wa_a
  show own_End p e below s _ _ _ (T102.setTop (mkF m 12 #[.val (.ref a), .val (.long pl), .second, .val (.long w0), .second, .val (.long w0), .second] []))
  refine own_go (fun t k => XS.aloadN X102.here hx rfl (hb hby d4_12) rfl rfl k) ?_
  show own_End p e below s _ _ _ (T102.setTop (mkF m 13 #[.val (.ref a), .val (.long pl), .second, .val (.long w0), .second, .val (.long w0), .second] [(.ref a)]))
  obtain ⟨T112, X112, e112, st112⟩ := getF X102 hx hZ hown (host := "") (Or.inl (hw _ (List.mem_of_getElem? (i := 19) rfl))) Via.refl e102 f108 (g := (mkF m 13 #[.val (.ref a), .val (.long pl), .second, .val (.long w0), .second, .val (.long w0), .second] [(.ref a)])) rfl rfl (hb hby d4_13)
  refine own_go st112 ?_
  show own_End p e below s _ _ _ (T112.setTop (mkF m 16 #[.val (.ref a), .val (.long pl), .second, .val (.long w0), .second, .val (.long w0), .second] [(.ref wa)]))
  refine own_go (fun t k => XS.aloadN X112.here hx rfl (hb hby d4_16) rfl rfl k) ?_
  show own_End p e below s _ _ _ (T112.setTop (mkF m 17 #[.val (.ref a), .val (.long pl), .second, .val (.long w0), .second, .val (.long w0), .second] [(.ref a), (.ref wa)]))
  obtain ⟨T113, X113, e113, st113⟩ := getF X112 hx hZ hown (host := "") (Or.inl (hw _ (List.mem_of_getElem? (i := 25) rfl))) Via.refl e112 f109 (g := (mkF m 17 #[.val (.ref a), .val (.long pl), .second, .val (.long w0), .second, .val (.long w0), .second] [(.ref a), (.ref wa)])) rfl rfl (hb hby d4_17)
  refine own_go st113 ?_
  show own_End p e below s _ _ _ (T113.setTop (mkF m 20 #[.val (.ref a), .val (.long pl), .second, .val (.long w0), .second, .val (.long w0), .second] [(.ref so), (.ref wa)]))
  refine own_go (fun t k => XS.aloadN X113.here hx rfl (hb hby d4_20) rfl rfl k) ?_
  show own_End p e below s _ _ _ (T113.setTop (mkF m 21 #[.val (.ref a), .val (.long pl), .second, .val (.long w0), .second, .val (.long w0), .second] [(.ref a), (.ref so), (.ref wa)]))
  obtain ⟨T114, X114, e114, st114⟩ := getF X113 hx hZ hown (host := "") (Or.inl (hw _ (List.mem_of_getElem? (i := 13) rfl))) Via.refl e113 f105 (g := (mkF m 21 #[.val (.ref a), .val (.long pl), .second, .val (.long w0), .second, .val (.long w0), .second] [(.ref a), (.ref so), (.ref wa)])) rfl rfl (hb hby d4_21)
  refine own_go st114 ?_
  show own_End p e below s _ _ _ (T114.setTop (mkF m 24 #[.val (.ref a), .val (.long pl), .second, .val (.long w0), .second, .val (.long w0), .second] [(.int (1 : Int32)), (.ref so), (.ref wa)]))
  refine own_go (own_fldI X114 hx hZ e114 f110 (j := (1 : Int32)) (v := (.int (1 : Int32))) 1 (by decide) (by decide) rfl (pc := 24) (Ls := #[.val (.ref a), .val (.long pl), .second, .val (.long w0), .second, .val (.long w0), .second]) (rest := [(.ref wa)]) (hb hby d4_24)) ?_
  show own_End p e below s _ _ _ (T114.setTop (mkF m 25 #[.val (.ref a), .val (.long pl), .second, .val (.long w0), .second, .val (.long w0), .second] [(.int (1 : Int32)), (.ref wa)]))
  refine own_go (own_fldJ X114 hx hZ e114 f111 (j := (1 : Int32)) (v := (.long w1)) 1 (by decide) (by decide) rfl (pc := 25) (Ls := #[.val (.ref a), .val (.long pl), .second, .val (.long w0), .second, .val (.long w0), .second]) (rest := []) (hb hby d4_25)) ?_
  show own_End p e below s _ _ _ (T114.setTop (mkF m 26 #[.val (.ref a), .val (.long pl), .second, .val (.long w0), .second, .val (.long w0), .second] [(.long w1)]))
  refine own_go (fun t k => XT.lstore X114.here hx rfl (hb hby d4_26) rfl (l' := #[.val (.ref a), .val (.long pl), .second, .val (.long w0), .second, .val (.long w1), .second]) rfl k) ?_
  show own_End p e below s _ _ _ (T114.setTop (mkF m 28 #[.val (.ref a), .val (.long pl), .second, .val (.long w0), .second, .val (.long w1), .second] []))
  refine own_go (fun t k => XT.lloadN X114.here hx rfl (hb hby d4_28) rfl k) ?_
  show own_End p e below s _ _ _ (T114.setTop (mkF m 29 #[.val (.ref a), .val (.long pl), .second, .val (.long w0), .second, .val (.long w1), .second] [(.long pl)]))
  refine own_go (fun t k => XT.lloadN X114.here hx rfl (hb hby d4_29) rfl k) ?_
  show own_End p e below s _ _ _ (T114.setTop (mkF m 30 #[.val (.ref a), .val (.long pl), .second, .val (.long w0), .second, .val (.long w1), .second] [(.long w0), (.long pl)]))
  refine own_go (fun t k => XT.lload X114.here hx rfl (hb hby d4_30) rfl k) ?_
  show own_End p e below s _ _ _ (T114.setTop (mkF m 32 #[.val (.ref a), .val (.long pl), .second, .val (.long w0), .second, .val (.long w1), .second] [(.long w1), (.long w0), (.long pl)]))
  refine own_go (fun t k => XT.ladd X114.here hx rfl (hb hby d4_32) rfl k) ?_
  show own_End p e below s _ _ _ (T114.setTop (mkF m 33 #[.val (.ref a), .val (.long pl), .second, .val (.long w0), .second, .val (.long w1), .second] [(.long (w0 + w1)), (.long pl)]))
  refine own_go (fun t k => XT.lcmp X114.here hx rfl (hb hby d4_33) rfl k) ?_
  show own_End p e below s _ _ _ (T114.setTop (mkF m 34 #[.val (.ref a), .val (.long pl), .second, .val (.long w0), .second, .val (.long w1), .second] [(.int (XT.cmpL pl (w0 + w1)))]))
  refine own_go (fun t k => XS.ifNo X114.here hx rfl (hb hby d4_34) rfl (own_lgeN (k := (w0.toInt + w1.toInt)) hs1 (by omega)) k) ?_
  show own_End p e below s _ _ _ (T114.setTop (mkF m 37 #[.val (.ref a), .val (.long pl), .second, .val (.long w0), .second, .val (.long w1), .second] []))
  refine own_go (fun t k => XT.lloadN X114.here hx rfl (hb hby d4_37) rfl k) ?_
  show own_End p e below s _ _ _ (T114.setTop (mkF m 38 #[.val (.ref a), .val (.long pl), .second, .val (.long w0), .second, .val (.long w1), .second] [(.long w0)]))
  refine own_go (fun t k => XT.lload X114.here hx rfl (hb hby d4_38) rfl k) ?_
  show own_End p e below s _ _ _ (T114.setTop (mkF m 40 #[.val (.ref a), .val (.long pl), .second, .val (.long w0), .second, .val (.long w1), .second] [(.long w1), (.long w0)]))
  refine own_go (fun t k => XT.ladd X114.here hx rfl (hb hby d4_40) rfl k) ?_
  show own_End p e below s _ _ _ (T114.setTop (mkF m 41 #[.val (.ref a), .val (.long pl), .second, .val (.long w0), .second, .val (.long w1), .second] [(.long (w0 + w1))]))
  refine own_go (fun t k => XT.lloadN X114.here hx rfl (hb hby d4_41) rfl k) ?_
  show own_End p e below s _ _ _ (T114.setTop (mkF m 42 #[.val (.ref a), .val (.long pl), .second, .val (.long w0), .second, .val (.long w1), .second] [(.long pl), (.long (w0 + w1))]))
  refine own_go (fun t k => XT.lsub X114.here hx rfl (hb hby d4_42) rfl k) ?_
  show own_End p e below s _ _ _ (T114.setTop (mkF m 43 #[.val (.ref a), .val (.long pl), .second, .val (.long w0), .second, .val (.long w1), .second] [(.long ((w0 + w1) - pl))]))
  exact own_retJ X114 hx hret hlk (hb hby d4_43) ⟨rfl, N102, by rw [e114]; exact K103, by rw [e114]; exact ⟨f105, f106, f107, f108, f109⟩⟩ (by decide) (by decide)
set_option maxRecDepth 65536 in
set_option maxHeartbeats 40000000 in
theorem rm4_2 (l : Launch) (Z : State) (a0 : Array Value) (hw : ∀ d ∈ tables_1, d.before a0 Z = true) (ws : List Jvm.Cond) (a : Addr) (pl : Int64) (h0 : Heap) (n0 : Nat) (Z0 : n0 ≤ h0.size) (w0 w1 w2 : Int64) (xa ya wa so : Addr) (ne_wa_a : wa ≠ a) (ne_so_a : so ≠ a) (na : n0 ≤ a) (E0 : Exa Z h0 a "com/example/ordinate/ordinate/core/PairBlocks$Sorted") (f_at : Fld Z h0 a "com/example/ordinate/ordinate/core/PairBlocks$Sorted" "at" "I" (.int (-1))) (f_xs : Fld Z h0 a "com/example/ordinate/ordinate/core/PairBlocks$Sorted" "xs" "[I" (.ref xa)) (f_ys : Fld Z h0 a "com/example/ordinate/ordinate/core/PairBlocks$Sorted" "ys" "[I" (.ref ya)) (f_weights : Fld Z h0 a "com/example/ordinate/ordinate/core/PairBlocks$Sorted" "weights" "[J" (.ref wa)) (f_sorted : Fld Z h0 a "com/example/ordinate/ordinate/core/PairBlocks$Sorted" "sorted" "[I" (.ref so)) {kso : ClassId} (F_so : own_F Z h0 so kso .int 3 own_id) {kw : ClassId} (F_wa : own_F Z h0 wa kw .long 3 (own_w3 w0 w1 w2)) (hs1 : (w0 + w1).toInt = w0.toInt + w1.toInt) (hs2 : ((w0 + w1) + w2).toInt = w0.toInt + w1.toInt + w2.toInt) (hp0 : w0.toInt ≤ pl.toInt) (hp1 : w0.toInt + w1.toInt ≤ pl.toInt) (hp : pl.toInt < w0.toInt + w1.toInt + w2.toInt) :
    own_Met l (⟨"com/example/ordinate/ordinate/core/PairBlocks$Sorted", "skip", "(J)J"⟩ : MethodName) prog_110_method_6_code 7 (some .long) ws ({ frames := 0, cells := 0, slots := 0, locals := 0 } : Room) #[(.ref a), (.long pl)] Z h0 (fun v h L => v = some (.long (((w0 + w1) + w2) - pl)) ∧ Fr n0 L ∧ Keep h0 h [a] ∧ Fld Z h a "com/example/ordinate/ordinate/core/PairBlocks$Sorted" "at" "I" (.int 2) ∧ Fld Z h a "com/example/ordinate/ordinate/core/PairBlocks$Sorted" "xs" "[I" (.ref xa) ∧ Fld Z h a "com/example/ordinate/ordinate/core/PairBlocks$Sorted" "ys" "[I" (.ref ya) ∧ Fld Z h a "com/example/ordinate/ordinate/core/PairBlocks$Sorted" "weights" "[J" (.ref wa) ∧ Fld Z h a "com/example/ordinate/ordinate/core/PairBlocks$Sorted" "sorted" "[I" (.ref so)) := by
  refine own_body (plainFor_of_name pn_PairBlocks_Sorted) ?_
  intro p e s m below meth c s0 X0 hx hby hml hret hlk hown hnm hZ e0
  replace hown : s.vm.findClass "com/example/ordinate/ordinate/core/PairBlocks$Sorted" = some m.cls := hown
  have N0 := Fr.nil n0
  have ef : entryFrame m #[(.ref a), (.long pl)] 7 = (mkF m 0 #[.val (.ref a), .val (.long pl), .second, .unset, .unset, .unset, .unset] []) := by first | (simp [entryFrame, mkF, argsToLocals, Value.category, maxLocals]; done) | rfl
  rw [ef]
  show own_End p e below s _ _ _ (s0.setTop (mkF m 0 #[.val (.ref a), .val (.long pl), .second, .unset, .unset, .unset, .unset] []))
  have K115 := Keep.refl h0 [a]
  refine own_go (fun t k => XT.lconst X0.here hx rfl (hb hby d4_0) k) ?_
  show own_End p e below s _ _ _ (s0.setTop (mkF m 1 #[.val (.ref a), .val (.long pl), .second, .unset, .unset, .unset, .unset] [(.long (0 : Int64))]))
  refine own_go (fun t k => XT.lstoreN X0.here hx rfl (hb hby d4_1) rfl (l' := #[.val (.ref a), .val (.long pl), .second, .val (.long (0 : Int64)), .second, .unset, .unset]) rfl k) ?_
  show own_End p e below s _ _ _ (s0.setTop (mkF m 2 #[.val (.ref a), .val (.long pl), .second, .val (.long (0 : Int64)), .second, .unset, .unset] []))
  refine own_go (fun t k => XS.aloadN X0.here hx rfl (hb hby d4_2) rfl rfl k) ?_
  show own_End p e below s _ _ _ (s0.setTop (mkF m 3 #[.val (.ref a), .val (.long pl), .second, .val (.long (0 : Int64)), .second, .unset, .unset] [(.ref a)]))
  refine own_go (fun t k => XS.dup X0.here hx rfl (hb hby d4_3) rfl rfl k) ?_
  show own_End p e below s _ _ _ (s0.setTop (mkF m 4 #[.val (.ref a), .val (.long pl), .second, .val (.long (0 : Int64)), .second, .unset, .unset] [(.ref a), (.ref a)]))
  obtain ⟨T116, X116, e116, st116⟩ := getF X0 hx hZ hown (host := "") (Or.inl (hw _ (List.mem_of_getElem? (i := 13) rfl))) Via.refl e0 f_at (g := (mkF m 4 #[.val (.ref a), .val (.long pl), .second, .val (.long (0 : Int64)), .second, .unset, .unset] [(.ref a), (.ref a)])) rfl rfl (hb hby d4_4)
  refine own_go st116 ?_
  show own_End p e below s _ _ _ (T116.setTop (mkF m 7 #[.val (.ref a), .val (.long pl), .second, .val (.long (0 : Int64)), .second, .unset, .unset] [(.int (-1 : Int32)), (.ref a)]))
  refine own_go (fun t k => XS.iconst X116.here hx rfl (hb hby d4_7) k) ?_
  show own_End p e below s _ _ _ (T116.setTop (mkF m 8 #[.val (.ref a), .val (.long pl), .second, .val (.long (0 : Int64)), .second, .unset, .unset] [(.int (1 : Int32)), (.int (-1 : Int32)), (.ref a)]))
  refine own_go (fun t k => XS.iadd X116.here hx rfl (hb hby d4_8) rfl k) ?_
  show own_End p e below s _ _ _ (T116.setTop (mkF m 9 #[.val (.ref a), .val (.long pl), .second, .val (.long (0 : Int64)), .second, .unset, .unset] [(.int ((-1 : Int32) + (1 : Int32))), (.ref a)]))
  rw [show ((-1 : Int32) + (1 : Int32)) = (0 : Int32) by decide]
  show own_End p e below s _ _ _ (T116.setTop (mkF m 9 #[.val (.ref a), .val (.long pl), .second, .val (.long (0 : Int64)), .second, .unset, .unset] [(.int (0 : Int32)), (.ref a)]))
  obtain ⟨T117, h117, X117, e117, W117, st117⟩ := putF X116 hx hZ hown (host := "") (Or.inl (hw _ (List.mem_of_getElem? (i := 13) rfl))) Via.refl e116 f_at E0 (Or.inl (hw _ (List.mem_of_getElem? (i := 14) rfl))) (hw _ (List.mem_of_getElem? (i := 5) rfl)) (ty := .int) (by decide) rfl rfl (g := (mkF m 9 #[.val (.ref a), .val (.long pl), .second, .val (.long (0 : Int64)), .second, .unset, .unset] [(.int (0 : Int32)), (.ref a)])) rfl rfl (hb hby d4_9)
  have N117 := Fr.snoc X117 N0 na
  have Z117 : n0 ≤ h117.size := by rw [W117.size]; exact Z0
  refine own_go st117 ?_
  have K118 := K115.wr W117 (Or.inl (List.mem_of_getElem? (i := 0) rfl))
  have f119 := E0.wr W117
  have f120 := f_at.same W117
  have f121 := f_xs.other W117 (Or.inr (slot_ne (Or.inr (hw _ (List.mem_of_getElem? (i := 16) rfl))) (Or.inl (hw _ (List.mem_of_getElem? (i := 14) rfl))) (by decide) (t := (.array .int)) (t' := .int) (by decide) (by decide)))
  have f122 := f_ys.other W117 (Or.inr (slot_ne (Or.inr (hw _ (List.mem_of_getElem? (i := 18) rfl))) (Or.inl (hw _ (List.mem_of_getElem? (i := 14) rfl))) (by decide) (t := (.array .int)) (t' := .int) (by decide) (by decide)))
  have f123 := f_weights.other W117 (Or.inr (slot_ne (Or.inr (hw _ (List.mem_of_getElem? (i := 20) rfl))) (Or.inl (hw _ (List.mem_of_getElem? (i := 14) rfl))) (by decide) (t := (.array .long)) (t' := .int) (by decide) (by decide)))
  have f124 := f_sorted.other W117 (Or.inr (slot_ne (Or.inr (hw _ (List.mem_of_getElem? (i := 26) rfl))) (Or.inl (hw _ (List.mem_of_getElem? (i := 14) rfl))) (by decide) (t := (.array .int)) (t' := .int) (by decide) (by decide)))
  have f125 := F_so.other W117 ne_so_a
  have f126 := F_wa.other W117 ne_wa_a
  show own_End p e below s _ _ _ (T117.setTop (mkF m 12 #[.val (.ref a), .val (.long pl), .second, .val (.long (0 : Int64)), .second, .unset, .unset] []))
  refine own_go (fun t k => XS.aloadN X117.here hx rfl (hb hby d4_12) rfl rfl k) ?_
  show own_End p e below s _ _ _ (T117.setTop (mkF m 13 #[.val (.ref a), .val (.long pl), .second, .val (.long (0 : Int64)), .second, .unset, .unset] [(.ref a)]))
  obtain ⟨T127, X127, e127, st127⟩ := getF X117 hx hZ hown (host := "") (Or.inl (hw _ (List.mem_of_getElem? (i := 19) rfl))) Via.refl e117 f123 (g := (mkF m 13 #[.val (.ref a), .val (.long pl), .second, .val (.long (0 : Int64)), .second, .unset, .unset] [(.ref a)])) rfl rfl (hb hby d4_13)
  refine own_go st127 ?_
  show own_End p e below s _ _ _ (T127.setTop (mkF m 16 #[.val (.ref a), .val (.long pl), .second, .val (.long (0 : Int64)), .second, .unset, .unset] [(.ref wa)]))
  refine own_go (fun t k => XS.aloadN X127.here hx rfl (hb hby d4_16) rfl rfl k) ?_
  show own_End p e below s _ _ _ (T127.setTop (mkF m 17 #[.val (.ref a), .val (.long pl), .second, .val (.long (0 : Int64)), .second, .unset, .unset] [(.ref a), (.ref wa)]))
  obtain ⟨T128, X128, e128, st128⟩ := getF X127 hx hZ hown (host := "") (Or.inl (hw _ (List.mem_of_getElem? (i := 25) rfl))) Via.refl e127 f124 (g := (mkF m 17 #[.val (.ref a), .val (.long pl), .second, .val (.long (0 : Int64)), .second, .unset, .unset] [(.ref a), (.ref wa)])) rfl rfl (hb hby d4_17)
  refine own_go st128 ?_
  show own_End p e below s _ _ _ (T128.setTop (mkF m 20 #[.val (.ref a), .val (.long pl), .second, .val (.long (0 : Int64)), .second, .unset, .unset] [(.ref so), (.ref wa)]))
  refine own_go (fun t k => XS.aloadN X128.here hx rfl (hb hby d4_20) rfl rfl k) ?_
  show own_End p e below s _ _ _ (T128.setTop (mkF m 21 #[.val (.ref a), .val (.long pl), .second, .val (.long (0 : Int64)), .second, .unset, .unset] [(.ref a), (.ref so), (.ref wa)]))
  obtain ⟨T129, X129, e129, st129⟩ := getF X128 hx hZ hown (host := "") (Or.inl (hw _ (List.mem_of_getElem? (i := 13) rfl))) Via.refl e128 f120 (g := (mkF m 21 #[.val (.ref a), .val (.long pl), .second, .val (.long (0 : Int64)), .second, .unset, .unset] [(.ref a), (.ref so), (.ref wa)])) rfl rfl (hb hby d4_21)
  refine own_go st129 ?_
  show own_End p e below s _ _ _ (T129.setTop (mkF m 24 #[.val (.ref a), .val (.long pl), .second, .val (.long (0 : Int64)), .second, .unset, .unset] [(.int (0 : Int32)), (.ref so), (.ref wa)]))
  refine own_go (own_fldI X129 hx hZ e129 f125 (j := (0 : Int32)) (v := (.int (0 : Int32))) 0 (by decide) (by decide) rfl (pc := 24) (Ls := #[.val (.ref a), .val (.long pl), .second, .val (.long (0 : Int64)), .second, .unset, .unset]) (rest := [(.ref wa)]) (hb hby d4_24)) ?_
  show own_End p e below s _ _ _ (T129.setTop (mkF m 25 #[.val (.ref a), .val (.long pl), .second, .val (.long (0 : Int64)), .second, .unset, .unset] [(.int (0 : Int32)), (.ref wa)]))
  refine own_go (own_fldJ X129 hx hZ e129 f126 (j := (0 : Int32)) (v := (.long w0)) 0 (by decide) (by decide) rfl (pc := 25) (Ls := #[.val (.ref a), .val (.long pl), .second, .val (.long (0 : Int64)), .second, .unset, .unset]) (rest := []) (hb hby d4_25)) ?_
  show own_End p e below s _ _ _ (T129.setTop (mkF m 26 #[.val (.ref a), .val (.long pl), .second, .val (.long (0 : Int64)), .second, .unset, .unset] [(.long w0)]))
  refine own_go (fun t k => XT.lstore X129.here hx rfl (hb hby d4_26) rfl (l' := #[.val (.ref a), .val (.long pl), .second, .val (.long (0 : Int64)), .second, .val (.long w0), .second]) rfl k) ?_
  show own_End p e below s _ _ _ (T129.setTop (mkF m 28 #[.val (.ref a), .val (.long pl), .second, .val (.long (0 : Int64)), .second, .val (.long w0), .second] []))
  refine own_go (fun t k => XT.lloadN X129.here hx rfl (hb hby d4_28) rfl k) ?_
  show own_End p e below s _ _ _ (T129.setTop (mkF m 29 #[.val (.ref a), .val (.long pl), .second, .val (.long (0 : Int64)), .second, .val (.long w0), .second] [(.long pl)]))
  refine own_go (fun t k => XT.lloadN X129.here hx rfl (hb hby d4_29) rfl k) ?_
  show own_End p e below s _ _ _ (T129.setTop (mkF m 30 #[.val (.ref a), .val (.long pl), .second, .val (.long (0 : Int64)), .second, .val (.long w0), .second] [(.long (0 : Int64)), (.long pl)]))
  refine own_go (fun t k => XT.lload X129.here hx rfl (hb hby d4_30) rfl k) ?_
  show own_End p e below s _ _ _ (T129.setTop (mkF m 32 #[.val (.ref a), .val (.long pl), .second, .val (.long (0 : Int64)), .second, .val (.long w0), .second] [(.long w0), (.long (0 : Int64)), (.long pl)]))
  refine own_go (fun t k => XT.ladd X129.here hx rfl (hb hby d4_32) rfl k) ?_
  show own_End p e below s _ _ _ (T129.setTop (mkF m 33 #[.val (.ref a), .val (.long pl), .second, .val (.long (0 : Int64)), .second, .val (.long w0), .second] [(.long ((0 : Int64) + w0)), (.long pl)]))
  rw [Int64.zero_add]
  show own_End p e below s _ _ _ (T129.setTop (mkF m 33 #[.val (.ref a), .val (.long pl), .second, .val (.long (0 : Int64)), .second, .val (.long w0), .second] [(.long w0), (.long pl)]))
  refine own_go (fun t k => XT.lcmp X129.here hx rfl (hb hby d4_33) rfl k) ?_
  show own_End p e below s _ _ _ (T129.setTop (mkF m 34 #[.val (.ref a), .val (.long pl), .second, .val (.long (0 : Int64)), .second, .val (.long w0), .second] [(.int (XT.cmpL pl w0))]))
  refine own_go (fun t k => XS.ifYes X129.here hx rfl (pc0 := 34) (pc' := 44) rfl (hb hby d4_34) rfl (own_lgeY (k := w0.toInt) rfl (by omega)) (by decide) (by decide) k) ?_
  show own_End p e below s _ _ _ (T129.setTop (mkF m 44 #[.val (.ref a), .val (.long pl), .second, .val (.long (0 : Int64)), .second, .val (.long w0), .second] []))
  refine own_go (fun t k => XT.lloadN X129.here hx rfl (hb hby d4_44) rfl k) ?_
  show own_End p e below s _ _ _ (T129.setTop (mkF m 45 #[.val (.ref a), .val (.long pl), .second, .val (.long (0 : Int64)), .second, .val (.long w0), .second] [(.long (0 : Int64))]))
  refine own_go (fun t k => XT.lload X129.here hx rfl (hb hby d4_45) rfl k) ?_
  show own_End p e below s _ _ _ (T129.setTop (mkF m 47 #[.val (.ref a), .val (.long pl), .second, .val (.long (0 : Int64)), .second, .val (.long w0), .second] [(.long w0), (.long (0 : Int64))]))
  refine own_go (fun t k => XT.ladd X129.here hx rfl (hb hby d4_47) rfl k) ?_
  show own_End p e below s _ _ _ (T129.setTop (mkF m 48 #[.val (.ref a), .val (.long pl), .second, .val (.long (0 : Int64)), .second, .val (.long w0), .second] [(.long ((0 : Int64) + w0))]))
  rw [Int64.zero_add]
  show own_End p e below s _ _ _ (T129.setTop (mkF m 48 #[.val (.ref a), .val (.long pl), .second, .val (.long (0 : Int64)), .second, .val (.long w0), .second] [(.long w0)]))
  refine own_go (fun t k => XT.lstoreN X129.here hx rfl (hb hby d4_48) rfl (l' := #[.val (.ref a), .val (.long pl), .second, .val (.long w0), .second, .val (.long w0), .second]) rfl k) ?_
  show own_End p e below s _ _ _ (T129.setTop (mkF m 49 #[.val (.ref a), .val (.long pl), .second, .val (.long w0), .second, .val (.long w0), .second] []))
  refine own_go (fun t k => XS.goto X129.here hx rfl (pc0 := 49) (pc' := 2) rfl (hb hby d4_49) (by decide) (by decide) k) ?_
  show own_End p e below s _ _ _ (T129.setTop (mkF m 2 #[.val (.ref a), .val (.long pl), .second, .val (.long w0), .second, .val (.long w0), .second] []))
  refine own_go (fun t k => XS.aloadN X129.here hx rfl (hb hby d4_2) rfl rfl k) ?_
  show own_End p e below s _ _ _ (T129.setTop (mkF m 3 #[.val (.ref a), .val (.long pl), .second, .val (.long w0), .second, .val (.long w0), .second] [(.ref a)]))
  refine own_go (fun t k => XS.dup X129.here hx rfl (hb hby d4_3) rfl rfl k) ?_
  show own_End p e below s _ _ _ (T129.setTop (mkF m 4 #[.val (.ref a), .val (.long pl), .second, .val (.long w0), .second, .val (.long w0), .second] [(.ref a), (.ref a)]))
  obtain ⟨T130, X130, e130, st130⟩ := getF X129 hx hZ hown (host := "") (Or.inl (hw _ (List.mem_of_getElem? (i := 13) rfl))) Via.refl e129 f120 (g := (mkF m 4 #[.val (.ref a), .val (.long pl), .second, .val (.long w0), .second, .val (.long w0), .second] [(.ref a), (.ref a)])) rfl rfl (hb hby d4_4)
  refine own_go st130 ?_
  show own_End p e below s _ _ _ (T130.setTop (mkF m 7 #[.val (.ref a), .val (.long pl), .second, .val (.long w0), .second, .val (.long w0), .second] [(.int (0 : Int32)), (.ref a)]))
  refine own_go (fun t k => XS.iconst X130.here hx rfl (hb hby d4_7) k) ?_
  show own_End p e below s _ _ _ (T130.setTop (mkF m 8 #[.val (.ref a), .val (.long pl), .second, .val (.long w0), .second, .val (.long w0), .second] [(.int (1 : Int32)), (.int (0 : Int32)), (.ref a)]))
  refine own_go (fun t k => XS.iadd X130.here hx rfl (hb hby d4_8) rfl k) ?_
  show own_End p e below s _ _ _ (T130.setTop (mkF m 9 #[.val (.ref a), .val (.long pl), .second, .val (.long w0), .second, .val (.long w0), .second] [(.int ((0 : Int32) + (1 : Int32))), (.ref a)]))
  rw [show ((0 : Int32) + (1 : Int32)) = (1 : Int32) by decide]
  show own_End p e below s _ _ _ (T130.setTop (mkF m 9 #[.val (.ref a), .val (.long pl), .second, .val (.long w0), .second, .val (.long w0), .second] [(.int (1 : Int32)), (.ref a)]))
  obtain ⟨T131, h131, X131, e131, W131, st131⟩ := putF X130 hx hZ hown (host := "") (Or.inl (hw _ (List.mem_of_getElem? (i := 13) rfl))) Via.refl e130 f120 f119 (Or.inl (hw _ (List.mem_of_getElem? (i := 14) rfl))) (hw _ (List.mem_of_getElem? (i := 5) rfl)) (ty := .int) (by decide) rfl rfl (g := (mkF m 9 #[.val (.ref a), .val (.long pl), .second, .val (.long w0), .second, .val (.long w0), .second] [(.int (1 : Int32)), (.ref a)])) rfl rfl (hb hby d4_9)
  have N131 := Fr.snoc X131 N117 na
  have Z131 : n0 ≤ h131.size := by rw [W131.size]; exact Z117
  refine own_go st131 ?_
  have K132 := K118.wr W131 (Or.inl (List.mem_of_getElem? (i := 0) rfl))
  have f133 := f119.wr W131
  have f134 := f120.same W131
  have f135 := f121.other W131 (Or.inr (slot_ne (Or.inr (hw _ (List.mem_of_getElem? (i := 16) rfl))) (Or.inl (hw _ (List.mem_of_getElem? (i := 14) rfl))) (by decide) (t := (.array .int)) (t' := .int) (by decide) (by decide)))
  have f136 := f122.other W131 (Or.inr (slot_ne (Or.inr (hw _ (List.mem_of_getElem? (i := 18) rfl))) (Or.inl (hw _ (List.mem_of_getElem? (i := 14) rfl))) (by decide) (t := (.array .int)) (t' := .int) (by decide) (by decide)))
  have f137 := f123.other W131 (Or.inr (slot_ne (Or.inr (hw _ (List.mem_of_getElem? (i := 20) rfl))) (Or.inl (hw _ (List.mem_of_getElem? (i := 14) rfl))) (by decide) (t := (.array .long)) (t' := .int) (by decide) (by decide)))
  have f138 := f124.other W131 (Or.inr (slot_ne (Or.inr (hw _ (List.mem_of_getElem? (i := 26) rfl))) (Or.inl (hw _ (List.mem_of_getElem? (i := 14) rfl))) (by decide) (t := (.array .int)) (t' := .int) (by decide) (by decide)))
  have f139 := f125.other W131 ne_so_a
  have f140 := f126.other W131 ne_wa_a
  show own_End p e below s _ _ _ (T131.setTop (mkF m 12 #[.val (.ref a), .val (.long pl), .second, .val (.long w0), .second, .val (.long w0), .second] []))
  refine own_go (fun t k => XS.aloadN X131.here hx rfl (hb hby d4_12) rfl rfl k) ?_
  show own_End p e below s _ _ _ (T131.setTop (mkF m 13 #[.val (.ref a), .val (.long pl), .second, .val (.long w0), .second, .val (.long w0), .second] [(.ref a)]))
  obtain ⟨T141, X141, e141, st141⟩ := getF X131 hx hZ hown (host := "") (Or.inl (hw _ (List.mem_of_getElem? (i := 19) rfl))) Via.refl e131 f137 (g := (mkF m 13 #[.val (.ref a), .val (.long pl), .second, .val (.long w0), .second, .val (.long w0), .second] [(.ref a)])) rfl rfl (hb hby d4_13)
  refine own_go st141 ?_
  show own_End p e below s _ _ _ (T141.setTop (mkF m 16 #[.val (.ref a), .val (.long pl), .second, .val (.long w0), .second, .val (.long w0), .second] [(.ref wa)]))
  refine own_go (fun t k => XS.aloadN X141.here hx rfl (hb hby d4_16) rfl rfl k) ?_
  show own_End p e below s _ _ _ (T141.setTop (mkF m 17 #[.val (.ref a), .val (.long pl), .second, .val (.long w0), .second, .val (.long w0), .second] [(.ref a), (.ref wa)]))
  obtain ⟨T142, X142, e142, st142⟩ := getF X141 hx hZ hown (host := "") (Or.inl (hw _ (List.mem_of_getElem? (i := 25) rfl))) Via.refl e141 f138 (g := (mkF m 17 #[.val (.ref a), .val (.long pl), .second, .val (.long w0), .second, .val (.long w0), .second] [(.ref a), (.ref wa)])) rfl rfl (hb hby d4_17)
  refine own_go st142 ?_
  show own_End p e below s _ _ _ (T142.setTop (mkF m 20 #[.val (.ref a), .val (.long pl), .second, .val (.long w0), .second, .val (.long w0), .second] [(.ref so), (.ref wa)]))
  refine own_go (fun t k => XS.aloadN X142.here hx rfl (hb hby d4_20) rfl rfl k) ?_
  show own_End p e below s _ _ _ (T142.setTop (mkF m 21 #[.val (.ref a), .val (.long pl), .second, .val (.long w0), .second, .val (.long w0), .second] [(.ref a), (.ref so), (.ref wa)]))
  obtain ⟨T143, X143, e143, st143⟩ := getF X142 hx hZ hown (host := "") (Or.inl (hw _ (List.mem_of_getElem? (i := 13) rfl))) Via.refl e142 f134 (g := (mkF m 21 #[.val (.ref a), .val (.long pl), .second, .val (.long w0), .second, .val (.long w0), .second] [(.ref a), (.ref so), (.ref wa)])) rfl rfl (hb hby d4_21)
  refine own_go st143 ?_
  show own_End p e below s _ _ _ (T143.setTop (mkF m 24 #[.val (.ref a), .val (.long pl), .second, .val (.long w0), .second, .val (.long w0), .second] [(.int (1 : Int32)), (.ref so), (.ref wa)]))
  refine own_go (own_fldI X143 hx hZ e143 f139 (j := (1 : Int32)) (v := (.int (1 : Int32))) 1 (by decide) (by decide) rfl (pc := 24) (Ls := #[.val (.ref a), .val (.long pl), .second, .val (.long w0), .second, .val (.long w0), .second]) (rest := [(.ref wa)]) (hb hby d4_24)) ?_
  show own_End p e below s _ _ _ (T143.setTop (mkF m 25 #[.val (.ref a), .val (.long pl), .second, .val (.long w0), .second, .val (.long w0), .second] [(.int (1 : Int32)), (.ref wa)]))
  refine own_go (own_fldJ X143 hx hZ e143 f140 (j := (1 : Int32)) (v := (.long w1)) 1 (by decide) (by decide) rfl (pc := 25) (Ls := #[.val (.ref a), .val (.long pl), .second, .val (.long w0), .second, .val (.long w0), .second]) (rest := []) (hb hby d4_25)) ?_
  show own_End p e below s _ _ _ (T143.setTop (mkF m 26 #[.val (.ref a), .val (.long pl), .second, .val (.long w0), .second, .val (.long w0), .second] [(.long w1)]))
  refine own_go (fun t k => XT.lstore X143.here hx rfl (hb hby d4_26) rfl (l' := #[.val (.ref a), .val (.long pl), .second, .val (.long w0), .second, .val (.long w1), .second]) rfl k) ?_
  show own_End p e below s _ _ _ (T143.setTop (mkF m 28 #[.val (.ref a), .val (.long pl), .second, .val (.long w0), .second, .val (.long w1), .second] []))
  refine own_go (fun t k => XT.lloadN X143.here hx rfl (hb hby d4_28) rfl k) ?_
  show own_End p e below s _ _ _ (T143.setTop (mkF m 29 #[.val (.ref a), .val (.long pl), .second, .val (.long w0), .second, .val (.long w1), .second] [(.long pl)]))
  refine own_go (fun t k => XT.lloadN X143.here hx rfl (hb hby d4_29) rfl k) ?_
  show own_End p e below s _ _ _ (T143.setTop (mkF m 30 #[.val (.ref a), .val (.long pl), .second, .val (.long w0), .second, .val (.long w1), .second] [(.long w0), (.long pl)]))
  refine own_go (fun t k => XT.lload X143.here hx rfl (hb hby d4_30) rfl k) ?_
  show own_End p e below s _ _ _ (T143.setTop (mkF m 32 #[.val (.ref a), .val (.long pl), .second, .val (.long w0), .second, .val (.long w1), .second] [(.long w1), (.long w0), (.long pl)]))
  refine own_go (fun t k => XT.ladd X143.here hx rfl (hb hby d4_32) rfl k) ?_
  show own_End p e below s _ _ _ (T143.setTop (mkF m 33 #[.val (.ref a), .val (.long pl), .second, .val (.long w0), .second, .val (.long w1), .second] [(.long (w0 + w1)), (.long pl)]))
  refine own_go (fun t k => XT.lcmp X143.here hx rfl (hb hby d4_33) rfl k) ?_
  show own_End p e below s _ _ _ (T143.setTop (mkF m 34 #[.val (.ref a), .val (.long pl), .second, .val (.long w0), .second, .val (.long w1), .second] [(.int (XT.cmpL pl (w0 + w1)))]))
  refine own_go (fun t k => XS.ifYes X143.here hx rfl (pc0 := 34) (pc' := 44) rfl (hb hby d4_34) rfl (own_lgeY (k := (w0.toInt + w1.toInt)) hs1 (by omega)) (by decide) (by decide) k) ?_
  show own_End p e below s _ _ _ (T143.setTop (mkF m 44 #[.val (.ref a), .val (.long pl), .second, .val (.long w0), .second, .val (.long w1), .second] []))
  refine own_go (fun t k => XT.lloadN X143.here hx rfl (hb hby d4_44) rfl k) ?_
  show own_End p e below s _ _ _ (T143.setTop (mkF m 45 #[.val (.ref a), .val (.long pl), .second, .val (.long w0), .second, .val (.long w1), .second] [(.long w0)]))
  refine own_go (fun t k => XT.lload X143.here hx rfl (hb hby d4_45) rfl k) ?_
  show own_End p e below s _ _ _ (T143.setTop (mkF m 47 #[.val (.ref a), .val (.long pl), .second, .val (.long w0), .second, .val (.long w1), .second] [(.long w1), (.long w0)]))
  refine own_go (fun t k => XT.ladd X143.here hx rfl (hb hby d4_47) rfl k) ?_
  show own_End p e below s _ _ _ (T143.setTop (mkF m 48 #[.val (.ref a), .val (.long pl), .second, .val (.long w0), .second, .val (.long w1), .second] [(.long (w0 + w1))]))
  refine own_go (fun t k => XT.lstoreN X143.here hx rfl (hb hby d4_48) rfl (l' := #[.val (.ref a), .val (.long pl), .second, .val (.long (w0 + w1)), .second, .val (.long w1), .second]) rfl k) ?_
  show own_End p e below s _ _ _ (T143.setTop (mkF m 49 #[.val (.ref a), .val (.long pl), .second, .val (.long (w0 + w1)), .second, .val (.long w1), .second] []))
  refine own_go (fun t k => XS.goto X143.here hx rfl (pc0 := 49) (pc' := 2) rfl (hb hby d4_49) (by decide) (by decide) k) ?_
  show own_End p e below s _ _ _ (T143.setTop (mkF m 2 #[.val (.ref a), .val (.long pl), .second, .val (.long (w0 + w1)), .second, .val (.long w1), .second] []))
  refine own_go (fun t k => XS.aloadN X143.here hx rfl (hb hby d4_2) rfl rfl k) ?_
  show own_End p e below s _ _ _ (T143.setTop (mkF m 3 #[.val (.ref a), .val (.long pl), .second, .val (.long (w0 + w1)), .second, .val (.long w1), .second] [(.ref a)]))
  refine own_go (fun t k => XS.dup X143.here hx rfl (hb hby d4_3) rfl rfl k) ?_
  show own_End p e below s _ _ _ (T143.setTop (mkF m 4 #[.val (.ref a), .val (.long pl), .second, .val (.long (w0 + w1)), .second, .val (.long w1), .second] [(.ref a), (.ref a)]))
  obtain ⟨T144, X144, e144, st144⟩ := getF X143 hx hZ hown (host := "") (Or.inl (hw _ (List.mem_of_getElem? (i := 13) rfl))) Via.refl e143 f134 (g := (mkF m 4 #[.val (.ref a), .val (.long pl), .second, .val (.long (w0 + w1)), .second, .val (.long w1), .second] [(.ref a), (.ref a)])) rfl rfl (hb hby d4_4)
  refine own_go st144 ?_
  show own_End p e below s _ _ _ (T144.setTop (mkF m 7 #[.val (.ref a), .val (.long pl), .second, .val (.long (w0 + w1)), .second, .val (.long w1), .second] [(.int (1 : Int32)), (.ref a)]))
  refine own_go (fun t k => XS.iconst X144.here hx rfl (hb hby d4_7) k) ?_
  show own_End p e below s _ _ _ (T144.setTop (mkF m 8 #[.val (.ref a), .val (.long pl), .second, .val (.long (w0 + w1)), .second, .val (.long w1), .second] [(.int (1 : Int32)), (.int (1 : Int32)), (.ref a)]))
  refine own_go (fun t k => XS.iadd X144.here hx rfl (hb hby d4_8) rfl k) ?_
  show own_End p e below s _ _ _ (T144.setTop (mkF m 9 #[.val (.ref a), .val (.long pl), .second, .val (.long (w0 + w1)), .second, .val (.long w1), .second] [(.int ((1 : Int32) + (1 : Int32))), (.ref a)]))
  rw [show ((1 : Int32) + (1 : Int32)) = (2 : Int32) by decide]
  show own_End p e below s _ _ _ (T144.setTop (mkF m 9 #[.val (.ref a), .val (.long pl), .second, .val (.long (w0 + w1)), .second, .val (.long w1), .second] [(.int (2 : Int32)), (.ref a)]))
  obtain ⟨T145, h145, X145, e145, W145, st145⟩ := putF X144 hx hZ hown (host := "") (Or.inl (hw _ (List.mem_of_getElem? (i := 13) rfl))) Via.refl e144 f134 f133 (Or.inl (hw _ (List.mem_of_getElem? (i := 14) rfl))) (hw _ (List.mem_of_getElem? (i := 5) rfl)) (ty := .int) (by decide) rfl rfl (g := (mkF m 9 #[.val (.ref a), .val (.long pl), .second, .val (.long (w0 + w1)), .second, .val (.long w1), .second] [(.int (2 : Int32)), (.ref a)])) rfl rfl (hb hby d4_9)
  have N145 := Fr.snoc X145 N131 na
  have Z145 : n0 ≤ h145.size := by rw [W145.size]; exact Z131
  refine own_go st145 ?_
  have K146 := K132.wr W145 (Or.inl (List.mem_of_getElem? (i := 0) rfl))
  have f147 := f133.wr W145
  have f148 := f134.same W145
  have f149 := f135.other W145 (Or.inr (slot_ne (Or.inr (hw _ (List.mem_of_getElem? (i := 16) rfl))) (Or.inl (hw _ (List.mem_of_getElem? (i := 14) rfl))) (by decide) (t := (.array .int)) (t' := .int) (by decide) (by decide)))
  have f150 := f136.other W145 (Or.inr (slot_ne (Or.inr (hw _ (List.mem_of_getElem? (i := 18) rfl))) (Or.inl (hw _ (List.mem_of_getElem? (i := 14) rfl))) (by decide) (t := (.array .int)) (t' := .int) (by decide) (by decide)))
  have f151 := f137.other W145 (Or.inr (slot_ne (Or.inr (hw _ (List.mem_of_getElem? (i := 20) rfl))) (Or.inl (hw _ (List.mem_of_getElem? (i := 14) rfl))) (by decide) (t := (.array .long)) (t' := .int) (by decide) (by decide)))
  have f152 := f138.other W145 (Or.inr (slot_ne (Or.inr (hw _ (List.mem_of_getElem? (i := 26) rfl))) (Or.inl (hw _ (List.mem_of_getElem? (i := 14) rfl))) (by decide) (t := (.array .int)) (t' := .int) (by decide) (by decide)))
  have f153 := f139.other W145 ne_so_a
  have f154 := f140.other W145 ne_wa_a
  show own_End p e below s _ _ _ (T145.setTop (mkF m 12 #[.val (.ref a), .val (.long pl), .second, .val (.long (w0 + w1)), .second, .val (.long w1), .second] []))
  refine own_go (fun t k => XS.aloadN X145.here hx rfl (hb hby d4_12) rfl rfl k) ?_
  show own_End p e below s _ _ _ (T145.setTop (mkF m 13 #[.val (.ref a), .val (.long pl), .second, .val (.long (w0 + w1)), .second, .val (.long w1), .second] [(.ref a)]))
  obtain ⟨T155, X155, e155, st155⟩ := getF X145 hx hZ hown (host := "") (Or.inl (hw _ (List.mem_of_getElem? (i := 19) rfl))) Via.refl e145 f151 (g := (mkF m 13 #[.val (.ref a), .val (.long pl), .second, .val (.long (w0 + w1)), .second, .val (.long w1), .second] [(.ref a)])) rfl rfl (hb hby d4_13)
  refine own_go st155 ?_
  show own_End p e below s _ _ _ (T155.setTop (mkF m 16 #[.val (.ref a), .val (.long pl), .second, .val (.long (w0 + w1)), .second, .val (.long w1), .second] [(.ref wa)]))
  refine own_go (fun t k => XS.aloadN X155.here hx rfl (hb hby d4_16) rfl rfl k) ?_
  show own_End p e below s _ _ _ (T155.setTop (mkF m 17 #[.val (.ref a), .val (.long pl), .second, .val (.long (w0 + w1)), .second, .val (.long w1), .second] [(.ref a), (.ref wa)]))
  obtain ⟨T156, X156, e156, st156⟩ := getF X155 hx hZ hown (host := "") (Or.inl (hw _ (List.mem_of_getElem? (i := 25) rfl))) Via.refl e155 f152 (g := (mkF m 17 #[.val (.ref a), .val (.long pl), .second, .val (.long (w0 + w1)), .second, .val (.long w1), .second] [(.ref a), (.ref wa)])) rfl rfl (hb hby d4_17)
  refine own_go st156 ?_
  show own_End p e below s _ _ _ (T156.setTop (mkF m 20 #[.val (.ref a), .val (.long pl), .second, .val (.long (w0 + w1)), .second, .val (.long w1), .second] [(.ref so), (.ref wa)]))
  refine own_go (fun t k => XS.aloadN X156.here hx rfl (hb hby d4_20) rfl rfl k) ?_
  show own_End p e below s _ _ _ (T156.setTop (mkF m 21 #[.val (.ref a), .val (.long pl), .second, .val (.long (w0 + w1)), .second, .val (.long w1), .second] [(.ref a), (.ref so), (.ref wa)]))
  obtain ⟨T157, X157, e157, st157⟩ := getF X156 hx hZ hown (host := "") (Or.inl (hw _ (List.mem_of_getElem? (i := 13) rfl))) Via.refl e156 f148 (g := (mkF m 21 #[.val (.ref a), .val (.long pl), .second, .val (.long (w0 + w1)), .second, .val (.long w1), .second] [(.ref a), (.ref so), (.ref wa)])) rfl rfl (hb hby d4_21)
  refine own_go st157 ?_
  show own_End p e below s _ _ _ (T157.setTop (mkF m 24 #[.val (.ref a), .val (.long pl), .second, .val (.long (w0 + w1)), .second, .val (.long w1), .second] [(.int (2 : Int32)), (.ref so), (.ref wa)]))
  refine own_go (own_fldI X157 hx hZ e157 f153 (j := (2 : Int32)) (v := (.int (2 : Int32))) 2 (by decide) (by decide) rfl (pc := 24) (Ls := #[.val (.ref a), .val (.long pl), .second, .val (.long (w0 + w1)), .second, .val (.long w1), .second]) (rest := [(.ref wa)]) (hb hby d4_24)) ?_
  show own_End p e below s _ _ _ (T157.setTop (mkF m 25 #[.val (.ref a), .val (.long pl), .second, .val (.long (w0 + w1)), .second, .val (.long w1), .second] [(.int (2 : Int32)), (.ref wa)]))
  refine own_go (own_fldJ X157 hx hZ e157 f154 (j := (2 : Int32)) (v := (.long w2)) 2 (by decide) (by decide) rfl (pc := 25) (Ls := #[.val (.ref a), .val (.long pl), .second, .val (.long (w0 + w1)), .second, .val (.long w1), .second]) (rest := []) (hb hby d4_25)) ?_
  show own_End p e below s _ _ _ (T157.setTop (mkF m 26 #[.val (.ref a), .val (.long pl), .second, .val (.long (w0 + w1)), .second, .val (.long w1), .second] [(.long w2)]))
  refine own_go (fun t k => XT.lstore X157.here hx rfl (hb hby d4_26) rfl (l' := #[.val (.ref a), .val (.long pl), .second, .val (.long (w0 + w1)), .second, .val (.long w2), .second]) rfl k) ?_
  show own_End p e below s _ _ _ (T157.setTop (mkF m 28 #[.val (.ref a), .val (.long pl), .second, .val (.long (w0 + w1)), .second, .val (.long w2), .second] []))
  refine own_go (fun t k => XT.lloadN X157.here hx rfl (hb hby d4_28) rfl k) ?_
  show own_End p e below s _ _ _ (T157.setTop (mkF m 29 #[.val (.ref a), .val (.long pl), .second, .val (.long (w0 + w1)), .second, .val (.long w2), .second] [(.long pl)]))
  refine own_go (fun t k => XT.lloadN X157.here hx rfl (hb hby d4_29) rfl k) ?_
  show own_End p e below s _ _ _ (T157.setTop (mkF m 30 #[.val (.ref a), .val (.long pl), .second, .val (.long (w0 + w1)), .second, .val (.long w2), .second] [(.long (w0 + w1)), (.long pl)]))
  refine own_go (fun t k => XT.lload X157.here hx rfl (hb hby d4_30) rfl k) ?_
  show own_End p e below s _ _ _ (T157.setTop (mkF m 32 #[.val (.ref a), .val (.long pl), .second, .val (.long (w0 + w1)), .second, .val (.long w2), .second] [(.long w2), (.long (w0 + w1)), (.long pl)]))
  refine own_go (fun t k => XT.ladd X157.here hx rfl (hb hby d4_32) rfl k) ?_
  show own_End p e below s _ _ _ (T157.setTop (mkF m 33 #[.val (.ref a), .val (.long pl), .second, .val (.long (w0 + w1)), .second, .val (.long w2), .second] [(.long ((w0 + w1) + w2)), (.long pl)]))
  refine own_go (fun t k => XT.lcmp X157.here hx rfl (hb hby d4_33) rfl k) ?_
  show own_End p e below s _ _ _ (T157.setTop (mkF m 34 #[.val (.ref a), .val (.long pl), .second, .val (.long (w0 + w1)), .second, .val (.long w2), .second] [(.int (XT.cmpL pl ((w0 + w1) + w2)))]))
  refine own_go (fun t k => XS.ifNo X157.here hx rfl (hb hby d4_34) rfl (own_lgeN (k := (w0.toInt + w1.toInt + w2.toInt)) hs2 (by omega)) k) ?_
  show own_End p e below s _ _ _ (T157.setTop (mkF m 37 #[.val (.ref a), .val (.long pl), .second, .val (.long (w0 + w1)), .second, .val (.long w2), .second] []))
  refine own_go (fun t k => XT.lloadN X157.here hx rfl (hb hby d4_37) rfl k) ?_
  show own_End p e below s _ _ _ (T157.setTop (mkF m 38 #[.val (.ref a), .val (.long pl), .second, .val (.long (w0 + w1)), .second, .val (.long w2), .second] [(.long (w0 + w1))]))
  refine own_go (fun t k => XT.lload X157.here hx rfl (hb hby d4_38) rfl k) ?_
  show own_End p e below s _ _ _ (T157.setTop (mkF m 40 #[.val (.ref a), .val (.long pl), .second, .val (.long (w0 + w1)), .second, .val (.long w2), .second] [(.long w2), (.long (w0 + w1))]))
  refine own_go (fun t k => XT.ladd X157.here hx rfl (hb hby d4_40) rfl k) ?_
  show own_End p e below s _ _ _ (T157.setTop (mkF m 41 #[.val (.ref a), .val (.long pl), .second, .val (.long (w0 + w1)), .second, .val (.long w2), .second] [(.long ((w0 + w1) + w2))]))
  refine own_go (fun t k => XT.lloadN X157.here hx rfl (hb hby d4_41) rfl k) ?_
  show own_End p e below s _ _ _ (T157.setTop (mkF m 42 #[.val (.ref a), .val (.long pl), .second, .val (.long (w0 + w1)), .second, .val (.long w2), .second] [(.long pl), (.long ((w0 + w1) + w2))]))
  refine own_go (fun t k => XT.lsub X157.here hx rfl (hb hby d4_42) rfl k) ?_
  show own_End p e below s _ _ _ (T157.setTop (mkF m 43 #[.val (.ref a), .val (.long pl), .second, .val (.long (w0 + w1)), .second, .val (.long w2), .second] [(.long (((w0 + w1) + w2) - pl))]))
  exact own_retJ X157 hx hret hlk (hb hby d4_43) ⟨rfl, N145, by rw [e157]; exact K146, by rw [e157]; exact ⟨f148, f149, f150, f151, f152⟩⟩ (by decide) (by decide)
set_option maxRecDepth 65536 in
set_option maxHeartbeats 40000000 in
theorem rm5 (l : Launch) (Z : State) (a0 : Array Value) (hw : ∀ d ∈ tables_1, d.before a0 Z = true) (ws : List Jvm.Cond) (a : Addr) (h0 : Heap) (n0 : Nat) (Z0 : n0 ≤ h0.size) (u : Int32) (xa ya wa so : Addr) (ia : Int32) (i : Nat) (hia : ia.toInt = i) (hi3 : i < 3) (na : n0 ≤ a) (E0 : Exa Z h0 a "com/example/ordinate/ordinate/core/PairBlocks$Sorted") (f_at : Fld Z h0 a "com/example/ordinate/ordinate/core/PairBlocks$Sorted" "at" "I" (.int ia)) (f_xs : Fld Z h0 a "com/example/ordinate/ordinate/core/PairBlocks$Sorted" "xs" "[I" (.ref xa)) (f_ys : Fld Z h0 a "com/example/ordinate/ordinate/core/PairBlocks$Sorted" "ys" "[I" (.ref ya)) (f_weights : Fld Z h0 a "com/example/ordinate/ordinate/core/PairBlocks$Sorted" "weights" "[J" (.ref wa)) (f_sorted : Fld Z h0 a "com/example/ordinate/ordinate/core/PairBlocks$Sorted" "sorted" "[I" (.ref so)) {kso : ClassId} (F_so : own_F Z h0 so kso .int 3 own_id) {kv : ClassId} {fv : Nat → Value} (F_v : own_F Z h0 xa kv .int 3 fv) (hv : fv i = .int u) :
    own_Met l (⟨"com/example/ordinate/ordinate/core/PairBlocks$Sorted", "x", "()I"⟩ : MethodName) prog_110_method_8_code 1 (some .int) ws ({ frames := 0, cells := 0, slots := 0, locals := 0 } : Room) #[(.ref a)] Z h0 (fun v h L => v = some (.int u) ∧ Fr n0 L ∧ h = h0) := by
  refine own_body (plainFor_of_name pn_PairBlocks_Sorted) ?_
  intro p e s m below meth c s0 X0 hx hby hml hret hlk hown hnm hZ e0
  replace hown : s.vm.findClass "com/example/ordinate/ordinate/core/PairBlocks$Sorted" = some m.cls := hown
  have N0 := Fr.nil n0
  have ef : entryFrame m #[(.ref a)] 1 = (mkF m 0 #[.val (.ref a)] []) := by first | (simp [entryFrame, mkF, argsToLocals, Value.category, maxLocals]; done) | rfl
  rw [ef]
  show own_End p e below s _ _ _ (s0.setTop (mkF m 0 #[.val (.ref a)] []))
  refine own_go (fun t k => XS.aloadN X0.here hx rfl (hb hby d5_0) rfl rfl k) ?_
  show own_End p e below s _ _ _ (s0.setTop (mkF m 1 #[.val (.ref a)] [(.ref a)]))
  obtain ⟨T158, X158, e158, st158⟩ := getF X0 hx hZ hown (host := "") (Or.inl (hw _ (List.mem_of_getElem? (i := 15) rfl))) Via.refl e0 f_xs (g := (mkF m 1 #[.val (.ref a)] [(.ref a)])) rfl rfl (hb hby d5_1)
  refine own_go st158 ?_
  show own_End p e below s _ _ _ (T158.setTop (mkF m 4 #[.val (.ref a)] [(.ref xa)]))
  refine own_go (fun t k => XS.aloadN X158.here hx rfl (hb hby d5_4) rfl rfl k) ?_
  show own_End p e below s _ _ _ (T158.setTop (mkF m 5 #[.val (.ref a)] [(.ref a), (.ref xa)]))
  obtain ⟨T159, X159, e159, st159⟩ := getF X158 hx hZ hown (host := "") (Or.inl (hw _ (List.mem_of_getElem? (i := 25) rfl))) Via.refl e158 f_sorted (g := (mkF m 5 #[.val (.ref a)] [(.ref a), (.ref xa)])) rfl rfl (hb hby d5_5)
  refine own_go st159 ?_
  show own_End p e below s _ _ _ (T159.setTop (mkF m 8 #[.val (.ref a)] [(.ref so), (.ref xa)]))
  refine own_go (fun t k => XS.aloadN X159.here hx rfl (hb hby d5_8) rfl rfl k) ?_
  show own_End p e below s _ _ _ (T159.setTop (mkF m 9 #[.val (.ref a)] [(.ref a), (.ref so), (.ref xa)]))
  obtain ⟨T160, X160, e160, st160⟩ := getF X159 hx hZ hown (host := "") (Or.inl (hw _ (List.mem_of_getElem? (i := 13) rfl))) Via.refl e159 f_at (g := (mkF m 9 #[.val (.ref a)] [(.ref a), (.ref so), (.ref xa)])) rfl rfl (hb hby d5_9)
  refine own_go st160 ?_
  show own_End p e below s _ _ _ (T160.setTop (mkF m 12 #[.val (.ref a)] [(.int ia), (.ref so), (.ref xa)]))
  refine own_go (own_fldI X160 hx hZ e160 F_so (j := ia) (v := (.int (Int32.ofNat i))) i hia hi3 rfl (pc := 12) (Ls := #[.val (.ref a)]) (rest := [(.ref xa)]) (hb hby d5_12)) ?_
  show own_End p e below s _ _ _ (T160.setTop (mkF m 13 #[.val (.ref a)] [(.int (Int32.ofNat i)), (.ref xa)]))
  refine own_go (own_fldI X160 hx hZ e160 F_v (j := (Int32.ofNat i)) (v := (.int u)) i (own_idn hi3) hi3 hv (pc := 13) (Ls := #[.val (.ref a)]) (rest := []) (hb hby d5_13)) ?_
  show own_End p e below s _ _ _ (T160.setTop (mkF m 14 #[.val (.ref a)] [(.int u)]))
  exact own_retI X160 hx hret hlk (hb hby d5_14) ⟨rfl, N0, e160⟩ (by decide) (by decide)
set_option maxRecDepth 65536 in
set_option maxHeartbeats 40000000 in
theorem rm6 (l : Launch) (Z : State) (a0 : Array Value) (hw : ∀ d ∈ tables_1, d.before a0 Z = true) (ws : List Jvm.Cond) (a : Addr) (h0 : Heap) (n0 : Nat) (Z0 : n0 ≤ h0.size) (u : Int32) (xa ya wa so : Addr) (ia : Int32) (i : Nat) (hia : ia.toInt = i) (hi3 : i < 3) (na : n0 ≤ a) (E0 : Exa Z h0 a "com/example/ordinate/ordinate/core/PairBlocks$Sorted") (f_at : Fld Z h0 a "com/example/ordinate/ordinate/core/PairBlocks$Sorted" "at" "I" (.int ia)) (f_xs : Fld Z h0 a "com/example/ordinate/ordinate/core/PairBlocks$Sorted" "xs" "[I" (.ref xa)) (f_ys : Fld Z h0 a "com/example/ordinate/ordinate/core/PairBlocks$Sorted" "ys" "[I" (.ref ya)) (f_weights : Fld Z h0 a "com/example/ordinate/ordinate/core/PairBlocks$Sorted" "weights" "[J" (.ref wa)) (f_sorted : Fld Z h0 a "com/example/ordinate/ordinate/core/PairBlocks$Sorted" "sorted" "[I" (.ref so)) {kso : ClassId} (F_so : own_F Z h0 so kso .int 3 own_id) {kv : ClassId} {fv : Nat → Value} (F_v : own_F Z h0 ya kv .int 3 fv) (hv : fv i = .int u) :
    own_Met l (⟨"com/example/ordinate/ordinate/core/PairBlocks$Sorted", "y", "()I"⟩ : MethodName) prog_110_method_9_code 1 (some .int) ws ({ frames := 0, cells := 0, slots := 0, locals := 0 } : Room) #[(.ref a)] Z h0 (fun v h L => v = some (.int u) ∧ Fr n0 L ∧ h = h0) := by
  refine own_body (plainFor_of_name pn_PairBlocks_Sorted) ?_
  intro p e s m below meth c s0 X0 hx hby hml hret hlk hown hnm hZ e0
  replace hown : s.vm.findClass "com/example/ordinate/ordinate/core/PairBlocks$Sorted" = some m.cls := hown
  have N0 := Fr.nil n0
  have ef : entryFrame m #[(.ref a)] 1 = (mkF m 0 #[.val (.ref a)] []) := by first | (simp [entryFrame, mkF, argsToLocals, Value.category, maxLocals]; done) | rfl
  rw [ef]
  show own_End p e below s _ _ _ (s0.setTop (mkF m 0 #[.val (.ref a)] []))
  refine own_go (fun t k => XS.aloadN X0.here hx rfl (hb hby d6_0) rfl rfl k) ?_
  show own_End p e below s _ _ _ (s0.setTop (mkF m 1 #[.val (.ref a)] [(.ref a)]))
  obtain ⟨T161, X161, e161, st161⟩ := getF X0 hx hZ hown (host := "") (Or.inl (hw _ (List.mem_of_getElem? (i := 17) rfl))) Via.refl e0 f_ys (g := (mkF m 1 #[.val (.ref a)] [(.ref a)])) rfl rfl (hb hby d6_1)
  refine own_go st161 ?_
  show own_End p e below s _ _ _ (T161.setTop (mkF m 4 #[.val (.ref a)] [(.ref ya)]))
  refine own_go (fun t k => XS.aloadN X161.here hx rfl (hb hby d6_4) rfl rfl k) ?_
  show own_End p e below s _ _ _ (T161.setTop (mkF m 5 #[.val (.ref a)] [(.ref a), (.ref ya)]))
  obtain ⟨T162, X162, e162, st162⟩ := getF X161 hx hZ hown (host := "") (Or.inl (hw _ (List.mem_of_getElem? (i := 25) rfl))) Via.refl e161 f_sorted (g := (mkF m 5 #[.val (.ref a)] [(.ref a), (.ref ya)])) rfl rfl (hb hby d6_5)
  refine own_go st162 ?_
  show own_End p e below s _ _ _ (T162.setTop (mkF m 8 #[.val (.ref a)] [(.ref so), (.ref ya)]))
  refine own_go (fun t k => XS.aloadN X162.here hx rfl (hb hby d6_8) rfl rfl k) ?_
  show own_End p e below s _ _ _ (T162.setTop (mkF m 9 #[.val (.ref a)] [(.ref a), (.ref so), (.ref ya)]))
  obtain ⟨T163, X163, e163, st163⟩ := getF X162 hx hZ hown (host := "") (Or.inl (hw _ (List.mem_of_getElem? (i := 13) rfl))) Via.refl e162 f_at (g := (mkF m 9 #[.val (.ref a)] [(.ref a), (.ref so), (.ref ya)])) rfl rfl (hb hby d6_9)
  refine own_go st163 ?_
  show own_End p e below s _ _ _ (T163.setTop (mkF m 12 #[.val (.ref a)] [(.int ia), (.ref so), (.ref ya)]))
  refine own_go (own_fldI X163 hx hZ e163 F_so (j := ia) (v := (.int (Int32.ofNat i))) i hia hi3 rfl (pc := 12) (Ls := #[.val (.ref a)]) (rest := [(.ref ya)]) (hb hby d6_12)) ?_
  show own_End p e below s _ _ _ (T163.setTop (mkF m 13 #[.val (.ref a)] [(.int (Int32.ofNat i)), (.ref ya)]))
  refine own_go (own_fldI X163 hx hZ e163 F_v (j := (Int32.ofNat i)) (v := (.int u)) i (own_idn hi3) hi3 hv (pc := 13) (Ls := #[.val (.ref a)]) (rest := []) (hb hby d6_13)) ?_
  show own_End p e below s _ _ _ (T163.setTop (mkF m 14 #[.val (.ref a)] [(.int u)]))
  exact own_retI X163 hx hret hlk (hb hby d6_14) ⟨rfl, N0, e163⟩ (by decide) (by decide)
set_option maxRecDepth 65536 in
set_option maxHeartbeats 40000000 in
theorem rm7 (l : Launch) (Z : State) (a0 : Array Value) (hw : ∀ d ∈ tables_1, d.before a0 Z = true) (ws : List Jvm.Cond) (a : Addr) (h0 : Heap) (n0 : Nat) (Z0 : n0 ≤ h0.size) (u : Int64) (xa ya wa so : Addr) (ia : Int32) (i : Nat) (hia : ia.toInt = i) (hi3 : i < 3) (na : n0 ≤ a) (E0 : Exa Z h0 a "com/example/ordinate/ordinate/core/PairBlocks$Sorted") (f_at : Fld Z h0 a "com/example/ordinate/ordinate/core/PairBlocks$Sorted" "at" "I" (.int ia)) (f_xs : Fld Z h0 a "com/example/ordinate/ordinate/core/PairBlocks$Sorted" "xs" "[I" (.ref xa)) (f_ys : Fld Z h0 a "com/example/ordinate/ordinate/core/PairBlocks$Sorted" "ys" "[I" (.ref ya)) (f_weights : Fld Z h0 a "com/example/ordinate/ordinate/core/PairBlocks$Sorted" "weights" "[J" (.ref wa)) (f_sorted : Fld Z h0 a "com/example/ordinate/ordinate/core/PairBlocks$Sorted" "sorted" "[I" (.ref so)) {kso : ClassId} (F_so : own_F Z h0 so kso .int 3 own_id) {kv : ClassId} {fv : Nat → Value} (F_v : own_F Z h0 wa kv .long 3 fv) (hv : fv i = .long u) :
    own_Met l (⟨"com/example/ordinate/ordinate/core/PairBlocks$Sorted", "weight", "()J"⟩ : MethodName) prog_110_method_10_code 1 (some .long) ws ({ frames := 0, cells := 0, slots := 0, locals := 0 } : Room) #[(.ref a)] Z h0 (fun v h L => v = some (.long u) ∧ Fr n0 L ∧ h = h0) := by
  refine own_body (plainFor_of_name pn_PairBlocks_Sorted) ?_
  intro p e s m below meth c s0 X0 hx hby hml hret hlk hown hnm hZ e0
  replace hown : s.vm.findClass "com/example/ordinate/ordinate/core/PairBlocks$Sorted" = some m.cls := hown
  have N0 := Fr.nil n0
  have ef : entryFrame m #[(.ref a)] 1 = (mkF m 0 #[.val (.ref a)] []) := by first | (simp [entryFrame, mkF, argsToLocals, Value.category, maxLocals]; done) | rfl
  rw [ef]
  show own_End p e below s _ _ _ (s0.setTop (mkF m 0 #[.val (.ref a)] []))
  refine own_go (fun t k => XS.aloadN X0.here hx rfl (hb hby d7_0) rfl rfl k) ?_
  show own_End p e below s _ _ _ (s0.setTop (mkF m 1 #[.val (.ref a)] [(.ref a)]))
  obtain ⟨T164, X164, e164, st164⟩ := getF X0 hx hZ hown (host := "") (Or.inl (hw _ (List.mem_of_getElem? (i := 19) rfl))) Via.refl e0 f_weights (g := (mkF m 1 #[.val (.ref a)] [(.ref a)])) rfl rfl (hb hby d7_1)
  refine own_go st164 ?_
  show own_End p e below s _ _ _ (T164.setTop (mkF m 4 #[.val (.ref a)] [(.ref wa)]))
  refine own_go (fun t k => XS.aloadN X164.here hx rfl (hb hby d7_4) rfl rfl k) ?_
  show own_End p e below s _ _ _ (T164.setTop (mkF m 5 #[.val (.ref a)] [(.ref a), (.ref wa)]))
  obtain ⟨T165, X165, e165, st165⟩ := getF X164 hx hZ hown (host := "") (Or.inl (hw _ (List.mem_of_getElem? (i := 25) rfl))) Via.refl e164 f_sorted (g := (mkF m 5 #[.val (.ref a)] [(.ref a), (.ref wa)])) rfl rfl (hb hby d7_5)
  refine own_go st165 ?_
  show own_End p e below s _ _ _ (T165.setTop (mkF m 8 #[.val (.ref a)] [(.ref so), (.ref wa)]))
  refine own_go (fun t k => XS.aloadN X165.here hx rfl (hb hby d7_8) rfl rfl k) ?_
  show own_End p e below s _ _ _ (T165.setTop (mkF m 9 #[.val (.ref a)] [(.ref a), (.ref so), (.ref wa)]))
  obtain ⟨T166, X166, e166, st166⟩ := getF X165 hx hZ hown (host := "") (Or.inl (hw _ (List.mem_of_getElem? (i := 13) rfl))) Via.refl e165 f_at (g := (mkF m 9 #[.val (.ref a)] [(.ref a), (.ref so), (.ref wa)])) rfl rfl (hb hby d7_9)
  refine own_go st166 ?_
  show own_End p e below s _ _ _ (T166.setTop (mkF m 12 #[.val (.ref a)] [(.int ia), (.ref so), (.ref wa)]))
  refine own_go (own_fldI X166 hx hZ e166 F_so (j := ia) (v := (.int (Int32.ofNat i))) i hia hi3 rfl (pc := 12) (Ls := #[.val (.ref a)]) (rest := [(.ref wa)]) (hb hby d7_12)) ?_
  show own_End p e below s _ _ _ (T166.setTop (mkF m 13 #[.val (.ref a)] [(.int (Int32.ofNat i)), (.ref wa)]))
  refine own_go (own_fldJ X166 hx hZ e166 F_v (j := (Int32.ofNat i)) (v := (.long u)) i (own_idn hi3) hi3 hv (pc := 13) (Ls := #[.val (.ref a)]) (rest := []) (hb hby d7_13)) ?_
  show own_End p e below s _ _ _ (T166.setTop (mkF m 14 #[.val (.ref a)] [(.long u)]))
  exact own_retJ X166 hx hret hlk (hb hby d7_14) ⟨rfl, N0, e166⟩ (by decide) (by decide)
set_option maxRecDepth 65536 in
set_option maxHeartbeats 40000000 in
theorem rm8_0 (l : Launch) (Z : State) (a0 : Array Value) (hw : ∀ d ∈ tables_1, d.before a0 Z = true) (ws : List Jvm.Cond) (a : Addr) (h0 : Heap) (n0 : Nat) (Z0 : n0 ≤ h0.size) (xa ya wa so : Addr) (ne_so_a : so ≠ a) (na : n0 ≤ a) (E0 : Exa Z h0 a "com/example/ordinate/ordinate/core/PairBlocks$Sorted") (f_at : Fld Z h0 a "com/example/ordinate/ordinate/core/PairBlocks$Sorted" "at" "I" (.int 0)) (f_xs : Fld Z h0 a "com/example/ordinate/ordinate/core/PairBlocks$Sorted" "xs" "[I" (.ref xa)) (f_ys : Fld Z h0 a "com/example/ordinate/ordinate/core/PairBlocks$Sorted" "ys" "[I" (.ref ya)) (f_weights : Fld Z h0 a "com/example/ordinate/ordinate/core/PairBlocks$Sorted" "weights" "[J" (.ref wa)) (f_sorted : Fld Z h0 a "com/example/ordinate/ordinate/core/PairBlocks$Sorted" "sorted" "[I" (.ref so)) {kso : ClassId} (F_so : own_F Z h0 so kso .int 3 own_id) :
    own_Met l (⟨"com/example/ordinate/ordinate/core/PairBlocks$Sorted", "next", "()Z"⟩ : MethodName) prog_110_method_7_code 1 (some .boolean) ws ({ frames := 0, cells := 0, slots := 0, locals := 0 } : Room) #[(.ref a)] Z h0 (fun v h L => v = some (.int 1) ∧ Fr n0 L) := by
  refine own_body (plainFor_of_name pn_PairBlocks_Sorted) ?_
  intro p e s m below meth c s0 X0 hx hby hml hret hlk hown hnm hZ e0
  replace hown : s.vm.findClass "com/example/ordinate/ordinate/core/PairBlocks$Sorted" = some m.cls := hown
  have N0 := Fr.nil n0
  have ef : entryFrame m #[(.ref a)] 1 = (mkF m 0 #[.val (.ref a)] []) := by first | (simp [entryFrame, mkF, argsToLocals, Value.category, maxLocals]; done) | rfl
  rw [ef]
  show own_End p e below s _ _ _ (s0.setTop (mkF m 0 #[.val (.ref a)] []))
  refine own_go (fun t k => XS.aloadN X0.here hx rfl (hb hby d8_0) rfl rfl k) ?_
  show own_End p e below s _ _ _ (s0.setTop (mkF m 1 #[.val (.ref a)] [(.ref a)]))
  refine own_go (fun t k => XS.dup X0.here hx rfl (hb hby d8_1) rfl rfl k) ?_
  show own_End p e below s _ _ _ (s0.setTop (mkF m 2 #[.val (.ref a)] [(.ref a), (.ref a)]))
  obtain ⟨T167, X167, e167, st167⟩ := getF X0 hx hZ hown (host := "") (Or.inl (hw _ (List.mem_of_getElem? (i := 13) rfl))) Via.refl e0 f_at (g := (mkF m 2 #[.val (.ref a)] [(.ref a), (.ref a)])) rfl rfl (hb hby d8_2)
  refine own_go st167 ?_
  show own_End p e below s _ _ _ (T167.setTop (mkF m 5 #[.val (.ref a)] [(.int (0 : Int32)), (.ref a)]))
  refine own_go (fun t k => XS.iconst X167.here hx rfl (hb hby d8_5) k) ?_
  show own_End p e below s _ _ _ (T167.setTop (mkF m 6 #[.val (.ref a)] [(.int (1 : Int32)), (.int (0 : Int32)), (.ref a)]))
  refine own_go (fun t k => XS.iadd X167.here hx rfl (hb hby d8_6) rfl k) ?_
  show own_End p e below s _ _ _ (T167.setTop (mkF m 7 #[.val (.ref a)] [(.int ((0 : Int32) + (1 : Int32))), (.ref a)]))
  rw [show ((0 : Int32) + (1 : Int32)) = (1 : Int32) by decide]
  show own_End p e below s _ _ _ (T167.setTop (mkF m 7 #[.val (.ref a)] [(.int (1 : Int32)), (.ref a)]))
  obtain ⟨T168, h168, X168, e168, W168, st168⟩ := putF X167 hx hZ hown (host := "") (Or.inl (hw _ (List.mem_of_getElem? (i := 13) rfl))) Via.refl e167 f_at E0 (Or.inl (hw _ (List.mem_of_getElem? (i := 14) rfl))) (hw _ (List.mem_of_getElem? (i := 5) rfl)) (ty := .int) (by decide) rfl rfl (g := (mkF m 7 #[.val (.ref a)] [(.int (1 : Int32)), (.ref a)])) rfl rfl (hb hby d8_7)
  have N168 := Fr.snoc X168 N0 na
  have Z168 : n0 ≤ h168.size := by rw [W168.size]; exact Z0
  refine own_go st168 ?_
  have f169 := E0.wr W168
  have f170 := f_at.same W168
  have f171 := f_xs.other W168 (Or.inr (slot_ne (Or.inr (hw _ (List.mem_of_getElem? (i := 16) rfl))) (Or.inl (hw _ (List.mem_of_getElem? (i := 14) rfl))) (by decide) (t := (.array .int)) (t' := .int) (by decide) (by decide)))
  have f172 := f_ys.other W168 (Or.inr (slot_ne (Or.inr (hw _ (List.mem_of_getElem? (i := 18) rfl))) (Or.inl (hw _ (List.mem_of_getElem? (i := 14) rfl))) (by decide) (t := (.array .int)) (t' := .int) (by decide) (by decide)))
  have f173 := f_weights.other W168 (Or.inr (slot_ne (Or.inr (hw _ (List.mem_of_getElem? (i := 20) rfl))) (Or.inl (hw _ (List.mem_of_getElem? (i := 14) rfl))) (by decide) (t := (.array .long)) (t' := .int) (by decide) (by decide)))
  have f174 := f_sorted.other W168 (Or.inr (slot_ne (Or.inr (hw _ (List.mem_of_getElem? (i := 26) rfl))) (Or.inl (hw _ (List.mem_of_getElem? (i := 14) rfl))) (by decide) (t := (.array .int)) (t' := .int) (by decide) (by decide)))
  have f175 := F_so.other W168 ne_so_a
  show own_End p e below s _ _ _ (T168.setTop (mkF m 10 #[.val (.ref a)] []))
  refine own_go (fun t k => XS.aloadN X168.here hx rfl (hb hby d8_10) rfl rfl k) ?_
  show own_End p e below s _ _ _ (T168.setTop (mkF m 11 #[.val (.ref a)] [(.ref a)]))
  obtain ⟨T176, X176, e176, st176⟩ := getF X168 hx hZ hown (host := "") (Or.inl (hw _ (List.mem_of_getElem? (i := 13) rfl))) Via.refl e168 f170 (g := (mkF m 11 #[.val (.ref a)] [(.ref a)])) rfl rfl (hb hby d8_11)
  refine own_go st176 ?_
  show own_End p e below s _ _ _ (T176.setTop (mkF m 14 #[.val (.ref a)] [(.int (1 : Int32))]))
  refine own_go (fun t k => XS.aloadN X176.here hx rfl (hb hby d8_14) rfl rfl k) ?_
  show own_End p e below s _ _ _ (T176.setTop (mkF m 15 #[.val (.ref a)] [(.ref a), (.int (1 : Int32))]))
  obtain ⟨T177, X177, e177, st177⟩ := getF X176 hx hZ hown (host := "") (Or.inl (hw _ (List.mem_of_getElem? (i := 25) rfl))) Via.refl e176 f174 (g := (mkF m 15 #[.val (.ref a)] [(.ref a), (.int (1 : Int32))])) rfl rfl (hb hby d8_15)
  refine own_go st177 ?_
  show own_End p e below s _ _ _ (T177.setTop (mkF m 18 #[.val (.ref a)] [(.ref so), (.int (1 : Int32))]))
  refine own_go (own_flen X177 hx hZ e177 f175 (pc := 18) (Ls := #[.val (.ref a)]) (rest := [(.int (1 : Int32))]) (hb hby d8_18)) ?_
  show own_End p e below s _ _ _ (T177.setTop (mkF m 19 #[.val (.ref a)] [(.int (3 : Int32)), (.int (1 : Int32))]))
  refine own_go (fun t k => XS.icmpNo X177.here hx rfl (hb hby d8_19) rfl (by decide) k) ?_
  show own_End p e below s _ _ _ (T177.setTop (mkF m 22 #[.val (.ref a)] []))
  refine own_go (fun t k => XS.iconst X177.here hx rfl (hb hby d8_22) k) ?_
  show own_End p e below s _ _ _ (T177.setTop (mkF m 23 #[.val (.ref a)] [(.int (1 : Int32))]))
  refine own_go (fun t k => XS.goto X177.here hx rfl (pc0 := 23) (pc' := 27) rfl (hb hby d8_23) (by decide) (by decide) k) ?_
  show own_End p e below s _ _ _ (T177.setTop (mkF m 27 #[.val (.ref a)] [(.int (1 : Int32))]))
  exact own_retN X177 hx (t := .boolean) hret hlk (by simp) (hb hby d8_27) ⟨rfl, N168⟩ (by decide) (by decide)
set_option maxRecDepth 65536 in
set_option maxHeartbeats 40000000 in
theorem rm8_1 (l : Launch) (Z : State) (a0 : Array Value) (hw : ∀ d ∈ tables_1, d.before a0 Z = true) (ws : List Jvm.Cond) (a : Addr) (h0 : Heap) (n0 : Nat) (Z0 : n0 ≤ h0.size) (xa ya wa so : Addr) (ne_so_a : so ≠ a) (na : n0 ≤ a) (E0 : Exa Z h0 a "com/example/ordinate/ordinate/core/PairBlocks$Sorted") (f_at : Fld Z h0 a "com/example/ordinate/ordinate/core/PairBlocks$Sorted" "at" "I" (.int 1)) (f_xs : Fld Z h0 a "com/example/ordinate/ordinate/core/PairBlocks$Sorted" "xs" "[I" (.ref xa)) (f_ys : Fld Z h0 a "com/example/ordinate/ordinate/core/PairBlocks$Sorted" "ys" "[I" (.ref ya)) (f_weights : Fld Z h0 a "com/example/ordinate/ordinate/core/PairBlocks$Sorted" "weights" "[J" (.ref wa)) (f_sorted : Fld Z h0 a "com/example/ordinate/ordinate/core/PairBlocks$Sorted" "sorted" "[I" (.ref so)) {kso : ClassId} (F_so : own_F Z h0 so kso .int 3 own_id) :
    own_Met l (⟨"com/example/ordinate/ordinate/core/PairBlocks$Sorted", "next", "()Z"⟩ : MethodName) prog_110_method_7_code 1 (some .boolean) ws ({ frames := 0, cells := 0, slots := 0, locals := 0 } : Room) #[(.ref a)] Z h0 (fun v h L => v = some (.int 1) ∧ Fr n0 L) := by
  refine own_body (plainFor_of_name pn_PairBlocks_Sorted) ?_
  intro p e s m below meth c s0 X0 hx hby hml hret hlk hown hnm hZ e0
  replace hown : s.vm.findClass "com/example/ordinate/ordinate/core/PairBlocks$Sorted" = some m.cls := hown
  have N0 := Fr.nil n0
  have ef : entryFrame m #[(.ref a)] 1 = (mkF m 0 #[.val (.ref a)] []) := by first | (simp [entryFrame, mkF, argsToLocals, Value.category, maxLocals]; done) | rfl
  rw [ef]
  show own_End p e below s _ _ _ (s0.setTop (mkF m 0 #[.val (.ref a)] []))
  refine own_go (fun t k => XS.aloadN X0.here hx rfl (hb hby d8_0) rfl rfl k) ?_
  show own_End p e below s _ _ _ (s0.setTop (mkF m 1 #[.val (.ref a)] [(.ref a)]))
  refine own_go (fun t k => XS.dup X0.here hx rfl (hb hby d8_1) rfl rfl k) ?_
  show own_End p e below s _ _ _ (s0.setTop (mkF m 2 #[.val (.ref a)] [(.ref a), (.ref a)]))
  obtain ⟨T178, X178, e178, st178⟩ := getF X0 hx hZ hown (host := "") (Or.inl (hw _ (List.mem_of_getElem? (i := 13) rfl))) Via.refl e0 f_at (g := (mkF m 2 #[.val (.ref a)] [(.ref a), (.ref a)])) rfl rfl (hb hby d8_2)
  refine own_go st178 ?_
  show own_End p e below s _ _ _ (T178.setTop (mkF m 5 #[.val (.ref a)] [(.int (1 : Int32)), (.ref a)]))
  refine own_go (fun t k => XS.iconst X178.here hx rfl (hb hby d8_5) k) ?_
  show own_End p e below s _ _ _ (T178.setTop (mkF m 6 #[.val (.ref a)] [(.int (1 : Int32)), (.int (1 : Int32)), (.ref a)]))
  refine own_go (fun t k => XS.iadd X178.here hx rfl (hb hby d8_6) rfl k) ?_
  show own_End p e below s _ _ _ (T178.setTop (mkF m 7 #[.val (.ref a)] [(.int ((1 : Int32) + (1 : Int32))), (.ref a)]))
  rw [show ((1 : Int32) + (1 : Int32)) = (2 : Int32) by decide]
  show own_End p e below s _ _ _ (T178.setTop (mkF m 7 #[.val (.ref a)] [(.int (2 : Int32)), (.ref a)]))
  obtain ⟨T179, h179, X179, e179, W179, st179⟩ := putF X178 hx hZ hown (host := "") (Or.inl (hw _ (List.mem_of_getElem? (i := 13) rfl))) Via.refl e178 f_at E0 (Or.inl (hw _ (List.mem_of_getElem? (i := 14) rfl))) (hw _ (List.mem_of_getElem? (i := 5) rfl)) (ty := .int) (by decide) rfl rfl (g := (mkF m 7 #[.val (.ref a)] [(.int (2 : Int32)), (.ref a)])) rfl rfl (hb hby d8_7)
  have N179 := Fr.snoc X179 N0 na
  have Z179 : n0 ≤ h179.size := by rw [W179.size]; exact Z0
  refine own_go st179 ?_
  have f180 := E0.wr W179
  have f181 := f_at.same W179
  have f182 := f_xs.other W179 (Or.inr (slot_ne (Or.inr (hw _ (List.mem_of_getElem? (i := 16) rfl))) (Or.inl (hw _ (List.mem_of_getElem? (i := 14) rfl))) (by decide) (t := (.array .int)) (t' := .int) (by decide) (by decide)))
  have f183 := f_ys.other W179 (Or.inr (slot_ne (Or.inr (hw _ (List.mem_of_getElem? (i := 18) rfl))) (Or.inl (hw _ (List.mem_of_getElem? (i := 14) rfl))) (by decide) (t := (.array .int)) (t' := .int) (by decide) (by decide)))
  have f184 := f_weights.other W179 (Or.inr (slot_ne (Or.inr (hw _ (List.mem_of_getElem? (i := 20) rfl))) (Or.inl (hw _ (List.mem_of_getElem? (i := 14) rfl))) (by decide) (t := (.array .long)) (t' := .int) (by decide) (by decide)))
  have f185 := f_sorted.other W179 (Or.inr (slot_ne (Or.inr (hw _ (List.mem_of_getElem? (i := 26) rfl))) (Or.inl (hw _ (List.mem_of_getElem? (i := 14) rfl))) (by decide) (t := (.array .int)) (t' := .int) (by decide) (by decide)))
  have f186 := F_so.other W179 ne_so_a
  show own_End p e below s _ _ _ (T179.setTop (mkF m 10 #[.val (.ref a)] []))
  refine own_go (fun t k => XS.aloadN X179.here hx rfl (hb hby d8_10) rfl rfl k) ?_
  show own_End p e below s _ _ _ (T179.setTop (mkF m 11 #[.val (.ref a)] [(.ref a)]))
  obtain ⟨T187, X187, e187, st187⟩ := getF X179 hx hZ hown (host := "") (Or.inl (hw _ (List.mem_of_getElem? (i := 13) rfl))) Via.refl e179 f181 (g := (mkF m 11 #[.val (.ref a)] [(.ref a)])) rfl rfl (hb hby d8_11)
  refine own_go st187 ?_
  show own_End p e below s _ _ _ (T187.setTop (mkF m 14 #[.val (.ref a)] [(.int (2 : Int32))]))
  refine own_go (fun t k => XS.aloadN X187.here hx rfl (hb hby d8_14) rfl rfl k) ?_
  show own_End p e below s _ _ _ (T187.setTop (mkF m 15 #[.val (.ref a)] [(.ref a), (.int (2 : Int32))]))
  obtain ⟨T188, X188, e188, st188⟩ := getF X187 hx hZ hown (host := "") (Or.inl (hw _ (List.mem_of_getElem? (i := 25) rfl))) Via.refl e187 f185 (g := (mkF m 15 #[.val (.ref a)] [(.ref a), (.int (2 : Int32))])) rfl rfl (hb hby d8_15)
  refine own_go st188 ?_
  show own_End p e below s _ _ _ (T188.setTop (mkF m 18 #[.val (.ref a)] [(.ref so), (.int (2 : Int32))]))
  refine own_go (own_flen X188 hx hZ e188 f186 (pc := 18) (Ls := #[.val (.ref a)]) (rest := [(.int (2 : Int32))]) (hb hby d8_18)) ?_
  show own_End p e below s _ _ _ (T188.setTop (mkF m 19 #[.val (.ref a)] [(.int (3 : Int32)), (.int (2 : Int32))]))
  refine own_go (fun t k => XS.icmpNo X188.here hx rfl (hb hby d8_19) rfl (by decide) k) ?_
  show own_End p e below s _ _ _ (T188.setTop (mkF m 22 #[.val (.ref a)] []))
  refine own_go (fun t k => XS.iconst X188.here hx rfl (hb hby d8_22) k) ?_
  show own_End p e below s _ _ _ (T188.setTop (mkF m 23 #[.val (.ref a)] [(.int (1 : Int32))]))
  refine own_go (fun t k => XS.goto X188.here hx rfl (pc0 := 23) (pc' := 27) rfl (hb hby d8_23) (by decide) (by decide) k) ?_
  show own_End p e below s _ _ _ (T188.setTop (mkF m 27 #[.val (.ref a)] [(.int (1 : Int32))]))
  exact own_retN X188 hx (t := .boolean) hret hlk (by simp) (hb hby d8_27) ⟨rfl, N179⟩ (by decide) (by decide)
set_option maxRecDepth 65536 in
set_option maxHeartbeats 40000000 in
theorem rm8_2 (l : Launch) (Z : State) (a0 : Array Value) (hw : ∀ d ∈ tables_1, d.before a0 Z = true) (ws : List Jvm.Cond) (a : Addr) (h0 : Heap) (n0 : Nat) (Z0 : n0 ≤ h0.size) (xa ya wa so : Addr) (ne_so_a : so ≠ a) (na : n0 ≤ a) (E0 : Exa Z h0 a "com/example/ordinate/ordinate/core/PairBlocks$Sorted") (f_at : Fld Z h0 a "com/example/ordinate/ordinate/core/PairBlocks$Sorted" "at" "I" (.int 2)) (f_xs : Fld Z h0 a "com/example/ordinate/ordinate/core/PairBlocks$Sorted" "xs" "[I" (.ref xa)) (f_ys : Fld Z h0 a "com/example/ordinate/ordinate/core/PairBlocks$Sorted" "ys" "[I" (.ref ya)) (f_weights : Fld Z h0 a "com/example/ordinate/ordinate/core/PairBlocks$Sorted" "weights" "[J" (.ref wa)) (f_sorted : Fld Z h0 a "com/example/ordinate/ordinate/core/PairBlocks$Sorted" "sorted" "[I" (.ref so)) {kso : ClassId} (F_so : own_F Z h0 so kso .int 3 own_id) :
    own_Met l (⟨"com/example/ordinate/ordinate/core/PairBlocks$Sorted", "next", "()Z"⟩ : MethodName) prog_110_method_7_code 1 (some .boolean) ws ({ frames := 0, cells := 0, slots := 0, locals := 0 } : Room) #[(.ref a)] Z h0 (fun v h L => v = some (.int 0) ∧ Fr n0 L) := by
  refine own_body (plainFor_of_name pn_PairBlocks_Sorted) ?_
  intro p e s m below meth c s0 X0 hx hby hml hret hlk hown hnm hZ e0
  replace hown : s.vm.findClass "com/example/ordinate/ordinate/core/PairBlocks$Sorted" = some m.cls := hown
  have N0 := Fr.nil n0
  have ef : entryFrame m #[(.ref a)] 1 = (mkF m 0 #[.val (.ref a)] []) := by first | (simp [entryFrame, mkF, argsToLocals, Value.category, maxLocals]; done) | rfl
  rw [ef]
  show own_End p e below s _ _ _ (s0.setTop (mkF m 0 #[.val (.ref a)] []))
  refine own_go (fun t k => XS.aloadN X0.here hx rfl (hb hby d8_0) rfl rfl k) ?_
  show own_End p e below s _ _ _ (s0.setTop (mkF m 1 #[.val (.ref a)] [(.ref a)]))
  refine own_go (fun t k => XS.dup X0.here hx rfl (hb hby d8_1) rfl rfl k) ?_
  show own_End p e below s _ _ _ (s0.setTop (mkF m 2 #[.val (.ref a)] [(.ref a), (.ref a)]))
  obtain ⟨T189, X189, e189, st189⟩ := getF X0 hx hZ hown (host := "") (Or.inl (hw _ (List.mem_of_getElem? (i := 13) rfl))) Via.refl e0 f_at (g := (mkF m 2 #[.val (.ref a)] [(.ref a), (.ref a)])) rfl rfl (hb hby d8_2)
  refine own_go st189 ?_
  show own_End p e below s _ _ _ (T189.setTop (mkF m 5 #[.val (.ref a)] [(.int (2 : Int32)), (.ref a)]))
  refine own_go (fun t k => XS.iconst X189.here hx rfl (hb hby d8_5) k) ?_
  show own_End p e below s _ _ _ (T189.setTop (mkF m 6 #[.val (.ref a)] [(.int (1 : Int32)), (.int (2 : Int32)), (.ref a)]))
  refine own_go (fun t k => XS.iadd X189.here hx rfl (hb hby d8_6) rfl k) ?_
  show own_End p e below s _ _ _ (T189.setTop (mkF m 7 #[.val (.ref a)] [(.int ((2 : Int32) + (1 : Int32))), (.ref a)]))
  rw [show ((2 : Int32) + (1 : Int32)) = (3 : Int32) by decide]
  show own_End p e below s _ _ _ (T189.setTop (mkF m 7 #[.val (.ref a)] [(.int (3 : Int32)), (.ref a)]))
  obtain ⟨T190, h190, X190, e190, W190, st190⟩ := putF X189 hx hZ hown (host := "") (Or.inl (hw _ (List.mem_of_getElem? (i := 13) rfl))) Via.refl e189 f_at E0 (Or.inl (hw _ (List.mem_of_getElem? (i := 14) rfl))) (hw _ (List.mem_of_getElem? (i := 5) rfl)) (ty := .int) (by decide) rfl rfl (g := (mkF m 7 #[.val (.ref a)] [(.int (3 : Int32)), (.ref a)])) rfl rfl (hb hby d8_7)
  have N190 := Fr.snoc X190 N0 na
  have Z190 : n0 ≤ h190.size := by rw [W190.size]; exact Z0
  refine own_go st190 ?_
  have f191 := E0.wr W190
  have f192 := f_at.same W190
  have f193 := f_xs.other W190 (Or.inr (slot_ne (Or.inr (hw _ (List.mem_of_getElem? (i := 16) rfl))) (Or.inl (hw _ (List.mem_of_getElem? (i := 14) rfl))) (by decide) (t := (.array .int)) (t' := .int) (by decide) (by decide)))
  have f194 := f_ys.other W190 (Or.inr (slot_ne (Or.inr (hw _ (List.mem_of_getElem? (i := 18) rfl))) (Or.inl (hw _ (List.mem_of_getElem? (i := 14) rfl))) (by decide) (t := (.array .int)) (t' := .int) (by decide) (by decide)))
  have f195 := f_weights.other W190 (Or.inr (slot_ne (Or.inr (hw _ (List.mem_of_getElem? (i := 20) rfl))) (Or.inl (hw _ (List.mem_of_getElem? (i := 14) rfl))) (by decide) (t := (.array .long)) (t' := .int) (by decide) (by decide)))
  have f196 := f_sorted.other W190 (Or.inr (slot_ne (Or.inr (hw _ (List.mem_of_getElem? (i := 26) rfl))) (Or.inl (hw _ (List.mem_of_getElem? (i := 14) rfl))) (by decide) (t := (.array .int)) (t' := .int) (by decide) (by decide)))
  have f197 := F_so.other W190 ne_so_a
  show own_End p e below s _ _ _ (T190.setTop (mkF m 10 #[.val (.ref a)] []))
  refine own_go (fun t k => XS.aloadN X190.here hx rfl (hb hby d8_10) rfl rfl k) ?_
  show own_End p e below s _ _ _ (T190.setTop (mkF m 11 #[.val (.ref a)] [(.ref a)]))
  obtain ⟨T198, X198, e198, st198⟩ := getF X190 hx hZ hown (host := "") (Or.inl (hw _ (List.mem_of_getElem? (i := 13) rfl))) Via.refl e190 f192 (g := (mkF m 11 #[.val (.ref a)] [(.ref a)])) rfl rfl (hb hby d8_11)
  refine own_go st198 ?_
  show own_End p e below s _ _ _ (T198.setTop (mkF m 14 #[.val (.ref a)] [(.int (3 : Int32))]))
  refine own_go (fun t k => XS.aloadN X198.here hx rfl (hb hby d8_14) rfl rfl k) ?_
  show own_End p e below s _ _ _ (T198.setTop (mkF m 15 #[.val (.ref a)] [(.ref a), (.int (3 : Int32))]))
  obtain ⟨T199, X199, e199, st199⟩ := getF X198 hx hZ hown (host := "") (Or.inl (hw _ (List.mem_of_getElem? (i := 25) rfl))) Via.refl e198 f196 (g := (mkF m 15 #[.val (.ref a)] [(.ref a), (.int (3 : Int32))])) rfl rfl (hb hby d8_15)
  refine own_go st199 ?_
  show own_End p e below s _ _ _ (T199.setTop (mkF m 18 #[.val (.ref a)] [(.ref so), (.int (3 : Int32))]))
  refine own_go (own_flen X199 hx hZ e199 f197 (pc := 18) (Ls := #[.val (.ref a)]) (rest := [(.int (3 : Int32))]) (hb hby d8_18)) ?_
  show own_End p e below s _ _ _ (T199.setTop (mkF m 19 #[.val (.ref a)] [(.int (3 : Int32)), (.int (3 : Int32))]))
  refine own_go (fun t k => XS.icmpYes X199.here hx rfl (pc0 := 19) (pc' := 26) rfl (hb hby d8_19) rfl (by decide) (by decide) (by decide) k) ?_
  show own_End p e below s _ _ _ (T199.setTop (mkF m 26 #[.val (.ref a)] []))
  refine own_go (fun t k => XS.iconst X199.here hx rfl (hb hby d8_26) k) ?_
  show own_End p e below s _ _ _ (T199.setTop (mkF m 27 #[.val (.ref a)] [(.int (0 : Int32))]))
  exact own_retN X199 hx (t := .boolean) hret hlk (by simp) (hb hby d8_27) ⟨rfl, N190⟩ (by decide) (by decide)
set_option maxRecDepth 65536 in
set_option maxHeartbeats 40000000 in
theorem rm0 (l : Launch) (Z : State) (a0 : Array Value) (hw : ∀ d ∈ tables_1, d.before a0 Z = true) (ws : List Jvm.Cond) (p1 : Int64) (p2 : Int64) (p3 : Int64) (p4 : Int64) (h0 : Heap) (n0 : Nat) (Z0 : n0 ≤ h0.size)  :
    own_Met l x code maxLocals ret ws room_1 #[(.long p1), (.long p2), (.long p3), (.long p4)] Z h0 (fun v h L => v = some (.int 1) ∧ Fr n0 L) := by
  refine own_body (plainFor_of_name pn_SortedSkipPinLaw) ?_
  intro p e s m below meth c s0 X0 hx hby hml hret hlk hown hnm hZ e0
  replace hown : s.vm.findClass "com/example/ordinate/ordinate/core/SortedSkipPinLaw" = some m.cls := hown
  have N0 := Fr.nil n0
  have ef : entryFrame m #[(.long p1), (.long p2), (.long p3), (.long p4)] maxLocals = (mkF m 0 #[.val (.long p1), .second, .val (.long p2), .second, .val (.long p3), .second, .val (.long p4), .second, .unset, .unset, .unset, .unset, .unset, .unset, .unset, .unset, .unset, .unset, .unset, .unset, .unset, .unset, .unset, .unset, .unset, .unset, .unset, .unset, .unset, .unset, .unset] []) := by first | (simp [entryFrame, mkF, argsToLocals, Value.category, maxLocals]; done) | rfl
  rw [ef]
  show own_End p e below s _ _ _ (s0.setTop (mkF m 0 #[.val (.long p1), .second, .val (.long p2), .second, .val (.long p3), .second, .val (.long p4), .second, .unset, .unset, .unset, .unset, .unset, .unset, .unset, .unset, .unset, .unset, .unset, .unset, .unset, .unset, .unset, .unset, .unset, .unset, .unset, .unset, .unset, .unset, .unset] []))
  refine own_go (X0.ldc2Long (own := "com/example/ordinate/ordinate/core/SortedSkipPinLaw") (index := 7) (v := 2305843009213693951) hx hown (mvT hZ (hw _ (List.mem_of_getElem? (i := 0) rfl))) (g := (mkF m 0 #[.val (.long p1), .second, .val (.long p2), .second, .val (.long p3), .second, .val (.long p4), .second, .unset, .unset, .unset, .unset, .unset, .unset, .unset, .unset, .unset, .unset, .unset, .unset, .unset, .unset, .unset, .unset, .unset, .unset, .unset, .unset, .unset, .unset, .unset] [])) rfl (hb hby at_0)) ?_
  show own_End p e below s _ _ _ (s0.setTop (mkF m 3 #[.val (.long p1), .second, .val (.long p2), .second, .val (.long p3), .second, .val (.long p4), .second, .unset, .unset, .unset, .unset, .unset, .unset, .unset, .unset, .unset, .unset, .unset, .unset, .unset, .unset, .unset, .unset, .unset, .unset, .unset, .unset, .unset, .unset, .unset] [(.long (2305843009213693951 : Int64))]))
  refine own_go (fun t k => XT.lstore X0.here hx rfl (hb hby at_3) rfl (l' := #[.val (.long p1), .second, .val (.long p2), .second, .val (.long p3), .second, .val (.long p4), .second, .val (.long (2305843009213693951 : Int64)), .second, .unset, .unset, .unset, .unset, .unset, .unset, .unset, .unset, .unset, .unset, .unset, .unset, .unset, .unset, .unset, .unset, .unset, .unset, .unset, .unset, .unset]) rfl k) ?_
  show own_End p e below s _ _ _ (s0.setTop (mkF m 5 #[.val (.long p1), .second, .val (.long p2), .second, .val (.long p3), .second, .val (.long p4), .second, .val (.long (2305843009213693951 : Int64)), .second, .unset, .unset, .unset, .unset, .unset, .unset, .unset, .unset, .unset, .unset, .unset, .unset, .unset, .unset, .unset, .unset, .unset, .unset, .unset, .unset, .unset] []))
  refine own_go (fun t k => XT.lloadN X0.here hx rfl (hb hby at_5) rfl k) ?_
  show own_End p e below s _ _ _ (s0.setTop (mkF m 6 #[.val (.long p1), .second, .val (.long p2), .second, .val (.long p3), .second, .val (.long p4), .second, .val (.long (2305843009213693951 : Int64)), .second, .unset, .unset, .unset, .unset, .unset, .unset, .unset, .unset, .unset, .unset, .unset, .unset, .unset, .unset, .unset, .unset, .unset, .unset, .unset, .unset, .unset] [(.long p1)]))
  refine own_go (fun t k => XT.lload X0.here hx rfl (hb hby at_6) rfl k) ?_
  show own_End p e below s _ _ _ (s0.setTop (mkF m 8 #[.val (.long p1), .second, .val (.long p2), .second, .val (.long p3), .second, .val (.long p4), .second, .val (.long (2305843009213693951 : Int64)), .second, .unset, .unset, .unset, .unset, .unset, .unset, .unset, .unset, .unset, .unset, .unset, .unset, .unset, .unset, .unset, .unset, .unset, .unset, .unset, .unset, .unset] [(.long (2305843009213693951 : Int64)), (.long p1)]))
  refine own_go (fun t k => XT.land X0.here hx rfl (hb hby at_8) rfl k) ?_
  show own_End p e below s _ _ _ (s0.setTop (mkF m 9 #[.val (.long p1), .second, .val (.long p2), .second, .val (.long p3), .second, .val (.long p4), .second, .val (.long (2305843009213693951 : Int64)), .second, .unset, .unset, .unset, .unset, .unset, .unset, .unset, .unset, .unset, .unset, .unset, .unset, .unset, .unset, .unset, .unset, .unset, .unset, .unset, .unset, .unset] [(.long (p1 &&& (2305843009213693951 : Int64)))]))
  obtain ⟨w200, qw200⟩ : ∃ z : Int64, z = (p1 &&& (2305843009213693951 : Int64)) := ⟨_, rfl⟩
  rw [← qw200]
  show own_End p e below s _ _ _ (s0.setTop (mkF m 9 #[.val (.long p1), .second, .val (.long p2), .second, .val (.long p3), .second, .val (.long p4), .second, .val (.long (2305843009213693951 : Int64)), .second, .unset, .unset, .unset, .unset, .unset, .unset, .unset, .unset, .unset, .unset, .unset, .unset, .unset, .unset, .unset, .unset, .unset, .unset, .unset, .unset, .unset] [(.long w200)]))
  refine own_go (fun t k => XT.lstore X0.here hx rfl (hb hby at_9) rfl (l' := #[.val (.long p1), .second, .val (.long p2), .second, .val (.long p3), .second, .val (.long p4), .second, .val (.long (2305843009213693951 : Int64)), .second, .val (.long w200), .second, .unset, .unset, .unset, .unset, .unset, .unset, .unset, .unset, .unset, .unset, .unset, .unset, .unset, .unset, .unset, .unset, .unset, .unset, .unset]) rfl k) ?_
  show own_End p e below s _ _ _ (s0.setTop (mkF m 11 #[.val (.long p1), .second, .val (.long p2), .second, .val (.long p3), .second, .val (.long p4), .second, .val (.long (2305843009213693951 : Int64)), .second, .val (.long w200), .second, .unset, .unset, .unset, .unset, .unset, .unset, .unset, .unset, .unset, .unset, .unset, .unset, .unset, .unset, .unset, .unset, .unset, .unset, .unset] []))
  refine own_go (fun t k => XT.lloadN X0.here hx rfl (hb hby at_11) rfl k) ?_
  show own_End p e below s _ _ _ (s0.setTop (mkF m 12 #[.val (.long p1), .second, .val (.long p2), .second, .val (.long p3), .second, .val (.long p4), .second, .val (.long (2305843009213693951 : Int64)), .second, .val (.long w200), .second, .unset, .unset, .unset, .unset, .unset, .unset, .unset, .unset, .unset, .unset, .unset, .unset, .unset, .unset, .unset, .unset, .unset, .unset, .unset] [(.long p2)]))
  refine own_go (fun t k => XT.lload X0.here hx rfl (hb hby at_12) rfl k) ?_
  show own_End p e below s _ _ _ (s0.setTop (mkF m 14 #[.val (.long p1), .second, .val (.long p2), .second, .val (.long p3), .second, .val (.long p4), .second, .val (.long (2305843009213693951 : Int64)), .second, .val (.long w200), .second, .unset, .unset, .unset, .unset, .unset, .unset, .unset, .unset, .unset, .unset, .unset, .unset, .unset, .unset, .unset, .unset, .unset, .unset, .unset] [(.long (2305843009213693951 : Int64)), (.long p2)]))
  refine own_go (fun t k => XT.land X0.here hx rfl (hb hby at_14) rfl k) ?_
  show own_End p e below s _ _ _ (s0.setTop (mkF m 15 #[.val (.long p1), .second, .val (.long p2), .second, .val (.long p3), .second, .val (.long p4), .second, .val (.long (2305843009213693951 : Int64)), .second, .val (.long w200), .second, .unset, .unset, .unset, .unset, .unset, .unset, .unset, .unset, .unset, .unset, .unset, .unset, .unset, .unset, .unset, .unset, .unset, .unset, .unset] [(.long (p2 &&& (2305843009213693951 : Int64)))]))
  obtain ⟨w201, qw201⟩ : ∃ z : Int64, z = (p2 &&& (2305843009213693951 : Int64)) := ⟨_, rfl⟩
  rw [← qw201]
  show own_End p e below s _ _ _ (s0.setTop (mkF m 15 #[.val (.long p1), .second, .val (.long p2), .second, .val (.long p3), .second, .val (.long p4), .second, .val (.long (2305843009213693951 : Int64)), .second, .val (.long w200), .second, .unset, .unset, .unset, .unset, .unset, .unset, .unset, .unset, .unset, .unset, .unset, .unset, .unset, .unset, .unset, .unset, .unset, .unset, .unset] [(.long w201)]))
  refine own_go (fun t k => XT.lstore X0.here hx rfl (hb hby at_15) rfl (l' := #[.val (.long p1), .second, .val (.long p2), .second, .val (.long p3), .second, .val (.long p4), .second, .val (.long (2305843009213693951 : Int64)), .second, .val (.long w200), .second, .val (.long w201), .second, .unset, .unset, .unset, .unset, .unset, .unset, .unset, .unset, .unset, .unset, .unset, .unset, .unset, .unset, .unset, .unset, .unset]) rfl k) ?_
  show own_End p e below s _ _ _ (s0.setTop (mkF m 17 #[.val (.long p1), .second, .val (.long p2), .second, .val (.long p3), .second, .val (.long p4), .second, .val (.long (2305843009213693951 : Int64)), .second, .val (.long w200), .second, .val (.long w201), .second, .unset, .unset, .unset, .unset, .unset, .unset, .unset, .unset, .unset, .unset, .unset, .unset, .unset, .unset, .unset, .unset, .unset] []))
  refine own_go (fun t k => XT.lload X0.here hx rfl (hb hby at_17) rfl k) ?_
  show own_End p e below s _ _ _ (s0.setTop (mkF m 19 #[.val (.long p1), .second, .val (.long p2), .second, .val (.long p3), .second, .val (.long p4), .second, .val (.long (2305843009213693951 : Int64)), .second, .val (.long w200), .second, .val (.long w201), .second, .unset, .unset, .unset, .unset, .unset, .unset, .unset, .unset, .unset, .unset, .unset, .unset, .unset, .unset, .unset, .unset, .unset] [(.long p3)]))
  refine own_go (fun t k => XT.lload X0.here hx rfl (hb hby at_19) rfl k) ?_
  show own_End p e below s _ _ _ (s0.setTop (mkF m 21 #[.val (.long p1), .second, .val (.long p2), .second, .val (.long p3), .second, .val (.long p4), .second, .val (.long (2305843009213693951 : Int64)), .second, .val (.long w200), .second, .val (.long w201), .second, .unset, .unset, .unset, .unset, .unset, .unset, .unset, .unset, .unset, .unset, .unset, .unset, .unset, .unset, .unset, .unset, .unset] [(.long (2305843009213693951 : Int64)), (.long p3)]))
  refine own_go (fun t k => XT.land X0.here hx rfl (hb hby at_21) rfl k) ?_
  show own_End p e below s _ _ _ (s0.setTop (mkF m 22 #[.val (.long p1), .second, .val (.long p2), .second, .val (.long p3), .second, .val (.long p4), .second, .val (.long (2305843009213693951 : Int64)), .second, .val (.long w200), .second, .val (.long w201), .second, .unset, .unset, .unset, .unset, .unset, .unset, .unset, .unset, .unset, .unset, .unset, .unset, .unset, .unset, .unset, .unset, .unset] [(.long (p3 &&& (2305843009213693951 : Int64)))]))
  refine own_go (fun t k => XT.lconst X0.here hx rfl (hb hby at_22) k) ?_
  show own_End p e below s _ _ _ (s0.setTop (mkF m 23 #[.val (.long p1), .second, .val (.long p2), .second, .val (.long p3), .second, .val (.long p4), .second, .val (.long (2305843009213693951 : Int64)), .second, .val (.long w200), .second, .val (.long w201), .second, .unset, .unset, .unset, .unset, .unset, .unset, .unset, .unset, .unset, .unset, .unset, .unset, .unset, .unset, .unset, .unset, .unset] [(.long (1 : Int64)), (.long (p3 &&& (2305843009213693951 : Int64)))]))
  refine own_go (fun t k => XT.ladd X0.here hx rfl (hb hby at_23) rfl k) ?_
  show own_End p e below s _ _ _ (s0.setTop (mkF m 24 #[.val (.long p1), .second, .val (.long p2), .second, .val (.long p3), .second, .val (.long p4), .second, .val (.long (2305843009213693951 : Int64)), .second, .val (.long w200), .second, .val (.long w201), .second, .unset, .unset, .unset, .unset, .unset, .unset, .unset, .unset, .unset, .unset, .unset, .unset, .unset, .unset, .unset, .unset, .unset] [(.long ((p3 &&& (2305843009213693951 : Int64)) + (1 : Int64)))]))
  obtain ⟨w202, qw202⟩ : ∃ z : Int64, z = ((p3 &&& (2305843009213693951 : Int64)) + (1 : Int64)) := ⟨_, rfl⟩
  rw [← qw202]
  show own_End p e below s _ _ _ (s0.setTop (mkF m 24 #[.val (.long p1), .second, .val (.long p2), .second, .val (.long p3), .second, .val (.long p4), .second, .val (.long (2305843009213693951 : Int64)), .second, .val (.long w200), .second, .val (.long w201), .second, .unset, .unset, .unset, .unset, .unset, .unset, .unset, .unset, .unset, .unset, .unset, .unset, .unset, .unset, .unset, .unset, .unset] [(.long w202)]))
  have r0 : 0 ≤ w200.toInt ∧ w200.toInt < 2305843009213693952 := by rw [qw200]; have := c_maskL p1 2305843009213693951 61 (by decide) (by decide); omega
  have r1 : 0 ≤ w201.toInt ∧ w201.toInt < 2305843009213693952 := by rw [qw201]; have := c_maskL p2 2305843009213693951 61 (by decide) (by decide); omega
  have r2 : 1 ≤ w202.toInt ∧ w202.toInt ≤ 2305843009213693952 := by
    have h1 := c_maskL p3 2305843009213693951 61 (by decide) (by decide)
    have e1 : (1 : Int64).toInt = 1 := by decide
    rw [qw202, own_addJ (by omega) (by omega)]; omega
  have hs1 : (w200 + w201).toInt = w200.toInt + w201.toInt := own_addJ (by omega) (by omega)
  have hs2 : ((w200 + w201) + w202).toInt = w200.toInt + w201.toInt + w202.toInt := by rw [own_addJ (by omega) (by omega), hs1]
  refine own_go (fun t k => XT.lstore X0.here hx rfl (hb hby at_24) rfl (l' := #[.val (.long p1), .second, .val (.long p2), .second, .val (.long p3), .second, .val (.long p4), .second, .val (.long (2305843009213693951 : Int64)), .second, .val (.long w200), .second, .val (.long w201), .second, .val (.long w202), .second, .unset, .unset, .unset, .unset, .unset, .unset, .unset, .unset, .unset, .unset, .unset, .unset, .unset, .unset, .unset]) rfl k) ?_
  show own_End p e below s _ _ _ (s0.setTop (mkF m 26 #[.val (.long p1), .second, .val (.long p2), .second, .val (.long p3), .second, .val (.long p4), .second, .val (.long (2305843009213693951 : Int64)), .second, .val (.long w200), .second, .val (.long w201), .second, .val (.long w202), .second, .unset, .unset, .unset, .unset, .unset, .unset, .unset, .unset, .unset, .unset, .unset, .unset, .unset, .unset, .unset] []))
  refine own_go (fun t k => XT.lload X0.here hx rfl (hb hby at_26) rfl k) ?_
  show own_End p e below s _ _ _ (s0.setTop (mkF m 28 #[.val (.long p1), .second, .val (.long p2), .second, .val (.long p3), .second, .val (.long p4), .second, .val (.long (2305843009213693951 : Int64)), .second, .val (.long w200), .second, .val (.long w201), .second, .val (.long w202), .second, .unset, .unset, .unset, .unset, .unset, .unset, .unset, .unset, .unset, .unset, .unset, .unset, .unset, .unset, .unset] [(.long w200)]))
  refine own_go (fun t k => XT.lload X0.here hx rfl (hb hby at_28) rfl k) ?_
  show own_End p e below s _ _ _ (s0.setTop (mkF m 30 #[.val (.long p1), .second, .val (.long p2), .second, .val (.long p3), .second, .val (.long p4), .second, .val (.long (2305843009213693951 : Int64)), .second, .val (.long w200), .second, .val (.long w201), .second, .val (.long w202), .second, .unset, .unset, .unset, .unset, .unset, .unset, .unset, .unset, .unset, .unset, .unset, .unset, .unset, .unset, .unset] [(.long w201), (.long w200)]))
  refine own_go (fun t k => XT.ladd X0.here hx rfl (hb hby at_30) rfl k) ?_
  show own_End p e below s _ _ _ (s0.setTop (mkF m 31 #[.val (.long p1), .second, .val (.long p2), .second, .val (.long p3), .second, .val (.long p4), .second, .val (.long (2305843009213693951 : Int64)), .second, .val (.long w200), .second, .val (.long w201), .second, .val (.long w202), .second, .unset, .unset, .unset, .unset, .unset, .unset, .unset, .unset, .unset, .unset, .unset, .unset, .unset, .unset, .unset] [(.long (w200 + w201))]))
  refine own_go (fun t k => XT.lload X0.here hx rfl (hb hby at_31) rfl k) ?_
  show own_End p e below s _ _ _ (s0.setTop (mkF m 33 #[.val (.long p1), .second, .val (.long p2), .second, .val (.long p3), .second, .val (.long p4), .second, .val (.long (2305843009213693951 : Int64)), .second, .val (.long w200), .second, .val (.long w201), .second, .val (.long w202), .second, .unset, .unset, .unset, .unset, .unset, .unset, .unset, .unset, .unset, .unset, .unset, .unset, .unset, .unset, .unset] [(.long w202), (.long (w200 + w201))]))
  refine own_go (fun t k => XT.ladd X0.here hx rfl (hb hby at_33) rfl k) ?_
  show own_End p e below s _ _ _ (s0.setTop (mkF m 34 #[.val (.long p1), .second, .val (.long p2), .second, .val (.long p3), .second, .val (.long p4), .second, .val (.long (2305843009213693951 : Int64)), .second, .val (.long w200), .second, .val (.long w201), .second, .val (.long w202), .second, .unset, .unset, .unset, .unset, .unset, .unset, .unset, .unset, .unset, .unset, .unset, .unset, .unset, .unset, .unset] [(.long ((w200 + w201) + w202))]))
  refine own_go (fun t k => XT.lstore X0.here hx rfl (hb hby at_34) rfl (l' := #[.val (.long p1), .second, .val (.long p2), .second, .val (.long p3), .second, .val (.long p4), .second, .val (.long (2305843009213693951 : Int64)), .second, .val (.long w200), .second, .val (.long w201), .second, .val (.long w202), .second, .val (.long ((w200 + w201) + w202)), .second, .unset, .unset, .unset, .unset, .unset, .unset, .unset, .unset, .unset, .unset, .unset, .unset, .unset]) rfl k) ?_
  show own_End p e below s _ _ _ (s0.setTop (mkF m 36 #[.val (.long p1), .second, .val (.long p2), .second, .val (.long p3), .second, .val (.long p4), .second, .val (.long (2305843009213693951 : Int64)), .second, .val (.long w200), .second, .val (.long w201), .second, .val (.long w202), .second, .val (.long ((w200 + w201) + w202)), .second, .unset, .unset, .unset, .unset, .unset, .unset, .unset, .unset, .unset, .unset, .unset, .unset, .unset] []))
  refine own_go (fun t k => XT.lload X0.here hx rfl (hb hby at_36) rfl k) ?_
  show own_End p e below s _ _ _ (s0.setTop (mkF m 38 #[.val (.long p1), .second, .val (.long p2), .second, .val (.long p3), .second, .val (.long p4), .second, .val (.long (2305843009213693951 : Int64)), .second, .val (.long w200), .second, .val (.long w201), .second, .val (.long w202), .second, .val (.long ((w200 + w201) + w202)), .second, .unset, .unset, .unset, .unset, .unset, .unset, .unset, .unset, .unset, .unset, .unset, .unset, .unset] [(.long p4)]))
  refine own_go (X0.ldc2Long (own := "com/example/ordinate/ordinate/core/SortedSkipPinLaw") (index := 11) (v := 9223372036854775807) hx hown (mvT hZ (hw _ (List.mem_of_getElem? (i := 1) rfl))) (g := (mkF m 38 #[.val (.long p1), .second, .val (.long p2), .second, .val (.long p3), .second, .val (.long p4), .second, .val (.long (2305843009213693951 : Int64)), .second, .val (.long w200), .second, .val (.long w201), .second, .val (.long w202), .second, .val (.long ((w200 + w201) + w202)), .second, .unset, .unset, .unset, .unset, .unset, .unset, .unset, .unset, .unset, .unset, .unset, .unset, .unset] [(.long p4)])) rfl (hb hby at_38)) ?_
  show own_End p e below s _ _ _ (s0.setTop (mkF m 41 #[.val (.long p1), .second, .val (.long p2), .second, .val (.long p3), .second, .val (.long p4), .second, .val (.long (2305843009213693951 : Int64)), .second, .val (.long w200), .second, .val (.long w201), .second, .val (.long w202), .second, .val (.long ((w200 + w201) + w202)), .second, .unset, .unset, .unset, .unset, .unset, .unset, .unset, .unset, .unset, .unset, .unset, .unset, .unset] [(.long (9223372036854775807 : Int64)), (.long p4)]))
  refine own_go (fun t k => XT.land X0.here hx rfl (hb hby at_41) rfl k) ?_
  show own_End p e below s _ _ _ (s0.setTop (mkF m 42 #[.val (.long p1), .second, .val (.long p2), .second, .val (.long p3), .second, .val (.long p4), .second, .val (.long (2305843009213693951 : Int64)), .second, .val (.long w200), .second, .val (.long w201), .second, .val (.long w202), .second, .val (.long ((w200 + w201) + w202)), .second, .unset, .unset, .unset, .unset, .unset, .unset, .unset, .unset, .unset, .unset, .unset, .unset, .unset] [(.long (p4 &&& (9223372036854775807 : Int64)))]))
  refine own_go (fun t k => XT.lload X0.here hx rfl (hb hby at_42) rfl k) ?_
  show own_End p e below s _ _ _ (s0.setTop (mkF m 44 #[.val (.long p1), .second, .val (.long p2), .second, .val (.long p3), .second, .val (.long p4), .second, .val (.long (2305843009213693951 : Int64)), .second, .val (.long w200), .second, .val (.long w201), .second, .val (.long w202), .second, .val (.long ((w200 + w201) + w202)), .second, .unset, .unset, .unset, .unset, .unset, .unset, .unset, .unset, .unset, .unset, .unset, .unset, .unset] [(.long ((w200 + w201) + w202)), (.long (p4 &&& (9223372036854775807 : Int64)))]))
  have hnz : ((w200 + w201) + w202) ≠ 0 := fun z => by have := congrArg Int64.toInt z; have e0 : (0 : Int64).toInt = 0 := (by decide); omega
  refine own_go (fun t k => XT.lrem X0.here hx rfl (hb hby at_44) rfl hnz k) ?_
  show own_End p e below s _ _ _ (s0.setTop (mkF m 45 #[.val (.long p1), .second, .val (.long p2), .second, .val (.long p3), .second, .val (.long p4), .second, .val (.long (2305843009213693951 : Int64)), .second, .val (.long w200), .second, .val (.long w201), .second, .val (.long w202), .second, .val (.long ((w200 + w201) + w202)), .second, .unset, .unset, .unset, .unset, .unset, .unset, .unset, .unset, .unset, .unset, .unset, .unset, .unset] [(.long ((p4 &&& (9223372036854775807 : Int64)) - ((p4 &&& (9223372036854775807 : Int64)) / ((w200 + w201) + w202)) * ((w200 + w201) + w202)))]))
  obtain ⟨pl203, qpl203⟩ : ∃ z : Int64, z = ((p4 &&& (9223372036854775807 : Int64)) - ((p4 &&& (9223372036854775807 : Int64)) / ((w200 + w201) + w202)) * ((w200 + w201) + w202)) := ⟨_, rfl⟩
  rw [← qpl203]
  show own_End p e below s _ _ _ (s0.setTop (mkF m 45 #[.val (.long p1), .second, .val (.long p2), .second, .val (.long p3), .second, .val (.long p4), .second, .val (.long (2305843009213693951 : Int64)), .second, .val (.long w200), .second, .val (.long w201), .second, .val (.long w202), .second, .val (.long ((w200 + w201) + w202)), .second, .unset, .unset, .unset, .unset, .unset, .unset, .unset, .unset, .unset, .unset, .unset, .unset, .unset] [(.long pl203)]))
  have rp : 0 ≤ pl203.toInt ∧ pl203.toInt < w200.toInt + w201.toInt + w202.toInt := by
    have h1 := c_maskL p4 9223372036854775807 63 (by decide) (by decide)
    have h2 := (c_lrem (p4 &&& 9223372036854775807) ((w200 + w201) + w202) _ hs2).1 (by omega)
    rw [qpl203, h2]
    exact ⟨Int.emod_nonneg _ (by omega), Int.emod_lt_of_pos _ (by omega)⟩
  refine own_go (fun t k => XT.lstore X0.here hx rfl (hb hby at_45) rfl (l' := #[.val (.long p1), .second, .val (.long p2), .second, .val (.long p3), .second, .val (.long p4), .second, .val (.long (2305843009213693951 : Int64)), .second, .val (.long w200), .second, .val (.long w201), .second, .val (.long w202), .second, .val (.long ((w200 + w201) + w202)), .second, .val (.long pl203), .second, .unset, .unset, .unset, .unset, .unset, .unset, .unset, .unset, .unset, .unset, .unset]) rfl k) ?_
  show own_End p e below s _ _ _ (s0.setTop (mkF m 47 #[.val (.long p1), .second, .val (.long p2), .second, .val (.long p3), .second, .val (.long p4), .second, .val (.long (2305843009213693951 : Int64)), .second, .val (.long w200), .second, .val (.long w201), .second, .val (.long w202), .second, .val (.long ((w200 + w201) + w202)), .second, .val (.long pl203), .second, .unset, .unset, .unset, .unset, .unset, .unset, .unset, .unset, .unset, .unset, .unset] []))
  refine own_go (fun t k => XS.iconst X0.here hx rfl (hb hby at_47) k) ?_
  show own_End p e below s _ _ _ (s0.setTop (mkF m 48 #[.val (.long p1), .second, .val (.long p2), .second, .val (.long p3), .second, .val (.long p4), .second, .val (.long (2305843009213693951 : Int64)), .second, .val (.long w200), .second, .val (.long w201), .second, .val (.long w202), .second, .val (.long ((w200 + w201) + w202)), .second, .val (.long pl203), .second, .unset, .unset, .unset, .unset, .unset, .unset, .unset, .unset, .unset, .unset, .unset] [(.int (3 : Int32))]))
  obtain ⟨T204, h204, k204, X204, e204, E204, A204, st204⟩ := newP X0 hx hZ (hw _ (List.mem_of_getElem? (i := 2) rfl)) e0 (g := (mkF m 48 #[.val (.long p1), .second, .val (.long p2), .second, .val (.long p3), .second, .val (.long p4), .second, .val (.long (2305843009213693951 : Int64)), .second, .val (.long w200), .second, .val (.long w201), .second, .val (.long w202), .second, .val (.long ((w200 + w201) + w202)), .second, .val (.long pl203), .second, .unset, .unset, .unset, .unset, .unset, .unset, .unset, .unset, .unset, .unset, .unset] [(.int (3 : Int32))])) rfl (hb hby at_48) rfl (by decide) (cap := 3) (by decide) (by decide) (by decide) (by decide)
  obtain ⟨b204, gb204⟩ : ∃ z, z = h0.size := ⟨_, rfl⟩
  rw [← gb204] at A204 st204
  have F204 := own_F.new A204 (n := 3) (by decide) (by decide)
  have nb204 : n0 ≤ b204 := by rw [gb204]; exact Z0
  have Z204 : n0 ≤ h204.size := Nat.le_trans Z0 E204.1
  refine own_go st204 ?_
  show own_End p e below s _ _ _ (T204.setTop (mkF m 50 #[.val (.long p1), .second, .val (.long p2), .second, .val (.long p3), .second, .val (.long p4), .second, .val (.long (2305843009213693951 : Int64)), .second, .val (.long w200), .second, .val (.long w201), .second, .val (.long w202), .second, .val (.long ((w200 + w201) + w202)), .second, .val (.long pl203), .second, .unset, .unset, .unset, .unset, .unset, .unset, .unset, .unset, .unset, .unset, .unset] [(.ref b204)]))
  refine own_go (fun t k => XS.dup X204.here hx rfl (hb hby at_50) rfl rfl k) ?_
  show own_End p e below s _ _ _ (T204.setTop (mkF m 51 #[.val (.long p1), .second, .val (.long p2), .second, .val (.long p3), .second, .val (.long p4), .second, .val (.long (2305843009213693951 : Int64)), .second, .val (.long w200), .second, .val (.long w201), .second, .val (.long w202), .second, .val (.long ((w200 + w201) + w202)), .second, .val (.long pl203), .second, .unset, .unset, .unset, .unset, .unset, .unset, .unset, .unset, .unset, .unset, .unset] [(.ref b204), (.ref b204)]))
  refine own_go (fun t k => XS.iconst X204.here hx rfl (hb hby at_51) k) ?_
  show own_End p e below s _ _ _ (T204.setTop (mkF m 52 #[.val (.long p1), .second, .val (.long p2), .second, .val (.long p3), .second, .val (.long p4), .second, .val (.long (2305843009213693951 : Int64)), .second, .val (.long w200), .second, .val (.long w201), .second, .val (.long w202), .second, .val (.long ((w200 + w201) + w202)), .second, .val (.long pl203), .second, .unset, .unset, .unset, .unset, .unset, .unset, .unset, .unset, .unset, .unset, .unset] [(.int (0 : Int32)), (.ref b204), (.ref b204)]))
  refine own_go (fun t k => XS.bipush X204.here hx rfl (hb hby at_52) k) ?_
  show own_End p e below s _ _ _ (T204.setTop (mkF m 54 #[.val (.long p1), .second, .val (.long p2), .second, .val (.long p3), .second, .val (.long p4), .second, .val (.long (2305843009213693951 : Int64)), .second, .val (.long w200), .second, .val (.long w201), .second, .val (.long w202), .second, .val (.long ((w200 + w201) + w202)), .second, .val (.long pl203), .second, .unset, .unset, .unset, .unset, .unset, .unset, .unset, .unset, .unset, .unset, .unset] [(.int (7 : Int32)), (.int (0 : Int32)), (.ref b204), (.ref b204)]))
  obtain ⟨T205, h205, X205, e205, W205, F205, st205⟩ := own_fstI X204 hx hZ e204 F204 (j := (0 : Int32)) (x := (7 : Int32)) 0 (by decide) (by decide) (pc := 54) (Ls := #[.val (.long p1), .second, .val (.long p2), .second, .val (.long p3), .second, .val (.long p4), .second, .val (.long (2305843009213693951 : Int64)), .second, .val (.long w200), .second, .val (.long w201), .second, .val (.long w202), .second, .val (.long ((w200 + w201) + w202)), .second, .val (.long pl203), .second, .unset, .unset, .unset, .unset, .unset, .unset, .unset, .unset, .unset, .unset, .unset]) (rest := [(.ref b204)]) (hb hby at_54)
  have N205 := Fr.snoc X205 N0 nb204
  have Z205 : n0 ≤ h205.size := by rw [W205.size]; exact Z204
  refine own_go st205 ?_
  show own_End p e below s _ _ _ (T205.setTop (mkF m 55 #[.val (.long p1), .second, .val (.long p2), .second, .val (.long p3), .second, .val (.long p4), .second, .val (.long (2305843009213693951 : Int64)), .second, .val (.long w200), .second, .val (.long w201), .second, .val (.long w202), .second, .val (.long ((w200 + w201) + w202)), .second, .val (.long pl203), .second, .unset, .unset, .unset, .unset, .unset, .unset, .unset, .unset, .unset, .unset, .unset] [(.ref b204)]))
  refine own_go (fun t k => XS.dup X205.here hx rfl (hb hby at_55) rfl rfl k) ?_
  show own_End p e below s _ _ _ (T205.setTop (mkF m 56 #[.val (.long p1), .second, .val (.long p2), .second, .val (.long p3), .second, .val (.long p4), .second, .val (.long (2305843009213693951 : Int64)), .second, .val (.long w200), .second, .val (.long w201), .second, .val (.long w202), .second, .val (.long ((w200 + w201) + w202)), .second, .val (.long pl203), .second, .unset, .unset, .unset, .unset, .unset, .unset, .unset, .unset, .unset, .unset, .unset] [(.ref b204), (.ref b204)]))
  refine own_go (fun t k => XS.iconst X205.here hx rfl (hb hby at_56) k) ?_
  show own_End p e below s _ _ _ (T205.setTop (mkF m 57 #[.val (.long p1), .second, .val (.long p2), .second, .val (.long p3), .second, .val (.long p4), .second, .val (.long (2305843009213693951 : Int64)), .second, .val (.long w200), .second, .val (.long w201), .second, .val (.long w202), .second, .val (.long ((w200 + w201) + w202)), .second, .val (.long pl203), .second, .unset, .unset, .unset, .unset, .unset, .unset, .unset, .unset, .unset, .unset, .unset] [(.int (1 : Int32)), (.ref b204), (.ref b204)]))
  refine own_go (fun t k => XS.bipush X205.here hx rfl (hb hby at_57) k) ?_
  show own_End p e below s _ _ _ (T205.setTop (mkF m 59 #[.val (.long p1), .second, .val (.long p2), .second, .val (.long p3), .second, .val (.long p4), .second, .val (.long (2305843009213693951 : Int64)), .second, .val (.long w200), .second, .val (.long w201), .second, .val (.long w202), .second, .val (.long ((w200 + w201) + w202)), .second, .val (.long pl203), .second, .unset, .unset, .unset, .unset, .unset, .unset, .unset, .unset, .unset, .unset, .unset] [(.int (8 : Int32)), (.int (1 : Int32)), (.ref b204), (.ref b204)]))
  obtain ⟨T207, h207, X207, e207, W207, F207, st207⟩ := own_fstI X205 hx hZ e205 F205 (j := (1 : Int32)) (x := (8 : Int32)) 1 (by decide) (by decide) (pc := 59) (Ls := #[.val (.long p1), .second, .val (.long p2), .second, .val (.long p3), .second, .val (.long p4), .second, .val (.long (2305843009213693951 : Int64)), .second, .val (.long w200), .second, .val (.long w201), .second, .val (.long w202), .second, .val (.long ((w200 + w201) + w202)), .second, .val (.long pl203), .second, .unset, .unset, .unset, .unset, .unset, .unset, .unset, .unset, .unset, .unset, .unset]) (rest := [(.ref b204)]) (hb hby at_59)
  have N207 := Fr.snoc X207 N205 nb204
  have Z207 : n0 ≤ h207.size := by rw [W207.size]; exact Z205
  refine own_go st207 ?_
  show own_End p e below s _ _ _ (T207.setTop (mkF m 60 #[.val (.long p1), .second, .val (.long p2), .second, .val (.long p3), .second, .val (.long p4), .second, .val (.long (2305843009213693951 : Int64)), .second, .val (.long w200), .second, .val (.long w201), .second, .val (.long w202), .second, .val (.long ((w200 + w201) + w202)), .second, .val (.long pl203), .second, .unset, .unset, .unset, .unset, .unset, .unset, .unset, .unset, .unset, .unset, .unset] [(.ref b204)]))
  refine own_go (fun t k => XS.dup X207.here hx rfl (hb hby at_60) rfl rfl k) ?_
  show own_End p e below s _ _ _ (T207.setTop (mkF m 61 #[.val (.long p1), .second, .val (.long p2), .second, .val (.long p3), .second, .val (.long p4), .second, .val (.long (2305843009213693951 : Int64)), .second, .val (.long w200), .second, .val (.long w201), .second, .val (.long w202), .second, .val (.long ((w200 + w201) + w202)), .second, .val (.long pl203), .second, .unset, .unset, .unset, .unset, .unset, .unset, .unset, .unset, .unset, .unset, .unset] [(.ref b204), (.ref b204)]))
  refine own_go (fun t k => XS.iconst X207.here hx rfl (hb hby at_61) k) ?_
  show own_End p e below s _ _ _ (T207.setTop (mkF m 62 #[.val (.long p1), .second, .val (.long p2), .second, .val (.long p3), .second, .val (.long p4), .second, .val (.long (2305843009213693951 : Int64)), .second, .val (.long w200), .second, .val (.long w201), .second, .val (.long w202), .second, .val (.long ((w200 + w201) + w202)), .second, .val (.long pl203), .second, .unset, .unset, .unset, .unset, .unset, .unset, .unset, .unset, .unset, .unset, .unset] [(.int (2 : Int32)), (.ref b204), (.ref b204)]))
  refine own_go (fun t k => XS.bipush X207.here hx rfl (hb hby at_62) k) ?_
  show own_End p e below s _ _ _ (T207.setTop (mkF m 64 #[.val (.long p1), .second, .val (.long p2), .second, .val (.long p3), .second, .val (.long p4), .second, .val (.long (2305843009213693951 : Int64)), .second, .val (.long w200), .second, .val (.long w201), .second, .val (.long w202), .second, .val (.long ((w200 + w201) + w202)), .second, .val (.long pl203), .second, .unset, .unset, .unset, .unset, .unset, .unset, .unset, .unset, .unset, .unset, .unset] [(.int (9 : Int32)), (.int (2 : Int32)), (.ref b204), (.ref b204)]))
  obtain ⟨T209, h209, X209, e209, W209, F209, st209⟩ := own_fstI X207 hx hZ e207 F207 (j := (2 : Int32)) (x := (9 : Int32)) 2 (by decide) (by decide) (pc := 64) (Ls := #[.val (.long p1), .second, .val (.long p2), .second, .val (.long p3), .second, .val (.long p4), .second, .val (.long (2305843009213693951 : Int64)), .second, .val (.long w200), .second, .val (.long w201), .second, .val (.long w202), .second, .val (.long ((w200 + w201) + w202)), .second, .val (.long pl203), .second, .unset, .unset, .unset, .unset, .unset, .unset, .unset, .unset, .unset, .unset, .unset]) (rest := [(.ref b204)]) (hb hby at_64)
  have N209 := Fr.snoc X209 N207 nb204
  have Z209 : n0 ≤ h209.size := by rw [W209.size]; exact Z207
  refine own_go st209 ?_
  show own_End p e below s _ _ _ (T209.setTop (mkF m 65 #[.val (.long p1), .second, .val (.long p2), .second, .val (.long p3), .second, .val (.long p4), .second, .val (.long (2305843009213693951 : Int64)), .second, .val (.long w200), .second, .val (.long w201), .second, .val (.long w202), .second, .val (.long ((w200 + w201) + w202)), .second, .val (.long pl203), .second, .unset, .unset, .unset, .unset, .unset, .unset, .unset, .unset, .unset, .unset, .unset] [(.ref b204)]))
  have f211 := own_F.cong F209 (g := (own_i3 7 8 9)) (fun i hi => by match i, hi with | 0, _ => rfl | 1, _ => rfl | 2, _ => rfl)
  refine own_go (fun t k => XS.astore X209.here hx rfl (hb hby at_65) rfl rfl (l' := #[.val (.long p1), .second, .val (.long p2), .second, .val (.long p3), .second, .val (.long p4), .second, .val (.long (2305843009213693951 : Int64)), .second, .val (.long w200), .second, .val (.long w201), .second, .val (.long w202), .second, .val (.long ((w200 + w201) + w202)), .second, .val (.long pl203), .second, .val (.ref b204), .unset, .unset, .unset, .unset, .unset, .unset, .unset, .unset, .unset, .unset]) rfl k) ?_
  show own_End p e below s _ _ _ (T209.setTop (mkF m 67 #[.val (.long p1), .second, .val (.long p2), .second, .val (.long p3), .second, .val (.long p4), .second, .val (.long (2305843009213693951 : Int64)), .second, .val (.long w200), .second, .val (.long w201), .second, .val (.long w202), .second, .val (.long ((w200 + w201) + w202)), .second, .val (.long pl203), .second, .val (.ref b204), .unset, .unset, .unset, .unset, .unset, .unset, .unset, .unset, .unset, .unset] []))
  refine own_go (fun t k => XS.iconst X209.here hx rfl (hb hby at_67) k) ?_
  show own_End p e below s _ _ _ (T209.setTop (mkF m 68 #[.val (.long p1), .second, .val (.long p2), .second, .val (.long p3), .second, .val (.long p4), .second, .val (.long (2305843009213693951 : Int64)), .second, .val (.long w200), .second, .val (.long w201), .second, .val (.long w202), .second, .val (.long ((w200 + w201) + w202)), .second, .val (.long pl203), .second, .val (.ref b204), .unset, .unset, .unset, .unset, .unset, .unset, .unset, .unset, .unset, .unset] [(.int (3 : Int32))]))
  obtain ⟨T212, h212, k212, X212, e212, E212, A212, st212⟩ := newP X209 hx hZ (hw _ (List.mem_of_getElem? (i := 2) rfl)) e209 (g := (mkF m 68 #[.val (.long p1), .second, .val (.long p2), .second, .val (.long p3), .second, .val (.long p4), .second, .val (.long (2305843009213693951 : Int64)), .second, .val (.long w200), .second, .val (.long w201), .second, .val (.long w202), .second, .val (.long ((w200 + w201) + w202)), .second, .val (.long pl203), .second, .val (.ref b204), .unset, .unset, .unset, .unset, .unset, .unset, .unset, .unset, .unset, .unset] [(.int (3 : Int32))])) rfl (hb hby at_68) rfl (by decide) (cap := 3) (by decide) (by decide) (by decide) (by decide)
  obtain ⟨b212, gb212⟩ : ∃ z, z = h209.size := ⟨_, rfl⟩
  rw [← gb212] at A212 st212
  have F212 := own_F.new A212 (n := 3) (by decide) (by decide)
  have nb212 : n0 ≤ b212 := by rw [gb212]; exact Z209
  have Z212 : n0 ≤ h212.size := Nat.le_trans Z209 E212.1
  have lt_b204_b212 : @LT.lt Nat _ b204 b212 := Nat.lt_of_lt_of_le f211.lt (Nat.le_of_eq gb212.symm)
  have f213 := f211.ext E212
  refine own_go st212 ?_
  show own_End p e below s _ _ _ (T212.setTop (mkF m 70 #[.val (.long p1), .second, .val (.long p2), .second, .val (.long p3), .second, .val (.long p4), .second, .val (.long (2305843009213693951 : Int64)), .second, .val (.long w200), .second, .val (.long w201), .second, .val (.long w202), .second, .val (.long ((w200 + w201) + w202)), .second, .val (.long pl203), .second, .val (.ref b204), .unset, .unset, .unset, .unset, .unset, .unset, .unset, .unset, .unset, .unset] [(.ref b212)]))
  refine own_go (fun t k => XS.dup X212.here hx rfl (hb hby at_70) rfl rfl k) ?_
  show own_End p e below s _ _ _ (T212.setTop (mkF m 71 #[.val (.long p1), .second, .val (.long p2), .second, .val (.long p3), .second, .val (.long p4), .second, .val (.long (2305843009213693951 : Int64)), .second, .val (.long w200), .second, .val (.long w201), .second, .val (.long w202), .second, .val (.long ((w200 + w201) + w202)), .second, .val (.long pl203), .second, .val (.ref b204), .unset, .unset, .unset, .unset, .unset, .unset, .unset, .unset, .unset, .unset] [(.ref b212), (.ref b212)]))
  refine own_go (fun t k => XS.iconst X212.here hx rfl (hb hby at_71) k) ?_
  show own_End p e below s _ _ _ (T212.setTop (mkF m 72 #[.val (.long p1), .second, .val (.long p2), .second, .val (.long p3), .second, .val (.long p4), .second, .val (.long (2305843009213693951 : Int64)), .second, .val (.long w200), .second, .val (.long w201), .second, .val (.long w202), .second, .val (.long ((w200 + w201) + w202)), .second, .val (.long pl203), .second, .val (.ref b204), .unset, .unset, .unset, .unset, .unset, .unset, .unset, .unset, .unset, .unset] [(.int (0 : Int32)), (.ref b212), (.ref b212)]))
  refine own_go (fun t k => XS.iconst X212.here hx rfl (hb hby at_72) k) ?_
  show own_End p e below s _ _ _ (T212.setTop (mkF m 73 #[.val (.long p1), .second, .val (.long p2), .second, .val (.long p3), .second, .val (.long p4), .second, .val (.long (2305843009213693951 : Int64)), .second, .val (.long w200), .second, .val (.long w201), .second, .val (.long w202), .second, .val (.long ((w200 + w201) + w202)), .second, .val (.long pl203), .second, .val (.ref b204), .unset, .unset, .unset, .unset, .unset, .unset, .unset, .unset, .unset, .unset] [(.int (4 : Int32)), (.int (0 : Int32)), (.ref b212), (.ref b212)]))
  obtain ⟨T214, h214, X214, e214, W214, F214, st214⟩ := own_fstI X212 hx hZ e212 F212 (j := (0 : Int32)) (x := (4 : Int32)) 0 (by decide) (by decide) (pc := 73) (Ls := #[.val (.long p1), .second, .val (.long p2), .second, .val (.long p3), .second, .val (.long p4), .second, .val (.long (2305843009213693951 : Int64)), .second, .val (.long w200), .second, .val (.long w201), .second, .val (.long w202), .second, .val (.long ((w200 + w201) + w202)), .second, .val (.long pl203), .second, .val (.ref b204), .unset, .unset, .unset, .unset, .unset, .unset, .unset, .unset, .unset, .unset]) (rest := [(.ref b212)]) (hb hby at_73)
  have N214 := Fr.snoc X214 N209 nb212
  have Z214 : n0 ≤ h214.size := by rw [W214.size]; exact Z212
  refine own_go st214 ?_
  have f215 := f213.other W214 (Nat.ne_of_lt lt_b204_b212)
  show own_End p e below s _ _ _ (T214.setTop (mkF m 74 #[.val (.long p1), .second, .val (.long p2), .second, .val (.long p3), .second, .val (.long p4), .second, .val (.long (2305843009213693951 : Int64)), .second, .val (.long w200), .second, .val (.long w201), .second, .val (.long w202), .second, .val (.long ((w200 + w201) + w202)), .second, .val (.long pl203), .second, .val (.ref b204), .unset, .unset, .unset, .unset, .unset, .unset, .unset, .unset, .unset, .unset] [(.ref b212)]))
  refine own_go (fun t k => XS.dup X214.here hx rfl (hb hby at_74) rfl rfl k) ?_
  show own_End p e below s _ _ _ (T214.setTop (mkF m 75 #[.val (.long p1), .second, .val (.long p2), .second, .val (.long p3), .second, .val (.long p4), .second, .val (.long (2305843009213693951 : Int64)), .second, .val (.long w200), .second, .val (.long w201), .second, .val (.long w202), .second, .val (.long ((w200 + w201) + w202)), .second, .val (.long pl203), .second, .val (.ref b204), .unset, .unset, .unset, .unset, .unset, .unset, .unset, .unset, .unset, .unset] [(.ref b212), (.ref b212)]))
  refine own_go (fun t k => XS.iconst X214.here hx rfl (hb hby at_75) k) ?_
  show own_End p e below s _ _ _ (T214.setTop (mkF m 76 #[.val (.long p1), .second, .val (.long p2), .second, .val (.long p3), .second, .val (.long p4), .second, .val (.long (2305843009213693951 : Int64)), .second, .val (.long w200), .second, .val (.long w201), .second, .val (.long w202), .second, .val (.long ((w200 + w201) + w202)), .second, .val (.long pl203), .second, .val (.ref b204), .unset, .unset, .unset, .unset, .unset, .unset, .unset, .unset, .unset, .unset] [(.int (1 : Int32)), (.ref b212), (.ref b212)]))
  refine own_go (fun t k => XS.iconst X214.here hx rfl (hb hby at_76) k) ?_
  show own_End p e below s _ _ _ (T214.setTop (mkF m 77 #[.val (.long p1), .second, .val (.long p2), .second, .val (.long p3), .second, .val (.long p4), .second, .val (.long (2305843009213693951 : Int64)), .second, .val (.long w200), .second, .val (.long w201), .second, .val (.long w202), .second, .val (.long ((w200 + w201) + w202)), .second, .val (.long pl203), .second, .val (.ref b204), .unset, .unset, .unset, .unset, .unset, .unset, .unset, .unset, .unset, .unset] [(.int (5 : Int32)), (.int (1 : Int32)), (.ref b212), (.ref b212)]))
  obtain ⟨T217, h217, X217, e217, W217, F217, st217⟩ := own_fstI X214 hx hZ e214 F214 (j := (1 : Int32)) (x := (5 : Int32)) 1 (by decide) (by decide) (pc := 77) (Ls := #[.val (.long p1), .second, .val (.long p2), .second, .val (.long p3), .second, .val (.long p4), .second, .val (.long (2305843009213693951 : Int64)), .second, .val (.long w200), .second, .val (.long w201), .second, .val (.long w202), .second, .val (.long ((w200 + w201) + w202)), .second, .val (.long pl203), .second, .val (.ref b204), .unset, .unset, .unset, .unset, .unset, .unset, .unset, .unset, .unset, .unset]) (rest := [(.ref b212)]) (hb hby at_77)
  have N217 := Fr.snoc X217 N214 nb212
  have Z217 : n0 ≤ h217.size := by rw [W217.size]; exact Z214
  refine own_go st217 ?_
  have f218 := f215.other W217 (Nat.ne_of_lt lt_b204_b212)
  show own_End p e below s _ _ _ (T217.setTop (mkF m 78 #[.val (.long p1), .second, .val (.long p2), .second, .val (.long p3), .second, .val (.long p4), .second, .val (.long (2305843009213693951 : Int64)), .second, .val (.long w200), .second, .val (.long w201), .second, .val (.long w202), .second, .val (.long ((w200 + w201) + w202)), .second, .val (.long pl203), .second, .val (.ref b204), .unset, .unset, .unset, .unset, .unset, .unset, .unset, .unset, .unset, .unset] [(.ref b212)]))
  refine own_go (fun t k => XS.dup X217.here hx rfl (hb hby at_78) rfl rfl k) ?_
  show own_End p e below s _ _ _ (T217.setTop (mkF m 79 #[.val (.long p1), .second, .val (.long p2), .second, .val (.long p3), .second, .val (.long p4), .second, .val (.long (2305843009213693951 : Int64)), .second, .val (.long w200), .second, .val (.long w201), .second, .val (.long w202), .second, .val (.long ((w200 + w201) + w202)), .second, .val (.long pl203), .second, .val (.ref b204), .unset, .unset, .unset, .unset, .unset, .unset, .unset, .unset, .unset, .unset] [(.ref b212), (.ref b212)]))
  refine own_go (fun t k => XS.iconst X217.here hx rfl (hb hby at_79) k) ?_
  show own_End p e below s _ _ _ (T217.setTop (mkF m 80 #[.val (.long p1), .second, .val (.long p2), .second, .val (.long p3), .second, .val (.long p4), .second, .val (.long (2305843009213693951 : Int64)), .second, .val (.long w200), .second, .val (.long w201), .second, .val (.long w202), .second, .val (.long ((w200 + w201) + w202)), .second, .val (.long pl203), .second, .val (.ref b204), .unset, .unset, .unset, .unset, .unset, .unset, .unset, .unset, .unset, .unset] [(.int (2 : Int32)), (.ref b212), (.ref b212)]))
  refine own_go (fun t k => XS.bipush X217.here hx rfl (hb hby at_80) k) ?_
  show own_End p e below s _ _ _ (T217.setTop (mkF m 82 #[.val (.long p1), .second, .val (.long p2), .second, .val (.long p3), .second, .val (.long p4), .second, .val (.long (2305843009213693951 : Int64)), .second, .val (.long w200), .second, .val (.long w201), .second, .val (.long w202), .second, .val (.long ((w200 + w201) + w202)), .second, .val (.long pl203), .second, .val (.ref b204), .unset, .unset, .unset, .unset, .unset, .unset, .unset, .unset, .unset, .unset] [(.int (6 : Int32)), (.int (2 : Int32)), (.ref b212), (.ref b212)]))
  obtain ⟨T220, h220, X220, e220, W220, F220, st220⟩ := own_fstI X217 hx hZ e217 F217 (j := (2 : Int32)) (x := (6 : Int32)) 2 (by decide) (by decide) (pc := 82) (Ls := #[.val (.long p1), .second, .val (.long p2), .second, .val (.long p3), .second, .val (.long p4), .second, .val (.long (2305843009213693951 : Int64)), .second, .val (.long w200), .second, .val (.long w201), .second, .val (.long w202), .second, .val (.long ((w200 + w201) + w202)), .second, .val (.long pl203), .second, .val (.ref b204), .unset, .unset, .unset, .unset, .unset, .unset, .unset, .unset, .unset, .unset]) (rest := [(.ref b212)]) (hb hby at_82)
  have N220 := Fr.snoc X220 N217 nb212
  have Z220 : n0 ≤ h220.size := by rw [W220.size]; exact Z217
  refine own_go st220 ?_
  have f221 := f218.other W220 (Nat.ne_of_lt lt_b204_b212)
  show own_End p e below s _ _ _ (T220.setTop (mkF m 83 #[.val (.long p1), .second, .val (.long p2), .second, .val (.long p3), .second, .val (.long p4), .second, .val (.long (2305843009213693951 : Int64)), .second, .val (.long w200), .second, .val (.long w201), .second, .val (.long w202), .second, .val (.long ((w200 + w201) + w202)), .second, .val (.long pl203), .second, .val (.ref b204), .unset, .unset, .unset, .unset, .unset, .unset, .unset, .unset, .unset, .unset] [(.ref b212)]))
  have f223 := own_F.cong F220 (g := (own_i3 4 5 6)) (fun i hi => by match i, hi with | 0, _ => rfl | 1, _ => rfl | 2, _ => rfl)
  refine own_go (fun t k => XS.astore X220.here hx rfl (hb hby at_83) rfl rfl (l' := #[.val (.long p1), .second, .val (.long p2), .second, .val (.long p3), .second, .val (.long p4), .second, .val (.long (2305843009213693951 : Int64)), .second, .val (.long w200), .second, .val (.long w201), .second, .val (.long w202), .second, .val (.long ((w200 + w201) + w202)), .second, .val (.long pl203), .second, .val (.ref b204), .val (.ref b212), .unset, .unset, .unset, .unset, .unset, .unset, .unset, .unset, .unset]) rfl k) ?_
  show own_End p e below s _ _ _ (T220.setTop (mkF m 85 #[.val (.long p1), .second, .val (.long p2), .second, .val (.long p3), .second, .val (.long p4), .second, .val (.long (2305843009213693951 : Int64)), .second, .val (.long w200), .second, .val (.long w201), .second, .val (.long w202), .second, .val (.long ((w200 + w201) + w202)), .second, .val (.long pl203), .second, .val (.ref b204), .val (.ref b212), .unset, .unset, .unset, .unset, .unset, .unset, .unset, .unset, .unset] []))
  refine own_go (fun t k => XS.iconst X220.here hx rfl (hb hby at_85) k) ?_
  show own_End p e below s _ _ _ (T220.setTop (mkF m 86 #[.val (.long p1), .second, .val (.long p2), .second, .val (.long p3), .second, .val (.long p4), .second, .val (.long (2305843009213693951 : Int64)), .second, .val (.long w200), .second, .val (.long w201), .second, .val (.long w202), .second, .val (.long ((w200 + w201) + w202)), .second, .val (.long pl203), .second, .val (.ref b204), .val (.ref b212), .unset, .unset, .unset, .unset, .unset, .unset, .unset, .unset, .unset] [(.int (3 : Int32))]))
  obtain ⟨T224, h224, k224, X224, e224, E224, A224, st224⟩ := newP X220 hx hZ (hw _ (List.mem_of_getElem? (i := 3) rfl)) e220 (g := (mkF m 86 #[.val (.long p1), .second, .val (.long p2), .second, .val (.long p3), .second, .val (.long p4), .second, .val (.long (2305843009213693951 : Int64)), .second, .val (.long w200), .second, .val (.long w201), .second, .val (.long w202), .second, .val (.long ((w200 + w201) + w202)), .second, .val (.long pl203), .second, .val (.ref b204), .val (.ref b212), .unset, .unset, .unset, .unset, .unset, .unset, .unset, .unset, .unset] [(.int (3 : Int32))])) rfl (hb hby at_86) rfl (by decide) (cap := 3) (by decide) (by decide) (by decide) (by decide)
  obtain ⟨b224, gb224⟩ : ∃ z, z = h220.size := ⟨_, rfl⟩
  rw [← gb224] at A224 st224
  have F224 := own_F.new A224 (n := 3) (by decide) (by decide)
  have nb224 : n0 ≤ b224 := by rw [gb224]; exact Z220
  have Z224 : n0 ≤ h224.size := Nat.le_trans Z220 E224.1
  have lt_b204_b224 : @LT.lt Nat _ b204 b224 := Nat.lt_of_lt_of_le f221.lt (Nat.le_of_eq gb224.symm)
  have lt_b212_b224 : @LT.lt Nat _ b212 b224 := Nat.lt_of_lt_of_le f223.lt (Nat.le_of_eq gb224.symm)
  have f225 := f221.ext E224
  have f226 := f223.ext E224
  refine own_go st224 ?_
  show own_End p e below s _ _ _ (T224.setTop (mkF m 88 #[.val (.long p1), .second, .val (.long p2), .second, .val (.long p3), .second, .val (.long p4), .second, .val (.long (2305843009213693951 : Int64)), .second, .val (.long w200), .second, .val (.long w201), .second, .val (.long w202), .second, .val (.long ((w200 + w201) + w202)), .second, .val (.long pl203), .second, .val (.ref b204), .val (.ref b212), .unset, .unset, .unset, .unset, .unset, .unset, .unset, .unset, .unset] [(.ref b224)]))
  refine own_go (fun t k => XS.dup X224.here hx rfl (hb hby at_88) rfl rfl k) ?_
  show own_End p e below s _ _ _ (T224.setTop (mkF m 89 #[.val (.long p1), .second, .val (.long p2), .second, .val (.long p3), .second, .val (.long p4), .second, .val (.long (2305843009213693951 : Int64)), .second, .val (.long w200), .second, .val (.long w201), .second, .val (.long w202), .second, .val (.long ((w200 + w201) + w202)), .second, .val (.long pl203), .second, .val (.ref b204), .val (.ref b212), .unset, .unset, .unset, .unset, .unset, .unset, .unset, .unset, .unset] [(.ref b224), (.ref b224)]))
  refine own_go (fun t k => XS.iconst X224.here hx rfl (hb hby at_89) k) ?_
  show own_End p e below s _ _ _ (T224.setTop (mkF m 90 #[.val (.long p1), .second, .val (.long p2), .second, .val (.long p3), .second, .val (.long p4), .second, .val (.long (2305843009213693951 : Int64)), .second, .val (.long w200), .second, .val (.long w201), .second, .val (.long w202), .second, .val (.long ((w200 + w201) + w202)), .second, .val (.long pl203), .second, .val (.ref b204), .val (.ref b212), .unset, .unset, .unset, .unset, .unset, .unset, .unset, .unset, .unset] [(.int (0 : Int32)), (.ref b224), (.ref b224)]))
  refine own_go (fun t k => XT.lload X224.here hx rfl (hb hby at_90) rfl k) ?_
  show own_End p e below s _ _ _ (T224.setTop (mkF m 92 #[.val (.long p1), .second, .val (.long p2), .second, .val (.long p3), .second, .val (.long p4), .second, .val (.long (2305843009213693951 : Int64)), .second, .val (.long w200), .second, .val (.long w201), .second, .val (.long w202), .second, .val (.long ((w200 + w201) + w202)), .second, .val (.long pl203), .second, .val (.ref b204), .val (.ref b212), .unset, .unset, .unset, .unset, .unset, .unset, .unset, .unset, .unset] [(.long w200), (.int (0 : Int32)), (.ref b224), (.ref b224)]))
  obtain ⟨T227, h227, X227, e227, W227, F227, st227⟩ := own_fstJ X224 hx hZ e224 F224 (j := (0 : Int32)) (y := w200) 0 (by decide) (by decide) (pc := 92) (Ls := #[.val (.long p1), .second, .val (.long p2), .second, .val (.long p3), .second, .val (.long p4), .second, .val (.long (2305843009213693951 : Int64)), .second, .val (.long w200), .second, .val (.long w201), .second, .val (.long w202), .second, .val (.long ((w200 + w201) + w202)), .second, .val (.long pl203), .second, .val (.ref b204), .val (.ref b212), .unset, .unset, .unset, .unset, .unset, .unset, .unset, .unset, .unset]) (rest := [(.ref b224)]) (hb hby at_92)
  have N227 := Fr.snoc X227 N220 nb224
  have Z227 : n0 ≤ h227.size := by rw [W227.size]; exact Z224
  refine own_go st227 ?_
  have f228 := f225.other W227 (Nat.ne_of_lt lt_b204_b224)
  have f229 := f226.other W227 (Nat.ne_of_lt lt_b212_b224)
  show own_End p e below s _ _ _ (T227.setTop (mkF m 93 #[.val (.long p1), .second, .val (.long p2), .second, .val (.long p3), .second, .val (.long p4), .second, .val (.long (2305843009213693951 : Int64)), .second, .val (.long w200), .second, .val (.long w201), .second, .val (.long w202), .second, .val (.long ((w200 + w201) + w202)), .second, .val (.long pl203), .second, .val (.ref b204), .val (.ref b212), .unset, .unset, .unset, .unset, .unset, .unset, .unset, .unset, .unset] [(.ref b224)]))
  refine own_go (fun t k => XS.dup X227.here hx rfl (hb hby at_93) rfl rfl k) ?_
  show own_End p e below s _ _ _ (T227.setTop (mkF m 94 #[.val (.long p1), .second, .val (.long p2), .second, .val (.long p3), .second, .val (.long p4), .second, .val (.long (2305843009213693951 : Int64)), .second, .val (.long w200), .second, .val (.long w201), .second, .val (.long w202), .second, .val (.long ((w200 + w201) + w202)), .second, .val (.long pl203), .second, .val (.ref b204), .val (.ref b212), .unset, .unset, .unset, .unset, .unset, .unset, .unset, .unset, .unset] [(.ref b224), (.ref b224)]))
  refine own_go (fun t k => XS.iconst X227.here hx rfl (hb hby at_94) k) ?_
  show own_End p e below s _ _ _ (T227.setTop (mkF m 95 #[.val (.long p1), .second, .val (.long p2), .second, .val (.long p3), .second, .val (.long p4), .second, .val (.long (2305843009213693951 : Int64)), .second, .val (.long w200), .second, .val (.long w201), .second, .val (.long w202), .second, .val (.long ((w200 + w201) + w202)), .second, .val (.long pl203), .second, .val (.ref b204), .val (.ref b212), .unset, .unset, .unset, .unset, .unset, .unset, .unset, .unset, .unset] [(.int (1 : Int32)), (.ref b224), (.ref b224)]))
  refine own_go (fun t k => XT.lload X227.here hx rfl (hb hby at_95) rfl k) ?_
  show own_End p e below s _ _ _ (T227.setTop (mkF m 97 #[.val (.long p1), .second, .val (.long p2), .second, .val (.long p3), .second, .val (.long p4), .second, .val (.long (2305843009213693951 : Int64)), .second, .val (.long w200), .second, .val (.long w201), .second, .val (.long w202), .second, .val (.long ((w200 + w201) + w202)), .second, .val (.long pl203), .second, .val (.ref b204), .val (.ref b212), .unset, .unset, .unset, .unset, .unset, .unset, .unset, .unset, .unset] [(.long w201), (.int (1 : Int32)), (.ref b224), (.ref b224)]))
  obtain ⟨T231, h231, X231, e231, W231, F231, st231⟩ := own_fstJ X227 hx hZ e227 F227 (j := (1 : Int32)) (y := w201) 1 (by decide) (by decide) (pc := 97) (Ls := #[.val (.long p1), .second, .val (.long p2), .second, .val (.long p3), .second, .val (.long p4), .second, .val (.long (2305843009213693951 : Int64)), .second, .val (.long w200), .second, .val (.long w201), .second, .val (.long w202), .second, .val (.long ((w200 + w201) + w202)), .second, .val (.long pl203), .second, .val (.ref b204), .val (.ref b212), .unset, .unset, .unset, .unset, .unset, .unset, .unset, .unset, .unset]) (rest := [(.ref b224)]) (hb hby at_97)
  have N231 := Fr.snoc X231 N227 nb224
  have Z231 : n0 ≤ h231.size := by rw [W231.size]; exact Z227
  refine own_go st231 ?_
  have f232 := f228.other W231 (Nat.ne_of_lt lt_b204_b224)
  have f233 := f229.other W231 (Nat.ne_of_lt lt_b212_b224)
  show own_End p e below s _ _ _ (T231.setTop (mkF m 98 #[.val (.long p1), .second, .val (.long p2), .second, .val (.long p3), .second, .val (.long p4), .second, .val (.long (2305843009213693951 : Int64)), .second, .val (.long w200), .second, .val (.long w201), .second, .val (.long w202), .second, .val (.long ((w200 + w201) + w202)), .second, .val (.long pl203), .second, .val (.ref b204), .val (.ref b212), .unset, .unset, .unset, .unset, .unset, .unset, .unset, .unset, .unset] [(.ref b224)]))
  refine own_go (fun t k => XS.dup X231.here hx rfl (hb hby at_98) rfl rfl k) ?_
  show own_End p e below s _ _ _ (T231.setTop (mkF m 99 #[.val (.long p1), .second, .val (.long p2), .second, .val (.long p3), .second, .val (.long p4), .second, .val (.long (2305843009213693951 : Int64)), .second, .val (.long w200), .second, .val (.long w201), .second, .val (.long w202), .second, .val (.long ((w200 + w201) + w202)), .second, .val (.long pl203), .second, .val (.ref b204), .val (.ref b212), .unset, .unset, .unset, .unset, .unset, .unset, .unset, .unset, .unset] [(.ref b224), (.ref b224)]))
  refine own_go (fun t k => XS.iconst X231.here hx rfl (hb hby at_99) k) ?_
  show own_End p e below s _ _ _ (T231.setTop (mkF m 100 #[.val (.long p1), .second, .val (.long p2), .second, .val (.long p3), .second, .val (.long p4), .second, .val (.long (2305843009213693951 : Int64)), .second, .val (.long w200), .second, .val (.long w201), .second, .val (.long w202), .second, .val (.long ((w200 + w201) + w202)), .second, .val (.long pl203), .second, .val (.ref b204), .val (.ref b212), .unset, .unset, .unset, .unset, .unset, .unset, .unset, .unset, .unset] [(.int (2 : Int32)), (.ref b224), (.ref b224)]))
  refine own_go (fun t k => XT.lload X231.here hx rfl (hb hby at_100) rfl k) ?_
  show own_End p e below s _ _ _ (T231.setTop (mkF m 102 #[.val (.long p1), .second, .val (.long p2), .second, .val (.long p3), .second, .val (.long p4), .second, .val (.long (2305843009213693951 : Int64)), .second, .val (.long w200), .second, .val (.long w201), .second, .val (.long w202), .second, .val (.long ((w200 + w201) + w202)), .second, .val (.long pl203), .second, .val (.ref b204), .val (.ref b212), .unset, .unset, .unset, .unset, .unset, .unset, .unset, .unset, .unset] [(.long w202), (.int (2 : Int32)), (.ref b224), (.ref b224)]))
  obtain ⟨T235, h235, X235, e235, W235, F235, st235⟩ := own_fstJ X231 hx hZ e231 F231 (j := (2 : Int32)) (y := w202) 2 (by decide) (by decide) (pc := 102) (Ls := #[.val (.long p1), .second, .val (.long p2), .second, .val (.long p3), .second, .val (.long p4), .second, .val (.long (2305843009213693951 : Int64)), .second, .val (.long w200), .second, .val (.long w201), .second, .val (.long w202), .second, .val (.long ((w200 + w201) + w202)), .second, .val (.long pl203), .second, .val (.ref b204), .val (.ref b212), .unset, .unset, .unset, .unset, .unset, .unset, .unset, .unset, .unset]) (rest := [(.ref b224)]) (hb hby at_102)
  have N235 := Fr.snoc X235 N231 nb224
  have Z235 : n0 ≤ h235.size := by rw [W235.size]; exact Z231
  refine own_go st235 ?_
  have f236 := f232.other W235 (Nat.ne_of_lt lt_b204_b224)
  have f237 := f233.other W235 (Nat.ne_of_lt lt_b212_b224)
  show own_End p e below s _ _ _ (T235.setTop (mkF m 103 #[.val (.long p1), .second, .val (.long p2), .second, .val (.long p3), .second, .val (.long p4), .second, .val (.long (2305843009213693951 : Int64)), .second, .val (.long w200), .second, .val (.long w201), .second, .val (.long w202), .second, .val (.long ((w200 + w201) + w202)), .second, .val (.long pl203), .second, .val (.ref b204), .val (.ref b212), .unset, .unset, .unset, .unset, .unset, .unset, .unset, .unset, .unset] [(.ref b224)]))
  have f239 := own_F.cong F235 (g := (own_w3 w200 w201 w202)) (fun i hi => by match i, hi with | 0, _ => rfl | 1, _ => rfl | 2, _ => rfl)
  refine own_go (fun t k => XS.astore X235.here hx rfl (hb hby at_103) rfl rfl (l' := #[.val (.long p1), .second, .val (.long p2), .second, .val (.long p3), .second, .val (.long p4), .second, .val (.long (2305843009213693951 : Int64)), .second, .val (.long w200), .second, .val (.long w201), .second, .val (.long w202), .second, .val (.long ((w200 + w201) + w202)), .second, .val (.long pl203), .second, .val (.ref b204), .val (.ref b212), .val (.ref b224), .unset, .unset, .unset, .unset, .unset, .unset, .unset, .unset]) rfl k) ?_
  show own_End p e below s _ _ _ (T235.setTop (mkF m 105 #[.val (.long p1), .second, .val (.long p2), .second, .val (.long p3), .second, .val (.long p4), .second, .val (.long (2305843009213693951 : Int64)), .second, .val (.long w200), .second, .val (.long w201), .second, .val (.long w202), .second, .val (.long ((w200 + w201) + w202)), .second, .val (.long pl203), .second, .val (.ref b204), .val (.ref b212), .val (.ref b224), .unset, .unset, .unset, .unset, .unset, .unset, .unset, .unset] []))
  obtain ⟨T240, h240, X240, e240, E240, A240, D240, -, st240⟩ := newO X235 hx hZ hown (hw _ (List.mem_of_getElem? (i := 4) rfl)) (hw _ (List.mem_of_getElem? (i := 5) rfl)) (hw _ (List.mem_of_getElem? (i := 6) rfl)) e235 (g := (mkF m 105 #[.val (.long p1), .second, .val (.long p2), .second, .val (.long p3), .second, .val (.long p4), .second, .val (.long (2305843009213693951 : Int64)), .second, .val (.long w200), .second, .val (.long w201), .second, .val (.long w202), .second, .val (.long ((w200 + w201) + w202)), .second, .val (.long pl203), .second, .val (.ref b204), .val (.ref b212), .val (.ref b224), .unset, .unset, .unset, .unset, .unset, .unset, .unset, .unset] [])) rfl (hb hby at_105) (by decide) (by decide)
  obtain ⟨b240, gb240⟩ : ∃ z, z = h235.size := ⟨_, rfl⟩
  rw [← gb240] at A240 D240 st240
  have nb240 : n0 ≤ b240 := by rw [gb240]; exact Z235
  have Z240 : n0 ≤ h240.size := Nat.le_trans Z235 E240.1
  have lt_b204_b240 : @LT.lt Nat _ b204 b240 := Nat.lt_of_lt_of_le f236.lt (Nat.le_of_eq gb240.symm)
  have lt_b212_b240 : @LT.lt Nat _ b212 b240 := Nat.lt_of_lt_of_le f237.lt (Nat.le_of_eq gb240.symm)
  have lt_b224_b240 : @LT.lt Nat _ b224 b240 := Nat.lt_of_lt_of_le f239.lt (Nat.le_of_eq gb240.symm)
  have f241 := f236.ext E240
  have f242 := f237.ext E240
  have f243 := f239.ext E240
  have f244 : Fld Z h240 b240 "com/example/ordinate/ordinate/core/PairBlocks$Sorted" "at" "I" (.int (0 : Int32)) := D240 (Or.inl (hw _ (List.mem_of_getElem? (i := 14) rfl))) (ty := .int) (by decide)
  have f245 : Fld Z h240 b240 "com/example/ordinate/ordinate/core/PairBlocks$Sorted" "xs" "[I" .null := D240 (Or.inr (hw _ (List.mem_of_getElem? (i := 16) rfl))) (ty := (.array .int)) (by decide)
  have f246 : Fld Z h240 b240 "com/example/ordinate/ordinate/core/PairBlocks$Sorted" "ys" "[I" .null := D240 (Or.inr (hw _ (List.mem_of_getElem? (i := 18) rfl))) (ty := (.array .int)) (by decide)
  have f247 : Fld Z h240 b240 "com/example/ordinate/ordinate/core/PairBlocks$Sorted" "weights" "[J" .null := D240 (Or.inr (hw _ (List.mem_of_getElem? (i := 20) rfl))) (ty := (.array .long)) (by decide)
  have f248 : Fld Z h240 b240 "com/example/ordinate/ordinate/core/PairBlocks$Sorted" "sorted" "[I" .null := D240 (Or.inr (hw _ (List.mem_of_getElem? (i := 26) rfl))) (ty := (.array .int)) (by decide)
  refine own_go st240 ?_
  show own_End p e below s _ _ _ (T240.setTop (mkF m 108 #[.val (.long p1), .second, .val (.long p2), .second, .val (.long p3), .second, .val (.long p4), .second, .val (.long (2305843009213693951 : Int64)), .second, .val (.long w200), .second, .val (.long w201), .second, .val (.long w202), .second, .val (.long ((w200 + w201) + w202)), .second, .val (.long pl203), .second, .val (.ref b204), .val (.ref b212), .val (.ref b224), .unset, .unset, .unset, .unset, .unset, .unset, .unset, .unset] [(.ref b240)]))
  refine own_go (fun t k => XS.dup X240.here hx rfl (hb hby at_108) rfl rfl k) ?_
  show own_End p e below s _ _ _ (T240.setTop (mkF m 109 #[.val (.long p1), .second, .val (.long p2), .second, .val (.long p3), .second, .val (.long p4), .second, .val (.long (2305843009213693951 : Int64)), .second, .val (.long w200), .second, .val (.long w201), .second, .val (.long w202), .second, .val (.long ((w200 + w201) + w202)), .second, .val (.long pl203), .second, .val (.ref b204), .val (.ref b212), .val (.ref b224), .unset, .unset, .unset, .unset, .unset, .unset, .unset, .unset] [(.ref b240), (.ref b240)]))
  refine own_go (fun t k => XS.aload X240.here hx rfl (hb hby at_109) rfl rfl k) ?_
  show own_End p e below s _ _ _ (T240.setTop (mkF m 111 #[.val (.long p1), .second, .val (.long p2), .second, .val (.long p3), .second, .val (.long p4), .second, .val (.long (2305843009213693951 : Int64)), .second, .val (.long w200), .second, .val (.long w201), .second, .val (.long w202), .second, .val (.long ((w200 + w201) + w202)), .second, .val (.long pl203), .second, .val (.ref b204), .val (.ref b212), .val (.ref b224), .unset, .unset, .unset, .unset, .unset, .unset, .unset, .unset] [(.ref b204), (.ref b240), (.ref b240)]))
  refine own_go (fun t k => XS.aload X240.here hx rfl (hb hby at_111) rfl rfl k) ?_
  show own_End p e below s _ _ _ (T240.setTop (mkF m 113 #[.val (.long p1), .second, .val (.long p2), .second, .val (.long p3), .second, .val (.long p4), .second, .val (.long (2305843009213693951 : Int64)), .second, .val (.long w200), .second, .val (.long w201), .second, .val (.long w202), .second, .val (.long ((w200 + w201) + w202)), .second, .val (.long pl203), .second, .val (.ref b204), .val (.ref b212), .val (.ref b224), .unset, .unset, .unset, .unset, .unset, .unset, .unset, .unset] [(.ref b212), (.ref b204), (.ref b240), (.ref b240)]))
  refine own_go (fun t k => XS.aload X240.here hx rfl (hb hby at_113) rfl rfl k) ?_
  show own_End p e below s _ _ _ (T240.setTop (mkF m 115 #[.val (.long p1), .second, .val (.long p2), .second, .val (.long p3), .second, .val (.long p4), .second, .val (.long (2305843009213693951 : Int64)), .second, .val (.long w200), .second, .val (.long w201), .second, .val (.long w202), .second, .val (.long ((w200 + w201) + w202)), .second, .val (.long pl203), .second, .val (.ref b204), .val (.ref b212), .val (.ref b224), .unset, .unset, .unset, .unset, .unset, .unset, .unset, .unset] [(.ref b224), (.ref b212), (.ref b204), (.ref b240), (.ref b240)]))
  obtain ⟨v249, T249, L249, X249, hQ249, st249⟩ := own_callI X240 hx hZ (y := (⟨"com/example/ordinate/ordinate/core/PairBlocks$Sorted", "<init>", "([I[I[J)V"⟩ : MethodName)) 1 rfl hown (hw _ (List.mem_of_getElem? (i := 7) rfl)) (hw _ (List.mem_of_getElem? (i := 8) rfl)) (hw _ (List.mem_of_getElem? (i := 6) rfl)) (hw _ (List.mem_of_getElem? (i := 9) rfl)) (by decide) (rm1 l Z a0 hw [] b240 b204 b212 b224 h240 n0 Z240 nb240 (Nat.ne_of_lt lt_b204_b240) A240 f244 f245 f246 f247 f248 f241) e240 (b := b240) (pc := 115) (Ls := #[.val (.long p1), .second, .val (.long p2), .second, .val (.long p3), .second, .val (.long p4), .second, .val (.long (2305843009213693951 : Int64)), .second, .val (.long w200), .second, .val (.long w201), .second, .val (.long w202), .second, .val (.long ((w200 + w201) + w202)), .second, .val (.long pl203), .second, .val (.ref b204), .val (.ref b212), .val (.ref b224), .unset, .unset, .unset, .unset, .unset, .unset, .unset, .unset]) [(.ref b204), (.ref b212), (.ref b224)] [(.ref b240)] (by rw [hml]; rfl) rfl rfl (lenOf pd_aIaIaJ_V rfl) (Nat.le_of_eq rfl) (hb hby at_115) (by decide) (by decide) (by decide) (by decide)
  obtain ⟨h250, e250⟩ : ∃ z, T249.heap = z := ⟨_, rfl⟩
  rw [e250] at hQ249
  obtain ⟨rfl, Nc, Kc, so, kso, gso, Fso, f_at, f_xs, f_ys, f_ws, f_so⟩ := hQ249
  have N_c := Fr.app N235 Nc
  have lt_b204_so : @LT.lt Nat _ b204 so := Nat.lt_of_lt_of_le f241.lt gso
  have lt_b212_so : @LT.lt Nat _ b212 so := Nat.lt_of_lt_of_le f242.lt gso
  have lt_b224_so : @LT.lt Nat _ b224 so := Nat.lt_of_lt_of_le f243.lt gso
  have lt_b240_so : @LT.lt Nat _ b240 so := Nat.lt_of_lt_of_le A240.lt gso
  have nso : n0 ≤ so := Nat.le_trans Z240 gso
  have Z250 : n0 ≤ h250.size := Nat.le_trans Z240 Kc.1
  have f251 := f241.keep Kc (ninS (Nat.ne_of_lt lt_b204_b240) nin0)
  have f252 := f242.keep Kc (ninS (Nat.ne_of_lt lt_b212_b240) nin0)
  have f253 := f243.keep Kc (ninS (Nat.ne_of_lt lt_b224_b240) nin0)
  have f254 := A240.keep Kc
  refine own_go st249 ?_
  show own_End p e below s _ _ _ (T249.setTop (mkF m 118 #[.val (.long p1), .second, .val (.long p2), .second, .val (.long p3), .second, .val (.long p4), .second, .val (.long (2305843009213693951 : Int64)), .second, .val (.long w200), .second, .val (.long w201), .second, .val (.long w202), .second, .val (.long ((w200 + w201) + w202)), .second, .val (.long pl203), .second, .val (.ref b204), .val (.ref b212), .val (.ref b224), .unset, .unset, .unset, .unset, .unset, .unset, .unset, .unset] [(.ref b240)]))
  refine own_go (fun t k => XS.astore X249.here hx rfl (hb hby at_118) rfl rfl (l' := #[.val (.long p1), .second, .val (.long p2), .second, .val (.long p3), .second, .val (.long p4), .second, .val (.long (2305843009213693951 : Int64)), .second, .val (.long w200), .second, .val (.long w201), .second, .val (.long w202), .second, .val (.long ((w200 + w201) + w202)), .second, .val (.long pl203), .second, .val (.ref b204), .val (.ref b212), .val (.ref b224), .val (.ref b240), .unset, .unset, .unset, .unset, .unset, .unset, .unset]) rfl k) ?_
  show own_End p e below s _ _ _ (T249.setTop (mkF m 120 #[.val (.long p1), .second, .val (.long p2), .second, .val (.long p3), .second, .val (.long p4), .second, .val (.long (2305843009213693951 : Int64)), .second, .val (.long w200), .second, .val (.long w201), .second, .val (.long w202), .second, .val (.long ((w200 + w201) + w202)), .second, .val (.long pl203), .second, .val (.ref b204), .val (.ref b212), .val (.ref b224), .val (.ref b240), .unset, .unset, .unset, .unset, .unset, .unset, .unset] []))
  refine own_go (fun t k => XS.aload X249.here hx rfl (hb hby at_120) rfl rfl k) ?_
  show own_End p e below s _ _ _ (T249.setTop (mkF m 122 #[.val (.long p1), .second, .val (.long p2), .second, .val (.long p3), .second, .val (.long p4), .second, .val (.long (2305843009213693951 : Int64)), .second, .val (.long w200), .second, .val (.long w201), .second, .val (.long w202), .second, .val (.long ((w200 + w201) + w202)), .second, .val (.long pl203), .second, .val (.ref b204), .val (.ref b212), .val (.ref b224), .val (.ref b240), .unset, .unset, .unset, .unset, .unset, .unset, .unset] [(.ref b240)]))
  refine own_go (fun t k => XT.lload X249.here hx rfl (hb hby at_122) rfl k) ?_
  show own_End p e below s _ _ _ (T249.setTop (mkF m 124 #[.val (.long p1), .second, .val (.long p2), .second, .val (.long p3), .second, .val (.long p4), .second, .val (.long (2305843009213693951 : Int64)), .second, .val (.long w200), .second, .val (.long w201), .second, .val (.long w202), .second, .val (.long ((w200 + w201) + w202)), .second, .val (.long pl203), .second, .val (.ref b204), .val (.ref b212), .val (.ref b224), .val (.ref b240), .unset, .unset, .unset, .unset, .unset, .unset, .unset] [(.long pl203), (.ref b240)]))
  by_cases hp : pl203.toInt < w200.toInt
  ·
    obtain ⟨v255, T255, L255, X255, hQ255, st255⟩ := own_callV X249 hx hZ (C := "com/example/ordinate/ordinate/core/PairBlocks$Sorted") (y := (⟨"com/example/ordinate/ordinate/core/PairBlocks$Sorted", "skip", "(J)J"⟩ : MethodName)) 0 hown (hw _ (List.mem_of_getElem? (i := 27) rfl)) (hw _ (List.mem_of_getElem? (i := 28) rfl)) (hw _ (List.mem_of_getElem? (i := 30) rfl)) (hw _ (List.mem_of_getElem? (i := 29) rfl)) (hw _ (List.mem_of_getElem? (i := 6) rfl)) (hw _ (List.mem_of_getElem? (i := 31) rfl)) (by decide) (rm4_0 l Z a0 hw [] b240 pl203 h250 n0 Z250 w200 w201 w202 b204 b212 b224 so (Nat.ne_of_lt lt_b224_b240) (Nat.ne_of_gt lt_b240_so) nb240 f254 f_at f_xs f_ys f_ws f_so Fso f253 hs1 hs2 hp) e250 f254 (pc := 124) (Ls := #[.val (.long p1), .second, .val (.long p2), .second, .val (.long p3), .second, .val (.long p4), .second, .val (.long (2305843009213693951 : Int64)), .second, .val (.long w200), .second, .val (.long w201), .second, .val (.long w202), .second, .val (.long ((w200 + w201) + w202)), .second, .val (.long pl203), .second, .val (.ref b204), .val (.ref b212), .val (.ref b224), .val (.ref b240), .unset, .unset, .unset, .unset, .unset, .unset, .unset]) [(.long pl203)] [] (by rw [hml]; rfl) rfl rfl (lenOf pd_J_J rfl) (Nat.le_of_eq rfl) (hb hby at_124) (by decide) (by decide) (by decide) (by decide)
    obtain ⟨h256, e256⟩ : ∃ z, T255.heap = z := ⟨_, rfl⟩
    rw [e256] at hQ255
    obtain ⟨rfl, Nk, Kk, g_at, g_xs, g_ys, g_ws, g_so⟩ := hQ255
    have N_k := Fr.app N_c Nk
    have Z256 : n0 ≤ h256.size := Nat.le_trans Z250 Kk.1
    have f257 := f251.keep Kk (ninS (Nat.ne_of_lt lt_b204_b240) nin0)
    have f258 := f252.keep Kk (ninS (Nat.ne_of_lt lt_b212_b240) nin0)
    have f259 := f253.keep Kk (ninS (Nat.ne_of_lt lt_b224_b240) nin0)
    have f260 := f254.keep Kk
    have f261 := Fso.keep Kk (ninS (Nat.ne_of_gt lt_b240_so) nin0)
    refine own_go st255 ?_
    show own_End p e below s _ _ _ (T255.setTop (mkF m 127 #[.val (.long p1), .second, .val (.long p2), .second, .val (.long p3), .second, .val (.long p4), .second, .val (.long (2305843009213693951 : Int64)), .second, .val (.long w200), .second, .val (.long w201), .second, .val (.long w202), .second, .val (.long ((w200 + w201) + w202)), .second, .val (.long pl203), .second, .val (.ref b204), .val (.ref b212), .val (.ref b224), .val (.ref b240), .unset, .unset, .unset, .unset, .unset, .unset, .unset] [(.long (w200 - pl203))]))
    refine own_go (fun t k => XT.lstore X255.here hx rfl (hb hby at_127) rfl (l' := #[.val (.long p1), .second, .val (.long p2), .second, .val (.long p3), .second, .val (.long p4), .second, .val (.long (2305843009213693951 : Int64)), .second, .val (.long w200), .second, .val (.long w201), .second, .val (.long w202), .second, .val (.long ((w200 + w201) + w202)), .second, .val (.long pl203), .second, .val (.ref b204), .val (.ref b212), .val (.ref b224), .val (.ref b240), .val (.long (w200 - pl203)), .second, .unset, .unset, .unset, .unset, .unset]) rfl k) ?_
    show own_End p e below s _ _ _ (T255.setTop (mkF m 129 #[.val (.long p1), .second, .val (.long p2), .second, .val (.long p3), .second, .val (.long p4), .second, .val (.long (2305843009213693951 : Int64)), .second, .val (.long w200), .second, .val (.long w201), .second, .val (.long w202), .second, .val (.long ((w200 + w201) + w202)), .second, .val (.long pl203), .second, .val (.ref b204), .val (.ref b212), .val (.ref b224), .val (.ref b240), .val (.long (w200 - pl203)), .second, .unset, .unset, .unset, .unset, .unset] []))
    refine own_go (fun t k => XT.lload X255.here hx rfl (hb hby at_129) rfl k) ?_
    show own_End p e below s _ _ _ (T255.setTop (mkF m 131 #[.val (.long p1), .second, .val (.long p2), .second, .val (.long p3), .second, .val (.long p4), .second, .val (.long (2305843009213693951 : Int64)), .second, .val (.long w200), .second, .val (.long w201), .second, .val (.long w202), .second, .val (.long ((w200 + w201) + w202)), .second, .val (.long pl203), .second, .val (.ref b204), .val (.ref b212), .val (.ref b224), .val (.ref b240), .val (.long (w200 - pl203)), .second, .unset, .unset, .unset, .unset, .unset] [(.long pl203)]))
    refine own_go (fun t k => XT.lload X255.here hx rfl (hb hby at_131) rfl k) ?_
    show own_End p e below s _ _ _ (T255.setTop (mkF m 133 #[.val (.long p1), .second, .val (.long p2), .second, .val (.long p3), .second, .val (.long p4), .second, .val (.long (2305843009213693951 : Int64)), .second, .val (.long w200), .second, .val (.long w201), .second, .val (.long w202), .second, .val (.long ((w200 + w201) + w202)), .second, .val (.long pl203), .second, .val (.ref b204), .val (.ref b212), .val (.ref b224), .val (.ref b240), .val (.long (w200 - pl203)), .second, .unset, .unset, .unset, .unset, .unset] [(.long w200), (.long pl203)]))
    refine own_go (fun t k => XT.lcmp X255.here hx rfl (hb hby at_133) rfl k) ?_
    show own_End p e below s _ _ _ (T255.setTop (mkF m 134 #[.val (.long p1), .second, .val (.long p2), .second, .val (.long p3), .second, .val (.long p4), .second, .val (.long (2305843009213693951 : Int64)), .second, .val (.long w200), .second, .val (.long w201), .second, .val (.long w202), .second, .val (.long ((w200 + w201) + w202)), .second, .val (.long pl203), .second, .val (.ref b204), .val (.ref b212), .val (.ref b224), .val (.ref b240), .val (.long (w200 - pl203)), .second, .unset, .unset, .unset, .unset, .unset] [(.int (XT.cmpL pl203 w200))]))
    refine own_go (fun t k => XS.ifNo X255.here hx rfl (hb hby at_134) rfl (own_lgeN (k := w200.toInt) rfl (by omega)) k) ?_
    show own_End p e below s _ _ _ (T255.setTop (mkF m 137 #[.val (.long p1), .second, .val (.long p2), .second, .val (.long p3), .second, .val (.long p4), .second, .val (.long (2305843009213693951 : Int64)), .second, .val (.long w200), .second, .val (.long w201), .second, .val (.long w202), .second, .val (.long ((w200 + w201) + w202)), .second, .val (.long pl203), .second, .val (.ref b204), .val (.ref b212), .val (.ref b224), .val (.ref b240), .val (.long (w200 - pl203)), .second, .unset, .unset, .unset, .unset, .unset] []))
    refine own_go (fun t k => XS.iconst X255.here hx rfl (hb hby at_137) k) ?_
    show own_End p e below s _ _ _ (T255.setTop (mkF m 138 #[.val (.long p1), .second, .val (.long p2), .second, .val (.long p3), .second, .val (.long p4), .second, .val (.long (2305843009213693951 : Int64)), .second, .val (.long w200), .second, .val (.long w201), .second, .val (.long w202), .second, .val (.long ((w200 + w201) + w202)), .second, .val (.long pl203), .second, .val (.ref b204), .val (.ref b212), .val (.ref b224), .val (.ref b240), .val (.long (w200 - pl203)), .second, .unset, .unset, .unset, .unset, .unset] [(.int (0 : Int32))]))
    refine own_go (fun t k => XS.istore X255.here hx rfl (hb hby at_138) rfl (l' := #[.val (.long p1), .second, .val (.long p2), .second, .val (.long p3), .second, .val (.long p4), .second, .val (.long (2305843009213693951 : Int64)), .second, .val (.long w200), .second, .val (.long w201), .second, .val (.long w202), .second, .val (.long ((w200 + w201) + w202)), .second, .val (.long pl203), .second, .val (.ref b204), .val (.ref b212), .val (.ref b224), .val (.ref b240), .val (.long (w200 - pl203)), .second, .val (.int (0 : Int32)), .unset, .unset, .unset, .unset]) rfl k) ?_
    show own_End p e below s _ _ _ (T255.setTop (mkF m 140 #[.val (.long p1), .second, .val (.long p2), .second, .val (.long p3), .second, .val (.long p4), .second, .val (.long (2305843009213693951 : Int64)), .second, .val (.long w200), .second, .val (.long w201), .second, .val (.long w202), .second, .val (.long ((w200 + w201) + w202)), .second, .val (.long pl203), .second, .val (.ref b204), .val (.ref b212), .val (.ref b224), .val (.ref b240), .val (.long (w200 - pl203)), .second, .val (.int (0 : Int32)), .unset, .unset, .unset, .unset] []))
    refine own_go (fun t k => XT.lload X255.here hx rfl (hb hby at_140) rfl k) ?_
    show own_End p e below s _ _ _ (T255.setTop (mkF m 142 #[.val (.long p1), .second, .val (.long p2), .second, .val (.long p3), .second, .val (.long p4), .second, .val (.long (2305843009213693951 : Int64)), .second, .val (.long w200), .second, .val (.long w201), .second, .val (.long w202), .second, .val (.long ((w200 + w201) + w202)), .second, .val (.long pl203), .second, .val (.ref b204), .val (.ref b212), .val (.ref b224), .val (.ref b240), .val (.long (w200 - pl203)), .second, .val (.int (0 : Int32)), .unset, .unset, .unset, .unset] [(.long w200)]))
    refine own_go (fun t k => XT.lload X255.here hx rfl (hb hby at_142) rfl k) ?_
    show own_End p e below s _ _ _ (T255.setTop (mkF m 144 #[.val (.long p1), .second, .val (.long p2), .second, .val (.long p3), .second, .val (.long p4), .second, .val (.long (2305843009213693951 : Int64)), .second, .val (.long w200), .second, .val (.long w201), .second, .val (.long w202), .second, .val (.long ((w200 + w201) + w202)), .second, .val (.long pl203), .second, .val (.ref b204), .val (.ref b212), .val (.ref b224), .val (.ref b240), .val (.long (w200 - pl203)), .second, .val (.int (0 : Int32)), .unset, .unset, .unset, .unset] [(.long pl203), (.long w200)]))
    refine own_go (fun t k => XT.lsub X255.here hx rfl (hb hby at_144) rfl k) ?_
    show own_End p e below s _ _ _ (T255.setTop (mkF m 145 #[.val (.long p1), .second, .val (.long p2), .second, .val (.long p3), .second, .val (.long p4), .second, .val (.long (2305843009213693951 : Int64)), .second, .val (.long w200), .second, .val (.long w201), .second, .val (.long w202), .second, .val (.long ((w200 + w201) + w202)), .second, .val (.long pl203), .second, .val (.ref b204), .val (.ref b212), .val (.ref b224), .val (.ref b240), .val (.long (w200 - pl203)), .second, .val (.int (0 : Int32)), .unset, .unset, .unset, .unset] [(.long (w200 - pl203))]))
    refine own_go (fun t k => XT.lstore X255.here hx rfl (hb hby at_145) rfl (l' := #[.val (.long p1), .second, .val (.long p2), .second, .val (.long p3), .second, .val (.long p4), .second, .val (.long (2305843009213693951 : Int64)), .second, .val (.long w200), .second, .val (.long w201), .second, .val (.long w202), .second, .val (.long ((w200 + w201) + w202)), .second, .val (.long pl203), .second, .val (.ref b204), .val (.ref b212), .val (.ref b224), .val (.ref b240), .val (.long (w200 - pl203)), .second, .val (.int (0 : Int32)), .val (.long (w200 - pl203)), .second, .unset, .unset]) rfl k) ?_
    show own_End p e below s _ _ _ (T255.setTop (mkF m 147 #[.val (.long p1), .second, .val (.long p2), .second, .val (.long p3), .second, .val (.long p4), .second, .val (.long (2305843009213693951 : Int64)), .second, .val (.long w200), .second, .val (.long w201), .second, .val (.long w202), .second, .val (.long ((w200 + w201) + w202)), .second, .val (.long pl203), .second, .val (.ref b204), .val (.ref b212), .val (.ref b224), .val (.ref b240), .val (.long (w200 - pl203)), .second, .val (.int (0 : Int32)), .val (.long (w200 - pl203)), .second, .unset, .unset] []))
    refine own_go (fun t k => XS.goto X255.here hx rfl (pc0 := 147) (pc' := 187) rfl (hb hby at_147) (by decide) (by decide) k) ?_
    show own_End p e below s _ _ _ (T255.setTop (mkF m 187 #[.val (.long p1), .second, .val (.long p2), .second, .val (.long p3), .second, .val (.long p4), .second, .val (.long (2305843009213693951 : Int64)), .second, .val (.long w200), .second, .val (.long w201), .second, .val (.long w202), .second, .val (.long ((w200 + w201) + w202)), .second, .val (.long pl203), .second, .val (.ref b204), .val (.ref b212), .val (.ref b224), .val (.ref b240), .val (.long (w200 - pl203)), .second, .val (.int (0 : Int32)), .val (.long (w200 - pl203)), .second, .unset, .unset] []))
    refine own_go (fun t k => XT.lload X255.here hx rfl (hb hby at_187) rfl k) ?_
    show own_End p e below s _ _ _ (T255.setTop (mkF m 189 #[.val (.long p1), .second, .val (.long p2), .second, .val (.long p3), .second, .val (.long p4), .second, .val (.long (2305843009213693951 : Int64)), .second, .val (.long w200), .second, .val (.long w201), .second, .val (.long w202), .second, .val (.long ((w200 + w201) + w202)), .second, .val (.long pl203), .second, .val (.ref b204), .val (.ref b212), .val (.ref b224), .val (.ref b240), .val (.long (w200 - pl203)), .second, .val (.int (0 : Int32)), .val (.long (w200 - pl203)), .second, .unset, .unset] [(.long (w200 - pl203))]))
    refine own_go (fun t k => XT.lload X255.here hx rfl (hb hby at_189) rfl k) ?_
    show own_End p e below s _ _ _ (T255.setTop (mkF m 191 #[.val (.long p1), .second, .val (.long p2), .second, .val (.long p3), .second, .val (.long p4), .second, .val (.long (2305843009213693951 : Int64)), .second, .val (.long w200), .second, .val (.long w201), .second, .val (.long w202), .second, .val (.long ((w200 + w201) + w202)), .second, .val (.long pl203), .second, .val (.ref b204), .val (.ref b212), .val (.ref b224), .val (.ref b240), .val (.long (w200 - pl203)), .second, .val (.int (0 : Int32)), .val (.long (w200 - pl203)), .second, .unset, .unset] [(.long (w200 - pl203)), (.long (w200 - pl203))]))
    refine own_go (fun t k => XT.lcmp X255.here hx rfl (hb hby at_191) rfl k) ?_
    show own_End p e below s _ _ _ (T255.setTop (mkF m 192 #[.val (.long p1), .second, .val (.long p2), .second, .val (.long p3), .second, .val (.long p4), .second, .val (.long (2305843009213693951 : Int64)), .second, .val (.long w200), .second, .val (.long w201), .second, .val (.long w202), .second, .val (.long ((w200 + w201) + w202)), .second, .val (.long pl203), .second, .val (.ref b204), .val (.ref b212), .val (.ref b224), .val (.ref b240), .val (.long (w200 - pl203)), .second, .val (.int (0 : Int32)), .val (.long (w200 - pl203)), .second, .unset, .unset] [(.int (XT.cmpL (w200 - pl203) (w200 - pl203)))]))
    have hr : (w200 - pl203).toInt = w200.toInt - pl203.toInt := by
      rw [own_subJ (by omega) (by omega)]
    refine own_go (fun t k => XS.ifNo X255.here hx rfl (hb hby at_192) rfl (own_lneN rfl (fun z => z rfl)) k) ?_
    show own_End p e below s _ _ _ (T255.setTop (mkF m 195 #[.val (.long p1), .second, .val (.long p2), .second, .val (.long p3), .second, .val (.long p4), .second, .val (.long (2305843009213693951 : Int64)), .second, .val (.long w200), .second, .val (.long w201), .second, .val (.long w202), .second, .val (.long ((w200 + w201) + w202)), .second, .val (.long pl203), .second, .val (.ref b204), .val (.ref b212), .val (.ref b224), .val (.ref b240), .val (.long (w200 - pl203)), .second, .val (.int (0 : Int32)), .val (.long (w200 - pl203)), .second, .unset, .unset] []))
    refine own_go (fun t k => XS.aload X255.here hx rfl (hb hby at_195) rfl rfl k) ?_
    show own_End p e below s _ _ _ (T255.setTop (mkF m 197 #[.val (.long p1), .second, .val (.long p2), .second, .val (.long p3), .second, .val (.long p4), .second, .val (.long (2305843009213693951 : Int64)), .second, .val (.long w200), .second, .val (.long w201), .second, .val (.long w202), .second, .val (.long ((w200 + w201) + w202)), .second, .val (.long pl203), .second, .val (.ref b204), .val (.ref b212), .val (.ref b224), .val (.ref b240), .val (.long (w200 - pl203)), .second, .val (.int (0 : Int32)), .val (.long (w200 - pl203)), .second, .unset, .unset] [(.ref b240)]))
    obtain ⟨v262, T262, L262, X262, hQ262, st262⟩ := own_callV X255 hx hZ (C := "com/example/ordinate/ordinate/core/PairBlocks$Sorted") (y := (⟨"com/example/ordinate/ordinate/core/PairBlocks$Sorted", "x", "()I"⟩ : MethodName)) 0 hown (hw _ (List.mem_of_getElem? (i := 32) rfl)) (hw _ (List.mem_of_getElem? (i := 33) rfl)) (hw _ (List.mem_of_getElem? (i := 35) rfl)) (hw _ (List.mem_of_getElem? (i := 34) rfl)) (hw _ (List.mem_of_getElem? (i := 6) rfl)) (hw _ (List.mem_of_getElem? (i := 36) rfl)) (by decide) (rm5 l Z a0 hw [] b240 h256 n0 Z256 7 b204 b212 b224 so 0 0 (by decide) (by decide) nb240 f260 g_at g_xs g_ys g_ws g_so f261 f257 rfl) e256 f260 (pc := 197) (Ls := #[.val (.long p1), .second, .val (.long p2), .second, .val (.long p3), .second, .val (.long p4), .second, .val (.long (2305843009213693951 : Int64)), .second, .val (.long w200), .second, .val (.long w201), .second, .val (.long w202), .second, .val (.long ((w200 + w201) + w202)), .second, .val (.long pl203), .second, .val (.ref b204), .val (.ref b212), .val (.ref b224), .val (.ref b240), .val (.long (w200 - pl203)), .second, .val (.int (0 : Int32)), .val (.long (w200 - pl203)), .second, .unset, .unset]) [] [] (by rw [hml]; rfl) rfl rfl (lenOf pd__I rfl) (Nat.le_of_eq rfl) (hb hby at_197) (by decide) (by decide) (by decide) (by decide)
    obtain ⟨rfl, Nd263, e263⟩ := hQ262
    have N263 := Fr.app N_k Nd263
    refine own_go st262 ?_
    show own_End p e below s _ _ _ (T262.setTop (mkF m 200 #[.val (.long p1), .second, .val (.long p2), .second, .val (.long p3), .second, .val (.long p4), .second, .val (.long (2305843009213693951 : Int64)), .second, .val (.long w200), .second, .val (.long w201), .second, .val (.long w202), .second, .val (.long ((w200 + w201) + w202)), .second, .val (.long pl203), .second, .val (.ref b204), .val (.ref b212), .val (.ref b224), .val (.ref b240), .val (.long (w200 - pl203)), .second, .val (.int (0 : Int32)), .val (.long (w200 - pl203)), .second, .unset, .unset] [(.int (7 : Int32))]))
    refine own_go (fun t k => XS.aload X262.here hx rfl (hb hby at_200) rfl rfl k) ?_
    show own_End p e below s _ _ _ (T262.setTop (mkF m 202 #[.val (.long p1), .second, .val (.long p2), .second, .val (.long p3), .second, .val (.long p4), .second, .val (.long (2305843009213693951 : Int64)), .second, .val (.long w200), .second, .val (.long w201), .second, .val (.long w202), .second, .val (.long ((w200 + w201) + w202)), .second, .val (.long pl203), .second, .val (.ref b204), .val (.ref b212), .val (.ref b224), .val (.ref b240), .val (.long (w200 - pl203)), .second, .val (.int (0 : Int32)), .val (.long (w200 - pl203)), .second, .unset, .unset] [(.ref b204), (.int (7 : Int32))]))
    refine own_go (fun t k => XS.iload X262.here hx rfl (hb hby at_202) rfl k) ?_
    show own_End p e below s _ _ _ (T262.setTop (mkF m 204 #[.val (.long p1), .second, .val (.long p2), .second, .val (.long p3), .second, .val (.long p4), .second, .val (.long (2305843009213693951 : Int64)), .second, .val (.long w200), .second, .val (.long w201), .second, .val (.long w202), .second, .val (.long ((w200 + w201) + w202)), .second, .val (.long pl203), .second, .val (.ref b204), .val (.ref b212), .val (.ref b224), .val (.ref b240), .val (.long (w200 - pl203)), .second, .val (.int (0 : Int32)), .val (.long (w200 - pl203)), .second, .unset, .unset] [(.int (0 : Int32)), (.ref b204), (.int (7 : Int32))]))
    refine own_go (own_fldI X262 hx hZ e263 f257 (j := (0 : Int32)) (v := (.int (7 : Int32))) 0 (by decide) (by decide) rfl (pc := 204) (Ls := #[.val (.long p1), .second, .val (.long p2), .second, .val (.long p3), .second, .val (.long p4), .second, .val (.long (2305843009213693951 : Int64)), .second, .val (.long w200), .second, .val (.long w201), .second, .val (.long w202), .second, .val (.long ((w200 + w201) + w202)), .second, .val (.long pl203), .second, .val (.ref b204), .val (.ref b212), .val (.ref b224), .val (.ref b240), .val (.long (w200 - pl203)), .second, .val (.int (0 : Int32)), .val (.long (w200 - pl203)), .second, .unset, .unset]) (rest := [(.int (7 : Int32))]) (hb hby at_204)) ?_
    show own_End p e below s _ _ _ (T262.setTop (mkF m 205 #[.val (.long p1), .second, .val (.long p2), .second, .val (.long p3), .second, .val (.long p4), .second, .val (.long (2305843009213693951 : Int64)), .second, .val (.long w200), .second, .val (.long w201), .second, .val (.long w202), .second, .val (.long ((w200 + w201) + w202)), .second, .val (.long pl203), .second, .val (.ref b204), .val (.ref b212), .val (.ref b224), .val (.ref b240), .val (.long (w200 - pl203)), .second, .val (.int (0 : Int32)), .val (.long (w200 - pl203)), .second, .unset, .unset] [(.int (7 : Int32)), (.int (7 : Int32))]))
    refine own_go (fun t k => XS.icmpNo X262.here hx rfl (hb hby at_205) rfl (by decide) k) ?_
    show own_End p e below s _ _ _ (T262.setTop (mkF m 208 #[.val (.long p1), .second, .val (.long p2), .second, .val (.long p3), .second, .val (.long p4), .second, .val (.long (2305843009213693951 : Int64)), .second, .val (.long w200), .second, .val (.long w201), .second, .val (.long w202), .second, .val (.long ((w200 + w201) + w202)), .second, .val (.long pl203), .second, .val (.ref b204), .val (.ref b212), .val (.ref b224), .val (.ref b240), .val (.long (w200 - pl203)), .second, .val (.int (0 : Int32)), .val (.long (w200 - pl203)), .second, .unset, .unset] []))
    refine own_go (fun t k => XS.aload X262.here hx rfl (hb hby at_208) rfl rfl k) ?_
    show own_End p e below s _ _ _ (T262.setTop (mkF m 210 #[.val (.long p1), .second, .val (.long p2), .second, .val (.long p3), .second, .val (.long p4), .second, .val (.long (2305843009213693951 : Int64)), .second, .val (.long w200), .second, .val (.long w201), .second, .val (.long w202), .second, .val (.long ((w200 + w201) + w202)), .second, .val (.long pl203), .second, .val (.ref b204), .val (.ref b212), .val (.ref b224), .val (.ref b240), .val (.long (w200 - pl203)), .second, .val (.int (0 : Int32)), .val (.long (w200 - pl203)), .second, .unset, .unset] [(.ref b240)]))
    obtain ⟨v264, T264, L264, X264, hQ264, st264⟩ := own_callV X262 hx hZ (C := "com/example/ordinate/ordinate/core/PairBlocks$Sorted") (y := (⟨"com/example/ordinate/ordinate/core/PairBlocks$Sorted", "y", "()I"⟩ : MethodName)) 0 hown (hw _ (List.mem_of_getElem? (i := 37) rfl)) (hw _ (List.mem_of_getElem? (i := 38) rfl)) (hw _ (List.mem_of_getElem? (i := 40) rfl)) (hw _ (List.mem_of_getElem? (i := 39) rfl)) (hw _ (List.mem_of_getElem? (i := 6) rfl)) (hw _ (List.mem_of_getElem? (i := 41) rfl)) (by decide) (rm6 l Z a0 hw [] b240 h256 n0 Z256 4 b204 b212 b224 so 0 0 (by decide) (by decide) nb240 f260 g_at g_xs g_ys g_ws g_so f261 f258 rfl) e263 f260 (pc := 210) (Ls := #[.val (.long p1), .second, .val (.long p2), .second, .val (.long p3), .second, .val (.long p4), .second, .val (.long (2305843009213693951 : Int64)), .second, .val (.long w200), .second, .val (.long w201), .second, .val (.long w202), .second, .val (.long ((w200 + w201) + w202)), .second, .val (.long pl203), .second, .val (.ref b204), .val (.ref b212), .val (.ref b224), .val (.ref b240), .val (.long (w200 - pl203)), .second, .val (.int (0 : Int32)), .val (.long (w200 - pl203)), .second, .unset, .unset]) [] [] (by rw [hml]; rfl) rfl rfl (lenOf pd__I rfl) (Nat.le_of_eq rfl) (hb hby at_210) (by decide) (by decide) (by decide) (by decide)
    obtain ⟨rfl, Nd265, e265⟩ := hQ264
    have N265 := Fr.app N263 Nd265
    refine own_go st264 ?_
    show own_End p e below s _ _ _ (T264.setTop (mkF m 213 #[.val (.long p1), .second, .val (.long p2), .second, .val (.long p3), .second, .val (.long p4), .second, .val (.long (2305843009213693951 : Int64)), .second, .val (.long w200), .second, .val (.long w201), .second, .val (.long w202), .second, .val (.long ((w200 + w201) + w202)), .second, .val (.long pl203), .second, .val (.ref b204), .val (.ref b212), .val (.ref b224), .val (.ref b240), .val (.long (w200 - pl203)), .second, .val (.int (0 : Int32)), .val (.long (w200 - pl203)), .second, .unset, .unset] [(.int (4 : Int32))]))
    refine own_go (fun t k => XS.aload X264.here hx rfl (hb hby at_213) rfl rfl k) ?_
    show own_End p e below s _ _ _ (T264.setTop (mkF m 215 #[.val (.long p1), .second, .val (.long p2), .second, .val (.long p3), .second, .val (.long p4), .second, .val (.long (2305843009213693951 : Int64)), .second, .val (.long w200), .second, .val (.long w201), .second, .val (.long w202), .second, .val (.long ((w200 + w201) + w202)), .second, .val (.long pl203), .second, .val (.ref b204), .val (.ref b212), .val (.ref b224), .val (.ref b240), .val (.long (w200 - pl203)), .second, .val (.int (0 : Int32)), .val (.long (w200 - pl203)), .second, .unset, .unset] [(.ref b212), (.int (4 : Int32))]))
    refine own_go (fun t k => XS.iload X264.here hx rfl (hb hby at_215) rfl k) ?_
    show own_End p e below s _ _ _ (T264.setTop (mkF m 217 #[.val (.long p1), .second, .val (.long p2), .second, .val (.long p3), .second, .val (.long p4), .second, .val (.long (2305843009213693951 : Int64)), .second, .val (.long w200), .second, .val (.long w201), .second, .val (.long w202), .second, .val (.long ((w200 + w201) + w202)), .second, .val (.long pl203), .second, .val (.ref b204), .val (.ref b212), .val (.ref b224), .val (.ref b240), .val (.long (w200 - pl203)), .second, .val (.int (0 : Int32)), .val (.long (w200 - pl203)), .second, .unset, .unset] [(.int (0 : Int32)), (.ref b212), (.int (4 : Int32))]))
    refine own_go (own_fldI X264 hx hZ e265 f258 (j := (0 : Int32)) (v := (.int (4 : Int32))) 0 (by decide) (by decide) rfl (pc := 217) (Ls := #[.val (.long p1), .second, .val (.long p2), .second, .val (.long p3), .second, .val (.long p4), .second, .val (.long (2305843009213693951 : Int64)), .second, .val (.long w200), .second, .val (.long w201), .second, .val (.long w202), .second, .val (.long ((w200 + w201) + w202)), .second, .val (.long pl203), .second, .val (.ref b204), .val (.ref b212), .val (.ref b224), .val (.ref b240), .val (.long (w200 - pl203)), .second, .val (.int (0 : Int32)), .val (.long (w200 - pl203)), .second, .unset, .unset]) (rest := [(.int (4 : Int32))]) (hb hby at_217)) ?_
    show own_End p e below s _ _ _ (T264.setTop (mkF m 218 #[.val (.long p1), .second, .val (.long p2), .second, .val (.long p3), .second, .val (.long p4), .second, .val (.long (2305843009213693951 : Int64)), .second, .val (.long w200), .second, .val (.long w201), .second, .val (.long w202), .second, .val (.long ((w200 + w201) + w202)), .second, .val (.long pl203), .second, .val (.ref b204), .val (.ref b212), .val (.ref b224), .val (.ref b240), .val (.long (w200 - pl203)), .second, .val (.int (0 : Int32)), .val (.long (w200 - pl203)), .second, .unset, .unset] [(.int (4 : Int32)), (.int (4 : Int32))]))
    refine own_go (fun t k => XS.icmpNo X264.here hx rfl (hb hby at_218) rfl (by decide) k) ?_
    show own_End p e below s _ _ _ (T264.setTop (mkF m 221 #[.val (.long p1), .second, .val (.long p2), .second, .val (.long p3), .second, .val (.long p4), .second, .val (.long (2305843009213693951 : Int64)), .second, .val (.long w200), .second, .val (.long w201), .second, .val (.long w202), .second, .val (.long ((w200 + w201) + w202)), .second, .val (.long pl203), .second, .val (.ref b204), .val (.ref b212), .val (.ref b224), .val (.ref b240), .val (.long (w200 - pl203)), .second, .val (.int (0 : Int32)), .val (.long (w200 - pl203)), .second, .unset, .unset] []))
    refine own_go (fun t k => XS.aload X264.here hx rfl (hb hby at_221) rfl rfl k) ?_
    show own_End p e below s _ _ _ (T264.setTop (mkF m 223 #[.val (.long p1), .second, .val (.long p2), .second, .val (.long p3), .second, .val (.long p4), .second, .val (.long (2305843009213693951 : Int64)), .second, .val (.long w200), .second, .val (.long w201), .second, .val (.long w202), .second, .val (.long ((w200 + w201) + w202)), .second, .val (.long pl203), .second, .val (.ref b204), .val (.ref b212), .val (.ref b224), .val (.ref b240), .val (.long (w200 - pl203)), .second, .val (.int (0 : Int32)), .val (.long (w200 - pl203)), .second, .unset, .unset] [(.ref b240)]))
    obtain ⟨v266, T266, L266, X266, hQ266, st266⟩ := own_callV X264 hx hZ (C := "com/example/ordinate/ordinate/core/PairBlocks$Sorted") (y := (⟨"com/example/ordinate/ordinate/core/PairBlocks$Sorted", "weight", "()J"⟩ : MethodName)) 0 hown (hw _ (List.mem_of_getElem? (i := 42) rfl)) (hw _ (List.mem_of_getElem? (i := 43) rfl)) (hw _ (List.mem_of_getElem? (i := 45) rfl)) (hw _ (List.mem_of_getElem? (i := 44) rfl)) (hw _ (List.mem_of_getElem? (i := 6) rfl)) (hw _ (List.mem_of_getElem? (i := 46) rfl)) (by decide) (rm7 l Z a0 hw [] b240 h256 n0 Z256 w200 b204 b212 b224 so 0 0 (by decide) (by decide) nb240 f260 g_at g_xs g_ys g_ws g_so f261 f259 rfl) e265 f260 (pc := 223) (Ls := #[.val (.long p1), .second, .val (.long p2), .second, .val (.long p3), .second, .val (.long p4), .second, .val (.long (2305843009213693951 : Int64)), .second, .val (.long w200), .second, .val (.long w201), .second, .val (.long w202), .second, .val (.long ((w200 + w201) + w202)), .second, .val (.long pl203), .second, .val (.ref b204), .val (.ref b212), .val (.ref b224), .val (.ref b240), .val (.long (w200 - pl203)), .second, .val (.int (0 : Int32)), .val (.long (w200 - pl203)), .second, .unset, .unset]) [] [] (by rw [hml]; rfl) rfl rfl (lenOf pd__J rfl) (Nat.le_of_eq rfl) (hb hby at_223) (by decide) (by decide) (by decide) (by decide)
    obtain ⟨rfl, Nd267, e267⟩ := hQ266
    have N267 := Fr.app N265 Nd267
    refine own_go st266 ?_
    show own_End p e below s _ _ _ (T266.setTop (mkF m 226 #[.val (.long p1), .second, .val (.long p2), .second, .val (.long p3), .second, .val (.long p4), .second, .val (.long (2305843009213693951 : Int64)), .second, .val (.long w200), .second, .val (.long w201), .second, .val (.long w202), .second, .val (.long ((w200 + w201) + w202)), .second, .val (.long pl203), .second, .val (.ref b204), .val (.ref b212), .val (.ref b224), .val (.ref b240), .val (.long (w200 - pl203)), .second, .val (.int (0 : Int32)), .val (.long (w200 - pl203)), .second, .unset, .unset] [(.long w200)]))
    refine own_go (fun t k => XS.aload X266.here hx rfl (hb hby at_226) rfl rfl k) ?_
    show own_End p e below s _ _ _ (T266.setTop (mkF m 228 #[.val (.long p1), .second, .val (.long p2), .second, .val (.long p3), .second, .val (.long p4), .second, .val (.long (2305843009213693951 : Int64)), .second, .val (.long w200), .second, .val (.long w201), .second, .val (.long w202), .second, .val (.long ((w200 + w201) + w202)), .second, .val (.long pl203), .second, .val (.ref b204), .val (.ref b212), .val (.ref b224), .val (.ref b240), .val (.long (w200 - pl203)), .second, .val (.int (0 : Int32)), .val (.long (w200 - pl203)), .second, .unset, .unset] [(.ref b224), (.long w200)]))
    refine own_go (fun t k => XS.iload X266.here hx rfl (hb hby at_228) rfl k) ?_
    show own_End p e below s _ _ _ (T266.setTop (mkF m 230 #[.val (.long p1), .second, .val (.long p2), .second, .val (.long p3), .second, .val (.long p4), .second, .val (.long (2305843009213693951 : Int64)), .second, .val (.long w200), .second, .val (.long w201), .second, .val (.long w202), .second, .val (.long ((w200 + w201) + w202)), .second, .val (.long pl203), .second, .val (.ref b204), .val (.ref b212), .val (.ref b224), .val (.ref b240), .val (.long (w200 - pl203)), .second, .val (.int (0 : Int32)), .val (.long (w200 - pl203)), .second, .unset, .unset] [(.int (0 : Int32)), (.ref b224), (.long w200)]))
    refine own_go (own_fldJ X266 hx hZ e267 f259 (j := (0 : Int32)) (v := (.long w200)) 0 (by decide) (by decide) rfl (pc := 230) (Ls := #[.val (.long p1), .second, .val (.long p2), .second, .val (.long p3), .second, .val (.long p4), .second, .val (.long (2305843009213693951 : Int64)), .second, .val (.long w200), .second, .val (.long w201), .second, .val (.long w202), .second, .val (.long ((w200 + w201) + w202)), .second, .val (.long pl203), .second, .val (.ref b204), .val (.ref b212), .val (.ref b224), .val (.ref b240), .val (.long (w200 - pl203)), .second, .val (.int (0 : Int32)), .val (.long (w200 - pl203)), .second, .unset, .unset]) (rest := [(.long w200)]) (hb hby at_230)) ?_
    show own_End p e below s _ _ _ (T266.setTop (mkF m 231 #[.val (.long p1), .second, .val (.long p2), .second, .val (.long p3), .second, .val (.long p4), .second, .val (.long (2305843009213693951 : Int64)), .second, .val (.long w200), .second, .val (.long w201), .second, .val (.long w202), .second, .val (.long ((w200 + w201) + w202)), .second, .val (.long pl203), .second, .val (.ref b204), .val (.ref b212), .val (.ref b224), .val (.ref b240), .val (.long (w200 - pl203)), .second, .val (.int (0 : Int32)), .val (.long (w200 - pl203)), .second, .unset, .unset] [(.long w200), (.long w200)]))
    refine own_go (fun t k => XT.lcmp X266.here hx rfl (hb hby at_231) rfl k) ?_
    show own_End p e below s _ _ _ (T266.setTop (mkF m 232 #[.val (.long p1), .second, .val (.long p2), .second, .val (.long p3), .second, .val (.long p4), .second, .val (.long (2305843009213693951 : Int64)), .second, .val (.long w200), .second, .val (.long w201), .second, .val (.long w202), .second, .val (.long ((w200 + w201) + w202)), .second, .val (.long pl203), .second, .val (.ref b204), .val (.ref b212), .val (.ref b224), .val (.ref b240), .val (.long (w200 - pl203)), .second, .val (.int (0 : Int32)), .val (.long (w200 - pl203)), .second, .unset, .unset] [(.int (XT.cmpL w200 w200))]))
    refine own_go (fun t k => XS.ifNo X266.here hx rfl (hb hby at_232) rfl (own_lneN rfl (fun z => z rfl)) k) ?_
    show own_End p e below s _ _ _ (T266.setTop (mkF m 235 #[.val (.long p1), .second, .val (.long p2), .second, .val (.long p3), .second, .val (.long p4), .second, .val (.long (2305843009213693951 : Int64)), .second, .val (.long w200), .second, .val (.long w201), .second, .val (.long w202), .second, .val (.long ((w200 + w201) + w202)), .second, .val (.long pl203), .second, .val (.ref b204), .val (.ref b212), .val (.ref b224), .val (.ref b240), .val (.long (w200 - pl203)), .second, .val (.int (0 : Int32)), .val (.long (w200 - pl203)), .second, .unset, .unset] []))
    refine own_go (fun t k => XT.lload X266.here hx rfl (hb hby at_235) rfl k) ?_
    show own_End p e below s _ _ _ (T266.setTop (mkF m 237 #[.val (.long p1), .second, .val (.long p2), .second, .val (.long p3), .second, .val (.long p4), .second, .val (.long (2305843009213693951 : Int64)), .second, .val (.long w200), .second, .val (.long w201), .second, .val (.long w202), .second, .val (.long ((w200 + w201) + w202)), .second, .val (.long pl203), .second, .val (.ref b204), .val (.ref b212), .val (.ref b224), .val (.ref b240), .val (.long (w200 - pl203)), .second, .val (.int (0 : Int32)), .val (.long (w200 - pl203)), .second, .unset, .unset] [(.long (w200 - pl203))]))
    refine own_go (fun t k => XT.lconst X266.here hx rfl (hb hby at_237) k) ?_
    show own_End p e below s _ _ _ (T266.setTop (mkF m 238 #[.val (.long p1), .second, .val (.long p2), .second, .val (.long p3), .second, .val (.long p4), .second, .val (.long (2305843009213693951 : Int64)), .second, .val (.long w200), .second, .val (.long w201), .second, .val (.long w202), .second, .val (.long ((w200 + w201) + w202)), .second, .val (.long pl203), .second, .val (.ref b204), .val (.ref b212), .val (.ref b224), .val (.ref b240), .val (.long (w200 - pl203)), .second, .val (.int (0 : Int32)), .val (.long (w200 - pl203)), .second, .unset, .unset] [(.long (1 : Int64)), (.long (w200 - pl203))]))
    refine own_go (fun t k => XT.lcmp X266.here hx rfl (hb hby at_238) rfl k) ?_
    show own_End p e below s _ _ _ (T266.setTop (mkF m 239 #[.val (.long p1), .second, .val (.long p2), .second, .val (.long p3), .second, .val (.long p4), .second, .val (.long (2305843009213693951 : Int64)), .second, .val (.long w200), .second, .val (.long w201), .second, .val (.long w202), .second, .val (.long ((w200 + w201) + w202)), .second, .val (.long pl203), .second, .val (.ref b204), .val (.ref b212), .val (.ref b224), .val (.ref b240), .val (.long (w200 - pl203)), .second, .val (.int (0 : Int32)), .val (.long (w200 - pl203)), .second, .unset, .unset] [(.int (XT.cmpL (w200 - pl203) (1 : Int64)))]))
    refine own_go (fun t k => XS.ifNo X266.here hx rfl (hb hby at_239) rfl (own_lltN (k := 1) (by decide) (by omega)) k) ?_
    show own_End p e below s _ _ _ (T266.setTop (mkF m 242 #[.val (.long p1), .second, .val (.long p2), .second, .val (.long p3), .second, .val (.long p4), .second, .val (.long (2305843009213693951 : Int64)), .second, .val (.long w200), .second, .val (.long w201), .second, .val (.long w202), .second, .val (.long ((w200 + w201) + w202)), .second, .val (.long pl203), .second, .val (.ref b204), .val (.ref b212), .val (.ref b224), .val (.ref b240), .val (.long (w200 - pl203)), .second, .val (.int (0 : Int32)), .val (.long (w200 - pl203)), .second, .unset, .unset] []))
    refine own_go (fun t k => XT.lload X266.here hx rfl (hb hby at_242) rfl k) ?_
    show own_End p e below s _ _ _ (T266.setTop (mkF m 244 #[.val (.long p1), .second, .val (.long p2), .second, .val (.long p3), .second, .val (.long p4), .second, .val (.long (2305843009213693951 : Int64)), .second, .val (.long w200), .second, .val (.long w201), .second, .val (.long w202), .second, .val (.long ((w200 + w201) + w202)), .second, .val (.long pl203), .second, .val (.ref b204), .val (.ref b212), .val (.ref b224), .val (.ref b240), .val (.long (w200 - pl203)), .second, .val (.int (0 : Int32)), .val (.long (w200 - pl203)), .second, .unset, .unset] [(.long (w200 - pl203))]))
    refine own_go (fun t k => XS.aload X266.here hx rfl (hb hby at_244) rfl rfl k) ?_
    show own_End p e below s _ _ _ (T266.setTop (mkF m 246 #[.val (.long p1), .second, .val (.long p2), .second, .val (.long p3), .second, .val (.long p4), .second, .val (.long (2305843009213693951 : Int64)), .second, .val (.long w200), .second, .val (.long w201), .second, .val (.long w202), .second, .val (.long ((w200 + w201) + w202)), .second, .val (.long pl203), .second, .val (.ref b204), .val (.ref b212), .val (.ref b224), .val (.ref b240), .val (.long (w200 - pl203)), .second, .val (.int (0 : Int32)), .val (.long (w200 - pl203)), .second, .unset, .unset] [(.ref b224), (.long (w200 - pl203))]))
    refine own_go (fun t k => XS.iload X266.here hx rfl (hb hby at_246) rfl k) ?_
    show own_End p e below s _ _ _ (T266.setTop (mkF m 248 #[.val (.long p1), .second, .val (.long p2), .second, .val (.long p3), .second, .val (.long p4), .second, .val (.long (2305843009213693951 : Int64)), .second, .val (.long w200), .second, .val (.long w201), .second, .val (.long w202), .second, .val (.long ((w200 + w201) + w202)), .second, .val (.long pl203), .second, .val (.ref b204), .val (.ref b212), .val (.ref b224), .val (.ref b240), .val (.long (w200 - pl203)), .second, .val (.int (0 : Int32)), .val (.long (w200 - pl203)), .second, .unset, .unset] [(.int (0 : Int32)), (.ref b224), (.long (w200 - pl203))]))
    refine own_go (own_fldJ X266 hx hZ e267 f259 (j := (0 : Int32)) (v := (.long w200)) 0 (by decide) (by decide) rfl (pc := 248) (Ls := #[.val (.long p1), .second, .val (.long p2), .second, .val (.long p3), .second, .val (.long p4), .second, .val (.long (2305843009213693951 : Int64)), .second, .val (.long w200), .second, .val (.long w201), .second, .val (.long w202), .second, .val (.long ((w200 + w201) + w202)), .second, .val (.long pl203), .second, .val (.ref b204), .val (.ref b212), .val (.ref b224), .val (.ref b240), .val (.long (w200 - pl203)), .second, .val (.int (0 : Int32)), .val (.long (w200 - pl203)), .second, .unset, .unset]) (rest := [(.long (w200 - pl203))]) (hb hby at_248)) ?_
    show own_End p e below s _ _ _ (T266.setTop (mkF m 249 #[.val (.long p1), .second, .val (.long p2), .second, .val (.long p3), .second, .val (.long p4), .second, .val (.long (2305843009213693951 : Int64)), .second, .val (.long w200), .second, .val (.long w201), .second, .val (.long w202), .second, .val (.long ((w200 + w201) + w202)), .second, .val (.long pl203), .second, .val (.ref b204), .val (.ref b212), .val (.ref b224), .val (.ref b240), .val (.long (w200 - pl203)), .second, .val (.int (0 : Int32)), .val (.long (w200 - pl203)), .second, .unset, .unset] [(.long w200), (.long (w200 - pl203))]))
    refine own_go (fun t k => XT.lcmp X266.here hx rfl (hb hby at_249) rfl k) ?_
    show own_End p e below s _ _ _ (T266.setTop (mkF m 250 #[.val (.long p1), .second, .val (.long p2), .second, .val (.long p3), .second, .val (.long p4), .second, .val (.long (2305843009213693951 : Int64)), .second, .val (.long w200), .second, .val (.long w201), .second, .val (.long w202), .second, .val (.long ((w200 + w201) + w202)), .second, .val (.long pl203), .second, .val (.ref b204), .val (.ref b212), .val (.ref b224), .val (.ref b240), .val (.long (w200 - pl203)), .second, .val (.int (0 : Int32)), .val (.long (w200 - pl203)), .second, .unset, .unset] [(.int (XT.cmpL (w200 - pl203) w200))]))
    refine own_go (fun t k => XS.ifNo X266.here hx rfl (hb hby at_250) rfl (own_lgtN rfl (by omega)) k) ?_
    show own_End p e below s _ _ _ (T266.setTop (mkF m 253 #[.val (.long p1), .second, .val (.long p2), .second, .val (.long p3), .second, .val (.long p4), .second, .val (.long (2305843009213693951 : Int64)), .second, .val (.long w200), .second, .val (.long w201), .second, .val (.long w202), .second, .val (.long ((w200 + w201) + w202)), .second, .val (.long pl203), .second, .val (.ref b204), .val (.ref b212), .val (.ref b224), .val (.ref b240), .val (.long (w200 - pl203)), .second, .val (.int (0 : Int32)), .val (.long (w200 - pl203)), .second, .unset, .unset] []))
    refine own_go (fun t k => XS.iconst X266.here hx rfl (hb hby at_253) k) ?_
    show own_End p e below s _ _ _ (T266.setTop (mkF m 254 #[.val (.long p1), .second, .val (.long p2), .second, .val (.long p3), .second, .val (.long p4), .second, .val (.long (2305843009213693951 : Int64)), .second, .val (.long w200), .second, .val (.long w201), .second, .val (.long w202), .second, .val (.long ((w200 + w201) + w202)), .second, .val (.long pl203), .second, .val (.ref b204), .val (.ref b212), .val (.ref b224), .val (.ref b240), .val (.long (w200 - pl203)), .second, .val (.int (0 : Int32)), .val (.long (w200 - pl203)), .second, .unset, .unset] [(.int (1 : Int32))]))
    refine own_go (fun t k => XS.goto X266.here hx rfl (pc0 := 254) (pc' := 258) rfl (hb hby at_254) (by decide) (by decide) k) ?_
    show own_End p e below s _ _ _ (T266.setTop (mkF m 258 #[.val (.long p1), .second, .val (.long p2), .second, .val (.long p3), .second, .val (.long p4), .second, .val (.long (2305843009213693951 : Int64)), .second, .val (.long w200), .second, .val (.long w201), .second, .val (.long w202), .second, .val (.long ((w200 + w201) + w202)), .second, .val (.long pl203), .second, .val (.ref b204), .val (.ref b212), .val (.ref b224), .val (.ref b240), .val (.long (w200 - pl203)), .second, .val (.int (0 : Int32)), .val (.long (w200 - pl203)), .second, .unset, .unset] [(.int (1 : Int32))]))
    refine own_go (fun t k => XS.istore X266.here hx rfl (hb hby at_258) rfl (l' := #[.val (.long p1), .second, .val (.long p2), .second, .val (.long p3), .second, .val (.long p4), .second, .val (.long (2305843009213693951 : Int64)), .second, .val (.long w200), .second, .val (.long w201), .second, .val (.long w202), .second, .val (.long ((w200 + w201) + w202)), .second, .val (.long pl203), .second, .val (.ref b204), .val (.ref b212), .val (.ref b224), .val (.ref b240), .val (.long (w200 - pl203)), .second, .val (.int (0 : Int32)), .val (.long (w200 - pl203)), .second, .val (.int (1 : Int32)), .unset]) rfl k) ?_
    show own_End p e below s _ _ _ (T266.setTop (mkF m 260 #[.val (.long p1), .second, .val (.long p2), .second, .val (.long p3), .second, .val (.long p4), .second, .val (.long (2305843009213693951 : Int64)), .second, .val (.long w200), .second, .val (.long w201), .second, .val (.long w202), .second, .val (.long ((w200 + w201) + w202)), .second, .val (.long pl203), .second, .val (.ref b204), .val (.ref b212), .val (.ref b224), .val (.ref b240), .val (.long (w200 - pl203)), .second, .val (.int (0 : Int32)), .val (.long (w200 - pl203)), .second, .val (.int (1 : Int32)), .unset] []))
    refine own_go (fun t k => XS.aload X266.here hx rfl (hb hby at_260) rfl rfl k) ?_
    show own_End p e below s _ _ _ (T266.setTop (mkF m 262 #[.val (.long p1), .second, .val (.long p2), .second, .val (.long p3), .second, .val (.long p4), .second, .val (.long (2305843009213693951 : Int64)), .second, .val (.long w200), .second, .val (.long w201), .second, .val (.long w202), .second, .val (.long ((w200 + w201) + w202)), .second, .val (.long pl203), .second, .val (.ref b204), .val (.ref b212), .val (.ref b224), .val (.ref b240), .val (.long (w200 - pl203)), .second, .val (.int (0 : Int32)), .val (.long (w200 - pl203)), .second, .val (.int (1 : Int32)), .unset] [(.ref b240)]))
    obtain ⟨v268, T268, L268, X268, hQ268, st268⟩ := own_callV X266 hx hZ (C := "com/example/ordinate/ordinate/core/PairBlocks$Sorted") (y := (⟨"com/example/ordinate/ordinate/core/PairBlocks$Sorted", "next", "()Z"⟩ : MethodName)) 0 hown (hw _ (List.mem_of_getElem? (i := 47) rfl)) (hw _ (List.mem_of_getElem? (i := 48) rfl)) (hw _ (List.mem_of_getElem? (i := 50) rfl)) (hw _ (List.mem_of_getElem? (i := 49) rfl)) (hw _ (List.mem_of_getElem? (i := 6) rfl)) (hw _ (List.mem_of_getElem? (i := 51) rfl)) (by decide) (rm8_0 l Z a0 hw [] b240 h256 n0 Z256 b204 b212 b224 so (Nat.ne_of_gt lt_b240_so) nb240 f260 g_at g_xs g_ys g_ws g_so f261) e267 f260 (pc := 262) (Ls := #[.val (.long p1), .second, .val (.long p2), .second, .val (.long p3), .second, .val (.long p4), .second, .val (.long (2305843009213693951 : Int64)), .second, .val (.long w200), .second, .val (.long w201), .second, .val (.long w202), .second, .val (.long ((w200 + w201) + w202)), .second, .val (.long pl203), .second, .val (.ref b204), .val (.ref b212), .val (.ref b224), .val (.ref b240), .val (.long (w200 - pl203)), .second, .val (.int (0 : Int32)), .val (.long (w200 - pl203)), .second, .val (.int (1 : Int32)), .unset]) [] [] (by rw [hml]; rfl) rfl rfl (lenOf pd__Z rfl) (Nat.le_of_eq rfl) (hb hby at_262) (by decide) (by decide) (by decide) (by decide)
    obtain ⟨rfl, Nz⟩ := hQ268
    have N_z := Fr.app N267 Nz
    refine own_go st268 ?_
    show own_End p e below s _ _ _ (T268.setTop (mkF m 265 #[.val (.long p1), .second, .val (.long p2), .second, .val (.long p3), .second, .val (.long p4), .second, .val (.long (2305843009213693951 : Int64)), .second, .val (.long w200), .second, .val (.long w201), .second, .val (.long w202), .second, .val (.long ((w200 + w201) + w202)), .second, .val (.long pl203), .second, .val (.ref b204), .val (.ref b212), .val (.ref b224), .val (.ref b240), .val (.long (w200 - pl203)), .second, .val (.int (0 : Int32)), .val (.long (w200 - pl203)), .second, .val (.int (1 : Int32)), .unset] [(.int (1 : Int32))]))
    refine own_go (fun t k => XS.istore X268.here hx rfl (hb hby at_265) rfl (l' := #[.val (.long p1), .second, .val (.long p2), .second, .val (.long p3), .second, .val (.long p4), .second, .val (.long (2305843009213693951 : Int64)), .second, .val (.long w200), .second, .val (.long w201), .second, .val (.long w202), .second, .val (.long ((w200 + w201) + w202)), .second, .val (.long pl203), .second, .val (.ref b204), .val (.ref b212), .val (.ref b224), .val (.ref b240), .val (.long (w200 - pl203)), .second, .val (.int (0 : Int32)), .val (.long (w200 - pl203)), .second, .val (.int (1 : Int32)), .val (.int (1 : Int32))]) rfl k) ?_
    show own_End p e below s _ _ _ (T268.setTop (mkF m 267 #[.val (.long p1), .second, .val (.long p2), .second, .val (.long p3), .second, .val (.long p4), .second, .val (.long (2305843009213693951 : Int64)), .second, .val (.long w200), .second, .val (.long w201), .second, .val (.long w202), .second, .val (.long ((w200 + w201) + w202)), .second, .val (.long pl203), .second, .val (.ref b204), .val (.ref b212), .val (.ref b224), .val (.ref b240), .val (.long (w200 - pl203)), .second, .val (.int (0 : Int32)), .val (.long (w200 - pl203)), .second, .val (.int (1 : Int32)), .val (.int (1 : Int32))] []))
    refine own_go (fun t k => XS.iload X268.here hx rfl (hb hby at_267) rfl k) ?_
    show own_End p e below s _ _ _ (T268.setTop (mkF m 269 #[.val (.long p1), .second, .val (.long p2), .second, .val (.long p3), .second, .val (.long p4), .second, .val (.long (2305843009213693951 : Int64)), .second, .val (.long w200), .second, .val (.long w201), .second, .val (.long w202), .second, .val (.long ((w200 + w201) + w202)), .second, .val (.long pl203), .second, .val (.ref b204), .val (.ref b212), .val (.ref b224), .val (.ref b240), .val (.long (w200 - pl203)), .second, .val (.int (0 : Int32)), .val (.long (w200 - pl203)), .second, .val (.int (1 : Int32)), .val (.int (1 : Int32))] [(.int (1 : Int32))]))
    refine own_go (fun t k => XS.ifNo X268.here hx rfl (hb hby at_269) rfl rfl k) ?_
    show own_End p e below s _ _ _ (T268.setTop (mkF m 272 #[.val (.long p1), .second, .val (.long p2), .second, .val (.long p3), .second, .val (.long p4), .second, .val (.long (2305843009213693951 : Int64)), .second, .val (.long w200), .second, .val (.long w201), .second, .val (.long w202), .second, .val (.long ((w200 + w201) + w202)), .second, .val (.long pl203), .second, .val (.ref b204), .val (.ref b212), .val (.ref b224), .val (.ref b240), .val (.long (w200 - pl203)), .second, .val (.int (0 : Int32)), .val (.long (w200 - pl203)), .second, .val (.int (1 : Int32)), .val (.int (1 : Int32))] []))
    refine own_go (fun t k => XS.iload X268.here hx rfl (hb hby at_272) rfl k) ?_
    show own_End p e below s _ _ _ (T268.setTop (mkF m 274 #[.val (.long p1), .second, .val (.long p2), .second, .val (.long p3), .second, .val (.long p4), .second, .val (.long (2305843009213693951 : Int64)), .second, .val (.long w200), .second, .val (.long w201), .second, .val (.long w202), .second, .val (.long ((w200 + w201) + w202)), .second, .val (.long pl203), .second, .val (.ref b204), .val (.ref b212), .val (.ref b224), .val (.ref b240), .val (.long (w200 - pl203)), .second, .val (.int (0 : Int32)), .val (.long (w200 - pl203)), .second, .val (.int (1 : Int32)), .val (.int (1 : Int32))] [(.int (1 : Int32))]))
    refine own_go (fun t k => XS.iload X268.here hx rfl (hb hby at_274) rfl k) ?_
    show own_End p e below s _ _ _ (T268.setTop (mkF m 276 #[.val (.long p1), .second, .val (.long p2), .second, .val (.long p3), .second, .val (.long p4), .second, .val (.long (2305843009213693951 : Int64)), .second, .val (.long w200), .second, .val (.long w201), .second, .val (.long w202), .second, .val (.long ((w200 + w201) + w202)), .second, .val (.long pl203), .second, .val (.ref b204), .val (.ref b212), .val (.ref b224), .val (.ref b240), .val (.long (w200 - pl203)), .second, .val (.int (0 : Int32)), .val (.long (w200 - pl203)), .second, .val (.int (1 : Int32)), .val (.int (1 : Int32))] [(.int (0 : Int32)), (.int (1 : Int32))]))
    refine own_go (fun t k => XS.iconst X268.here hx rfl (hb hby at_276) k) ?_
    show own_End p e below s _ _ _ (T268.setTop (mkF m 277 #[.val (.long p1), .second, .val (.long p2), .second, .val (.long p3), .second, .val (.long p4), .second, .val (.long (2305843009213693951 : Int64)), .second, .val (.long w200), .second, .val (.long w201), .second, .val (.long w202), .second, .val (.long ((w200 + w201) + w202)), .second, .val (.long pl203), .second, .val (.ref b204), .val (.ref b212), .val (.ref b224), .val (.ref b240), .val (.long (w200 - pl203)), .second, .val (.int (0 : Int32)), .val (.long (w200 - pl203)), .second, .val (.int (1 : Int32)), .val (.int (1 : Int32))] [(.int (2 : Int32)), (.int (0 : Int32)), (.int (1 : Int32))]))
    refine own_go (fun t k => XS.icmpNo X268.here hx rfl (hb hby at_277) rfl (by decide) k) ?_
    show own_End p e below s _ _ _ (T268.setTop (mkF m 280 #[.val (.long p1), .second, .val (.long p2), .second, .val (.long p3), .second, .val (.long p4), .second, .val (.long (2305843009213693951 : Int64)), .second, .val (.long w200), .second, .val (.long w201), .second, .val (.long w202), .second, .val (.long ((w200 + w201) + w202)), .second, .val (.long pl203), .second, .val (.ref b204), .val (.ref b212), .val (.ref b224), .val (.ref b240), .val (.long (w200 - pl203)), .second, .val (.int (0 : Int32)), .val (.long (w200 - pl203)), .second, .val (.int (1 : Int32)), .val (.int (1 : Int32))] [(.int (1 : Int32))]))
    refine own_go (fun t k => XS.iconst X268.here hx rfl (hb hby at_280) k) ?_
    show own_End p e below s _ _ _ (T268.setTop (mkF m 281 #[.val (.long p1), .second, .val (.long p2), .second, .val (.long p3), .second, .val (.long p4), .second, .val (.long (2305843009213693951 : Int64)), .second, .val (.long w200), .second, .val (.long w201), .second, .val (.long w202), .second, .val (.long ((w200 + w201) + w202)), .second, .val (.long pl203), .second, .val (.ref b204), .val (.ref b212), .val (.ref b224), .val (.ref b240), .val (.long (w200 - pl203)), .second, .val (.int (0 : Int32)), .val (.long (w200 - pl203)), .second, .val (.int (1 : Int32)), .val (.int (1 : Int32))] [(.int (1 : Int32)), (.int (1 : Int32))]))
    refine own_go (fun t k => XS.goto X268.here hx rfl (pc0 := 281) (pc' := 285) rfl (hb hby at_281) (by decide) (by decide) k) ?_
    show own_End p e below s _ _ _ (T268.setTop (mkF m 285 #[.val (.long p1), .second, .val (.long p2), .second, .val (.long p3), .second, .val (.long p4), .second, .val (.long (2305843009213693951 : Int64)), .second, .val (.long w200), .second, .val (.long w201), .second, .val (.long w202), .second, .val (.long ((w200 + w201) + w202)), .second, .val (.long pl203), .second, .val (.ref b204), .val (.ref b212), .val (.ref b224), .val (.ref b240), .val (.long (w200 - pl203)), .second, .val (.int (0 : Int32)), .val (.long (w200 - pl203)), .second, .val (.int (1 : Int32)), .val (.int (1 : Int32))] [(.int (1 : Int32)), (.int (1 : Int32))]))
    refine own_go (fun t k => XS.icmpNo X268.here hx rfl (hb hby at_285) rfl (by decide) k) ?_
    show own_End p e below s _ _ _ (T268.setTop (mkF m 288 #[.val (.long p1), .second, .val (.long p2), .second, .val (.long p3), .second, .val (.long p4), .second, .val (.long (2305843009213693951 : Int64)), .second, .val (.long w200), .second, .val (.long w201), .second, .val (.long w202), .second, .val (.long ((w200 + w201) + w202)), .second, .val (.long pl203), .second, .val (.ref b204), .val (.ref b212), .val (.ref b224), .val (.ref b240), .val (.long (w200 - pl203)), .second, .val (.int (0 : Int32)), .val (.long (w200 - pl203)), .second, .val (.int (1 : Int32)), .val (.int (1 : Int32))] []))
    refine own_go (fun t k => XS.iconst X268.here hx rfl (hb hby at_288) k) ?_
    show own_End p e below s _ _ _ (T268.setTop (mkF m 289 #[.val (.long p1), .second, .val (.long p2), .second, .val (.long p3), .second, .val (.long p4), .second, .val (.long (2305843009213693951 : Int64)), .second, .val (.long w200), .second, .val (.long w201), .second, .val (.long w202), .second, .val (.long ((w200 + w201) + w202)), .second, .val (.long pl203), .second, .val (.ref b204), .val (.ref b212), .val (.ref b224), .val (.ref b240), .val (.long (w200 - pl203)), .second, .val (.int (0 : Int32)), .val (.long (w200 - pl203)), .second, .val (.int (1 : Int32)), .val (.int (1 : Int32))] [(.int (1 : Int32))]))
    refine own_go (fun t k => XS.goto X268.here hx rfl (pc0 := 289) (pc' := 293) rfl (hb hby at_289) (by decide) (by decide) k) ?_
    show own_End p e below s _ _ _ (T268.setTop (mkF m 293 #[.val (.long p1), .second, .val (.long p2), .second, .val (.long p3), .second, .val (.long p4), .second, .val (.long (2305843009213693951 : Int64)), .second, .val (.long w200), .second, .val (.long w201), .second, .val (.long w202), .second, .val (.long ((w200 + w201) + w202)), .second, .val (.long pl203), .second, .val (.ref b204), .val (.ref b212), .val (.ref b224), .val (.ref b240), .val (.long (w200 - pl203)), .second, .val (.int (0 : Int32)), .val (.long (w200 - pl203)), .second, .val (.int (1 : Int32)), .val (.int (1 : Int32))] [(.int (1 : Int32))]))
    exact own_retN X268 hx (t := .boolean) hret hlk (by simp) (hb hby at_293) ⟨rfl, N_z⟩ (by decide) (by decide)
  have hp0 : w200.toInt ≤ pl203.toInt := by omega
  clear hp
  by_cases hp : pl203.toInt < w200.toInt + w201.toInt
  ·
    obtain ⟨v269, T269, L269, X269, hQ269, st269⟩ := own_callV X249 hx hZ (C := "com/example/ordinate/ordinate/core/PairBlocks$Sorted") (y := (⟨"com/example/ordinate/ordinate/core/PairBlocks$Sorted", "skip", "(J)J"⟩ : MethodName)) 0 hown (hw _ (List.mem_of_getElem? (i := 27) rfl)) (hw _ (List.mem_of_getElem? (i := 28) rfl)) (hw _ (List.mem_of_getElem? (i := 30) rfl)) (hw _ (List.mem_of_getElem? (i := 29) rfl)) (hw _ (List.mem_of_getElem? (i := 6) rfl)) (hw _ (List.mem_of_getElem? (i := 31) rfl)) (by decide) (rm4_1 l Z a0 hw [] b240 pl203 h250 n0 Z250 w200 w201 w202 b204 b212 b224 so (Nat.ne_of_lt lt_b224_b240) (Nat.ne_of_gt lt_b240_so) nb240 f254 f_at f_xs f_ys f_ws f_so Fso f253 hs1 hs2 hp0 hp) e250 f254 (pc := 124) (Ls := #[.val (.long p1), .second, .val (.long p2), .second, .val (.long p3), .second, .val (.long p4), .second, .val (.long (2305843009213693951 : Int64)), .second, .val (.long w200), .second, .val (.long w201), .second, .val (.long w202), .second, .val (.long ((w200 + w201) + w202)), .second, .val (.long pl203), .second, .val (.ref b204), .val (.ref b212), .val (.ref b224), .val (.ref b240), .unset, .unset, .unset, .unset, .unset, .unset, .unset]) [(.long pl203)] [] (by rw [hml]; rfl) rfl rfl (lenOf pd_J_J rfl) (Nat.le_of_eq rfl) (hb hby at_124) (by decide) (by decide) (by decide) (by decide)
    obtain ⟨h270, e270⟩ : ∃ z, T269.heap = z := ⟨_, rfl⟩
    rw [e270] at hQ269
    obtain ⟨rfl, Nk, Kk, g_at, g_xs, g_ys, g_ws, g_so⟩ := hQ269
    have N_k := Fr.app N_c Nk
    have Z270 : n0 ≤ h270.size := Nat.le_trans Z250 Kk.1
    have f271 := f251.keep Kk (ninS (Nat.ne_of_lt lt_b204_b240) nin0)
    have f272 := f252.keep Kk (ninS (Nat.ne_of_lt lt_b212_b240) nin0)
    have f273 := f253.keep Kk (ninS (Nat.ne_of_lt lt_b224_b240) nin0)
    have f274 := f254.keep Kk
    have f275 := Fso.keep Kk (ninS (Nat.ne_of_gt lt_b240_so) nin0)
    refine own_go st269 ?_
    show own_End p e below s _ _ _ (T269.setTop (mkF m 127 #[.val (.long p1), .second, .val (.long p2), .second, .val (.long p3), .second, .val (.long p4), .second, .val (.long (2305843009213693951 : Int64)), .second, .val (.long w200), .second, .val (.long w201), .second, .val (.long w202), .second, .val (.long ((w200 + w201) + w202)), .second, .val (.long pl203), .second, .val (.ref b204), .val (.ref b212), .val (.ref b224), .val (.ref b240), .unset, .unset, .unset, .unset, .unset, .unset, .unset] [(.long ((w200 + w201) - pl203))]))
    refine own_go (fun t k => XT.lstore X269.here hx rfl (hb hby at_127) rfl (l' := #[.val (.long p1), .second, .val (.long p2), .second, .val (.long p3), .second, .val (.long p4), .second, .val (.long (2305843009213693951 : Int64)), .second, .val (.long w200), .second, .val (.long w201), .second, .val (.long w202), .second, .val (.long ((w200 + w201) + w202)), .second, .val (.long pl203), .second, .val (.ref b204), .val (.ref b212), .val (.ref b224), .val (.ref b240), .val (.long ((w200 + w201) - pl203)), .second, .unset, .unset, .unset, .unset, .unset]) rfl k) ?_
    show own_End p e below s _ _ _ (T269.setTop (mkF m 129 #[.val (.long p1), .second, .val (.long p2), .second, .val (.long p3), .second, .val (.long p4), .second, .val (.long (2305843009213693951 : Int64)), .second, .val (.long w200), .second, .val (.long w201), .second, .val (.long w202), .second, .val (.long ((w200 + w201) + w202)), .second, .val (.long pl203), .second, .val (.ref b204), .val (.ref b212), .val (.ref b224), .val (.ref b240), .val (.long ((w200 + w201) - pl203)), .second, .unset, .unset, .unset, .unset, .unset] []))
    refine own_go (fun t k => XT.lload X269.here hx rfl (hb hby at_129) rfl k) ?_
    show own_End p e below s _ _ _ (T269.setTop (mkF m 131 #[.val (.long p1), .second, .val (.long p2), .second, .val (.long p3), .second, .val (.long p4), .second, .val (.long (2305843009213693951 : Int64)), .second, .val (.long w200), .second, .val (.long w201), .second, .val (.long w202), .second, .val (.long ((w200 + w201) + w202)), .second, .val (.long pl203), .second, .val (.ref b204), .val (.ref b212), .val (.ref b224), .val (.ref b240), .val (.long ((w200 + w201) - pl203)), .second, .unset, .unset, .unset, .unset, .unset] [(.long pl203)]))
    refine own_go (fun t k => XT.lload X269.here hx rfl (hb hby at_131) rfl k) ?_
    show own_End p e below s _ _ _ (T269.setTop (mkF m 133 #[.val (.long p1), .second, .val (.long p2), .second, .val (.long p3), .second, .val (.long p4), .second, .val (.long (2305843009213693951 : Int64)), .second, .val (.long w200), .second, .val (.long w201), .second, .val (.long w202), .second, .val (.long ((w200 + w201) + w202)), .second, .val (.long pl203), .second, .val (.ref b204), .val (.ref b212), .val (.ref b224), .val (.ref b240), .val (.long ((w200 + w201) - pl203)), .second, .unset, .unset, .unset, .unset, .unset] [(.long w200), (.long pl203)]))
    refine own_go (fun t k => XT.lcmp X269.here hx rfl (hb hby at_133) rfl k) ?_
    show own_End p e below s _ _ _ (T269.setTop (mkF m 134 #[.val (.long p1), .second, .val (.long p2), .second, .val (.long p3), .second, .val (.long p4), .second, .val (.long (2305843009213693951 : Int64)), .second, .val (.long w200), .second, .val (.long w201), .second, .val (.long w202), .second, .val (.long ((w200 + w201) + w202)), .second, .val (.long pl203), .second, .val (.ref b204), .val (.ref b212), .val (.ref b224), .val (.ref b240), .val (.long ((w200 + w201) - pl203)), .second, .unset, .unset, .unset, .unset, .unset] [(.int (XT.cmpL pl203 w200))]))
    refine own_go (fun t k => XS.ifYes X269.here hx rfl (pc0 := 134) (pc' := 150) rfl (hb hby at_134) rfl (own_lgeY (k := w200.toInt) rfl (by omega)) (by decide) (by decide) k) ?_
    show own_End p e below s _ _ _ (T269.setTop (mkF m 150 #[.val (.long p1), .second, .val (.long p2), .second, .val (.long p3), .second, .val (.long p4), .second, .val (.long (2305843009213693951 : Int64)), .second, .val (.long w200), .second, .val (.long w201), .second, .val (.long w202), .second, .val (.long ((w200 + w201) + w202)), .second, .val (.long pl203), .second, .val (.ref b204), .val (.ref b212), .val (.ref b224), .val (.ref b240), .val (.long ((w200 + w201) - pl203)), .second, .unset, .unset, .unset, .unset, .unset] []))
    refine own_go (fun t k => XT.lload X269.here hx rfl (hb hby at_150) rfl k) ?_
    show own_End p e below s _ _ _ (T269.setTop (mkF m 152 #[.val (.long p1), .second, .val (.long p2), .second, .val (.long p3), .second, .val (.long p4), .second, .val (.long (2305843009213693951 : Int64)), .second, .val (.long w200), .second, .val (.long w201), .second, .val (.long w202), .second, .val (.long ((w200 + w201) + w202)), .second, .val (.long pl203), .second, .val (.ref b204), .val (.ref b212), .val (.ref b224), .val (.ref b240), .val (.long ((w200 + w201) - pl203)), .second, .unset, .unset, .unset, .unset, .unset] [(.long pl203)]))
    refine own_go (fun t k => XT.lload X269.here hx rfl (hb hby at_152) rfl k) ?_
    show own_End p e below s _ _ _ (T269.setTop (mkF m 154 #[.val (.long p1), .second, .val (.long p2), .second, .val (.long p3), .second, .val (.long p4), .second, .val (.long (2305843009213693951 : Int64)), .second, .val (.long w200), .second, .val (.long w201), .second, .val (.long w202), .second, .val (.long ((w200 + w201) + w202)), .second, .val (.long pl203), .second, .val (.ref b204), .val (.ref b212), .val (.ref b224), .val (.ref b240), .val (.long ((w200 + w201) - pl203)), .second, .unset, .unset, .unset, .unset, .unset] [(.long w200), (.long pl203)]))
    refine own_go (fun t k => XT.lload X269.here hx rfl (hb hby at_154) rfl k) ?_
    show own_End p e below s _ _ _ (T269.setTop (mkF m 156 #[.val (.long p1), .second, .val (.long p2), .second, .val (.long p3), .second, .val (.long p4), .second, .val (.long (2305843009213693951 : Int64)), .second, .val (.long w200), .second, .val (.long w201), .second, .val (.long w202), .second, .val (.long ((w200 + w201) + w202)), .second, .val (.long pl203), .second, .val (.ref b204), .val (.ref b212), .val (.ref b224), .val (.ref b240), .val (.long ((w200 + w201) - pl203)), .second, .unset, .unset, .unset, .unset, .unset] [(.long w201), (.long w200), (.long pl203)]))
    refine own_go (fun t k => XT.ladd X269.here hx rfl (hb hby at_156) rfl k) ?_
    show own_End p e below s _ _ _ (T269.setTop (mkF m 157 #[.val (.long p1), .second, .val (.long p2), .second, .val (.long p3), .second, .val (.long p4), .second, .val (.long (2305843009213693951 : Int64)), .second, .val (.long w200), .second, .val (.long w201), .second, .val (.long w202), .second, .val (.long ((w200 + w201) + w202)), .second, .val (.long pl203), .second, .val (.ref b204), .val (.ref b212), .val (.ref b224), .val (.ref b240), .val (.long ((w200 + w201) - pl203)), .second, .unset, .unset, .unset, .unset, .unset] [(.long (w200 + w201)), (.long pl203)]))
    refine own_go (fun t k => XT.lcmp X269.here hx rfl (hb hby at_157) rfl k) ?_
    show own_End p e below s _ _ _ (T269.setTop (mkF m 158 #[.val (.long p1), .second, .val (.long p2), .second, .val (.long p3), .second, .val (.long p4), .second, .val (.long (2305843009213693951 : Int64)), .second, .val (.long w200), .second, .val (.long w201), .second, .val (.long w202), .second, .val (.long ((w200 + w201) + w202)), .second, .val (.long pl203), .second, .val (.ref b204), .val (.ref b212), .val (.ref b224), .val (.ref b240), .val (.long ((w200 + w201) - pl203)), .second, .unset, .unset, .unset, .unset, .unset] [(.int (XT.cmpL pl203 (w200 + w201)))]))
    refine own_go (fun t k => XS.ifNo X269.here hx rfl (hb hby at_158) rfl (own_lgeN (k := w200.toInt + w201.toInt) hs1 (by omega)) k) ?_
    show own_End p e below s _ _ _ (T269.setTop (mkF m 161 #[.val (.long p1), .second, .val (.long p2), .second, .val (.long p3), .second, .val (.long p4), .second, .val (.long (2305843009213693951 : Int64)), .second, .val (.long w200), .second, .val (.long w201), .second, .val (.long w202), .second, .val (.long ((w200 + w201) + w202)), .second, .val (.long pl203), .second, .val (.ref b204), .val (.ref b212), .val (.ref b224), .val (.ref b240), .val (.long ((w200 + w201) - pl203)), .second, .unset, .unset, .unset, .unset, .unset] []))
    refine own_go (fun t k => XS.iconst X269.here hx rfl (hb hby at_161) k) ?_
    show own_End p e below s _ _ _ (T269.setTop (mkF m 162 #[.val (.long p1), .second, .val (.long p2), .second, .val (.long p3), .second, .val (.long p4), .second, .val (.long (2305843009213693951 : Int64)), .second, .val (.long w200), .second, .val (.long w201), .second, .val (.long w202), .second, .val (.long ((w200 + w201) + w202)), .second, .val (.long pl203), .second, .val (.ref b204), .val (.ref b212), .val (.ref b224), .val (.ref b240), .val (.long ((w200 + w201) - pl203)), .second, .unset, .unset, .unset, .unset, .unset] [(.int (1 : Int32))]))
    refine own_go (fun t k => XS.istore X269.here hx rfl (hb hby at_162) rfl (l' := #[.val (.long p1), .second, .val (.long p2), .second, .val (.long p3), .second, .val (.long p4), .second, .val (.long (2305843009213693951 : Int64)), .second, .val (.long w200), .second, .val (.long w201), .second, .val (.long w202), .second, .val (.long ((w200 + w201) + w202)), .second, .val (.long pl203), .second, .val (.ref b204), .val (.ref b212), .val (.ref b224), .val (.ref b240), .val (.long ((w200 + w201) - pl203)), .second, .val (.int (1 : Int32)), .unset, .unset, .unset, .unset]) rfl k) ?_
    show own_End p e below s _ _ _ (T269.setTop (mkF m 164 #[.val (.long p1), .second, .val (.long p2), .second, .val (.long p3), .second, .val (.long p4), .second, .val (.long (2305843009213693951 : Int64)), .second, .val (.long w200), .second, .val (.long w201), .second, .val (.long w202), .second, .val (.long ((w200 + w201) + w202)), .second, .val (.long pl203), .second, .val (.ref b204), .val (.ref b212), .val (.ref b224), .val (.ref b240), .val (.long ((w200 + w201) - pl203)), .second, .val (.int (1 : Int32)), .unset, .unset, .unset, .unset] []))
    refine own_go (fun t k => XT.lload X269.here hx rfl (hb hby at_164) rfl k) ?_
    show own_End p e below s _ _ _ (T269.setTop (mkF m 166 #[.val (.long p1), .second, .val (.long p2), .second, .val (.long p3), .second, .val (.long p4), .second, .val (.long (2305843009213693951 : Int64)), .second, .val (.long w200), .second, .val (.long w201), .second, .val (.long w202), .second, .val (.long ((w200 + w201) + w202)), .second, .val (.long pl203), .second, .val (.ref b204), .val (.ref b212), .val (.ref b224), .val (.ref b240), .val (.long ((w200 + w201) - pl203)), .second, .val (.int (1 : Int32)), .unset, .unset, .unset, .unset] [(.long w200)]))
    refine own_go (fun t k => XT.lload X269.here hx rfl (hb hby at_166) rfl k) ?_
    show own_End p e below s _ _ _ (T269.setTop (mkF m 168 #[.val (.long p1), .second, .val (.long p2), .second, .val (.long p3), .second, .val (.long p4), .second, .val (.long (2305843009213693951 : Int64)), .second, .val (.long w200), .second, .val (.long w201), .second, .val (.long w202), .second, .val (.long ((w200 + w201) + w202)), .second, .val (.long pl203), .second, .val (.ref b204), .val (.ref b212), .val (.ref b224), .val (.ref b240), .val (.long ((w200 + w201) - pl203)), .second, .val (.int (1 : Int32)), .unset, .unset, .unset, .unset] [(.long w201), (.long w200)]))
    refine own_go (fun t k => XT.ladd X269.here hx rfl (hb hby at_168) rfl k) ?_
    show own_End p e below s _ _ _ (T269.setTop (mkF m 169 #[.val (.long p1), .second, .val (.long p2), .second, .val (.long p3), .second, .val (.long p4), .second, .val (.long (2305843009213693951 : Int64)), .second, .val (.long w200), .second, .val (.long w201), .second, .val (.long w202), .second, .val (.long ((w200 + w201) + w202)), .second, .val (.long pl203), .second, .val (.ref b204), .val (.ref b212), .val (.ref b224), .val (.ref b240), .val (.long ((w200 + w201) - pl203)), .second, .val (.int (1 : Int32)), .unset, .unset, .unset, .unset] [(.long (w200 + w201))]))
    refine own_go (fun t k => XT.lload X269.here hx rfl (hb hby at_169) rfl k) ?_
    show own_End p e below s _ _ _ (T269.setTop (mkF m 171 #[.val (.long p1), .second, .val (.long p2), .second, .val (.long p3), .second, .val (.long p4), .second, .val (.long (2305843009213693951 : Int64)), .second, .val (.long w200), .second, .val (.long w201), .second, .val (.long w202), .second, .val (.long ((w200 + w201) + w202)), .second, .val (.long pl203), .second, .val (.ref b204), .val (.ref b212), .val (.ref b224), .val (.ref b240), .val (.long ((w200 + w201) - pl203)), .second, .val (.int (1 : Int32)), .unset, .unset, .unset, .unset] [(.long pl203), (.long (w200 + w201))]))
    refine own_go (fun t k => XT.lsub X269.here hx rfl (hb hby at_171) rfl k) ?_
    show own_End p e below s _ _ _ (T269.setTop (mkF m 172 #[.val (.long p1), .second, .val (.long p2), .second, .val (.long p3), .second, .val (.long p4), .second, .val (.long (2305843009213693951 : Int64)), .second, .val (.long w200), .second, .val (.long w201), .second, .val (.long w202), .second, .val (.long ((w200 + w201) + w202)), .second, .val (.long pl203), .second, .val (.ref b204), .val (.ref b212), .val (.ref b224), .val (.ref b240), .val (.long ((w200 + w201) - pl203)), .second, .val (.int (1 : Int32)), .unset, .unset, .unset, .unset] [(.long ((w200 + w201) - pl203))]))
    refine own_go (fun t k => XT.lstore X269.here hx rfl (hb hby at_172) rfl (l' := #[.val (.long p1), .second, .val (.long p2), .second, .val (.long p3), .second, .val (.long p4), .second, .val (.long (2305843009213693951 : Int64)), .second, .val (.long w200), .second, .val (.long w201), .second, .val (.long w202), .second, .val (.long ((w200 + w201) + w202)), .second, .val (.long pl203), .second, .val (.ref b204), .val (.ref b212), .val (.ref b224), .val (.ref b240), .val (.long ((w200 + w201) - pl203)), .second, .val (.int (1 : Int32)), .val (.long ((w200 + w201) - pl203)), .second, .unset, .unset]) rfl k) ?_
    show own_End p e below s _ _ _ (T269.setTop (mkF m 174 #[.val (.long p1), .second, .val (.long p2), .second, .val (.long p3), .second, .val (.long p4), .second, .val (.long (2305843009213693951 : Int64)), .second, .val (.long w200), .second, .val (.long w201), .second, .val (.long w202), .second, .val (.long ((w200 + w201) + w202)), .second, .val (.long pl203), .second, .val (.ref b204), .val (.ref b212), .val (.ref b224), .val (.ref b240), .val (.long ((w200 + w201) - pl203)), .second, .val (.int (1 : Int32)), .val (.long ((w200 + w201) - pl203)), .second, .unset, .unset] []))
    refine own_go (fun t k => XS.goto X269.here hx rfl (pc0 := 174) (pc' := 187) rfl (hb hby at_174) (by decide) (by decide) k) ?_
    show own_End p e below s _ _ _ (T269.setTop (mkF m 187 #[.val (.long p1), .second, .val (.long p2), .second, .val (.long p3), .second, .val (.long p4), .second, .val (.long (2305843009213693951 : Int64)), .second, .val (.long w200), .second, .val (.long w201), .second, .val (.long w202), .second, .val (.long ((w200 + w201) + w202)), .second, .val (.long pl203), .second, .val (.ref b204), .val (.ref b212), .val (.ref b224), .val (.ref b240), .val (.long ((w200 + w201) - pl203)), .second, .val (.int (1 : Int32)), .val (.long ((w200 + w201) - pl203)), .second, .unset, .unset] []))
    refine own_go (fun t k => XT.lload X269.here hx rfl (hb hby at_187) rfl k) ?_
    show own_End p e below s _ _ _ (T269.setTop (mkF m 189 #[.val (.long p1), .second, .val (.long p2), .second, .val (.long p3), .second, .val (.long p4), .second, .val (.long (2305843009213693951 : Int64)), .second, .val (.long w200), .second, .val (.long w201), .second, .val (.long w202), .second, .val (.long ((w200 + w201) + w202)), .second, .val (.long pl203), .second, .val (.ref b204), .val (.ref b212), .val (.ref b224), .val (.ref b240), .val (.long ((w200 + w201) - pl203)), .second, .val (.int (1 : Int32)), .val (.long ((w200 + w201) - pl203)), .second, .unset, .unset] [(.long ((w200 + w201) - pl203))]))
    refine own_go (fun t k => XT.lload X269.here hx rfl (hb hby at_189) rfl k) ?_
    show own_End p e below s _ _ _ (T269.setTop (mkF m 191 #[.val (.long p1), .second, .val (.long p2), .second, .val (.long p3), .second, .val (.long p4), .second, .val (.long (2305843009213693951 : Int64)), .second, .val (.long w200), .second, .val (.long w201), .second, .val (.long w202), .second, .val (.long ((w200 + w201) + w202)), .second, .val (.long pl203), .second, .val (.ref b204), .val (.ref b212), .val (.ref b224), .val (.ref b240), .val (.long ((w200 + w201) - pl203)), .second, .val (.int (1 : Int32)), .val (.long ((w200 + w201) - pl203)), .second, .unset, .unset] [(.long ((w200 + w201) - pl203)), (.long ((w200 + w201) - pl203))]))
    refine own_go (fun t k => XT.lcmp X269.here hx rfl (hb hby at_191) rfl k) ?_
    show own_End p e below s _ _ _ (T269.setTop (mkF m 192 #[.val (.long p1), .second, .val (.long p2), .second, .val (.long p3), .second, .val (.long p4), .second, .val (.long (2305843009213693951 : Int64)), .second, .val (.long w200), .second, .val (.long w201), .second, .val (.long w202), .second, .val (.long ((w200 + w201) + w202)), .second, .val (.long pl203), .second, .val (.ref b204), .val (.ref b212), .val (.ref b224), .val (.ref b240), .val (.long ((w200 + w201) - pl203)), .second, .val (.int (1 : Int32)), .val (.long ((w200 + w201) - pl203)), .second, .unset, .unset] [(.int (XT.cmpL ((w200 + w201) - pl203) ((w200 + w201) - pl203)))]))
    have hr : ((w200 + w201) - pl203).toInt = w200.toInt + w201.toInt - pl203.toInt := by
      rw [own_subJ (by omega) (by omega)]; omega
    refine own_go (fun t k => XS.ifNo X269.here hx rfl (hb hby at_192) rfl (own_lneN rfl (fun z => z rfl)) k) ?_
    show own_End p e below s _ _ _ (T269.setTop (mkF m 195 #[.val (.long p1), .second, .val (.long p2), .second, .val (.long p3), .second, .val (.long p4), .second, .val (.long (2305843009213693951 : Int64)), .second, .val (.long w200), .second, .val (.long w201), .second, .val (.long w202), .second, .val (.long ((w200 + w201) + w202)), .second, .val (.long pl203), .second, .val (.ref b204), .val (.ref b212), .val (.ref b224), .val (.ref b240), .val (.long ((w200 + w201) - pl203)), .second, .val (.int (1 : Int32)), .val (.long ((w200 + w201) - pl203)), .second, .unset, .unset] []))
    refine own_go (fun t k => XS.aload X269.here hx rfl (hb hby at_195) rfl rfl k) ?_
    show own_End p e below s _ _ _ (T269.setTop (mkF m 197 #[.val (.long p1), .second, .val (.long p2), .second, .val (.long p3), .second, .val (.long p4), .second, .val (.long (2305843009213693951 : Int64)), .second, .val (.long w200), .second, .val (.long w201), .second, .val (.long w202), .second, .val (.long ((w200 + w201) + w202)), .second, .val (.long pl203), .second, .val (.ref b204), .val (.ref b212), .val (.ref b224), .val (.ref b240), .val (.long ((w200 + w201) - pl203)), .second, .val (.int (1 : Int32)), .val (.long ((w200 + w201) - pl203)), .second, .unset, .unset] [(.ref b240)]))
    obtain ⟨v276, T276, L276, X276, hQ276, st276⟩ := own_callV X269 hx hZ (C := "com/example/ordinate/ordinate/core/PairBlocks$Sorted") (y := (⟨"com/example/ordinate/ordinate/core/PairBlocks$Sorted", "x", "()I"⟩ : MethodName)) 0 hown (hw _ (List.mem_of_getElem? (i := 32) rfl)) (hw _ (List.mem_of_getElem? (i := 33) rfl)) (hw _ (List.mem_of_getElem? (i := 35) rfl)) (hw _ (List.mem_of_getElem? (i := 34) rfl)) (hw _ (List.mem_of_getElem? (i := 6) rfl)) (hw _ (List.mem_of_getElem? (i := 36) rfl)) (by decide) (rm5 l Z a0 hw [] b240 h270 n0 Z270 8 b204 b212 b224 so 1 1 (by decide) (by decide) nb240 f274 g_at g_xs g_ys g_ws g_so f275 f271 rfl) e270 f274 (pc := 197) (Ls := #[.val (.long p1), .second, .val (.long p2), .second, .val (.long p3), .second, .val (.long p4), .second, .val (.long (2305843009213693951 : Int64)), .second, .val (.long w200), .second, .val (.long w201), .second, .val (.long w202), .second, .val (.long ((w200 + w201) + w202)), .second, .val (.long pl203), .second, .val (.ref b204), .val (.ref b212), .val (.ref b224), .val (.ref b240), .val (.long ((w200 + w201) - pl203)), .second, .val (.int (1 : Int32)), .val (.long ((w200 + w201) - pl203)), .second, .unset, .unset]) [] [] (by rw [hml]; rfl) rfl rfl (lenOf pd__I rfl) (Nat.le_of_eq rfl) (hb hby at_197) (by decide) (by decide) (by decide) (by decide)
    obtain ⟨rfl, Nd277, e277⟩ := hQ276
    have N277 := Fr.app N_k Nd277
    refine own_go st276 ?_
    show own_End p e below s _ _ _ (T276.setTop (mkF m 200 #[.val (.long p1), .second, .val (.long p2), .second, .val (.long p3), .second, .val (.long p4), .second, .val (.long (2305843009213693951 : Int64)), .second, .val (.long w200), .second, .val (.long w201), .second, .val (.long w202), .second, .val (.long ((w200 + w201) + w202)), .second, .val (.long pl203), .second, .val (.ref b204), .val (.ref b212), .val (.ref b224), .val (.ref b240), .val (.long ((w200 + w201) - pl203)), .second, .val (.int (1 : Int32)), .val (.long ((w200 + w201) - pl203)), .second, .unset, .unset] [(.int (8 : Int32))]))
    refine own_go (fun t k => XS.aload X276.here hx rfl (hb hby at_200) rfl rfl k) ?_
    show own_End p e below s _ _ _ (T276.setTop (mkF m 202 #[.val (.long p1), .second, .val (.long p2), .second, .val (.long p3), .second, .val (.long p4), .second, .val (.long (2305843009213693951 : Int64)), .second, .val (.long w200), .second, .val (.long w201), .second, .val (.long w202), .second, .val (.long ((w200 + w201) + w202)), .second, .val (.long pl203), .second, .val (.ref b204), .val (.ref b212), .val (.ref b224), .val (.ref b240), .val (.long ((w200 + w201) - pl203)), .second, .val (.int (1 : Int32)), .val (.long ((w200 + w201) - pl203)), .second, .unset, .unset] [(.ref b204), (.int (8 : Int32))]))
    refine own_go (fun t k => XS.iload X276.here hx rfl (hb hby at_202) rfl k) ?_
    show own_End p e below s _ _ _ (T276.setTop (mkF m 204 #[.val (.long p1), .second, .val (.long p2), .second, .val (.long p3), .second, .val (.long p4), .second, .val (.long (2305843009213693951 : Int64)), .second, .val (.long w200), .second, .val (.long w201), .second, .val (.long w202), .second, .val (.long ((w200 + w201) + w202)), .second, .val (.long pl203), .second, .val (.ref b204), .val (.ref b212), .val (.ref b224), .val (.ref b240), .val (.long ((w200 + w201) - pl203)), .second, .val (.int (1 : Int32)), .val (.long ((w200 + w201) - pl203)), .second, .unset, .unset] [(.int (1 : Int32)), (.ref b204), (.int (8 : Int32))]))
    refine own_go (own_fldI X276 hx hZ e277 f271 (j := (1 : Int32)) (v := (.int (8 : Int32))) 1 (by decide) (by decide) rfl (pc := 204) (Ls := #[.val (.long p1), .second, .val (.long p2), .second, .val (.long p3), .second, .val (.long p4), .second, .val (.long (2305843009213693951 : Int64)), .second, .val (.long w200), .second, .val (.long w201), .second, .val (.long w202), .second, .val (.long ((w200 + w201) + w202)), .second, .val (.long pl203), .second, .val (.ref b204), .val (.ref b212), .val (.ref b224), .val (.ref b240), .val (.long ((w200 + w201) - pl203)), .second, .val (.int (1 : Int32)), .val (.long ((w200 + w201) - pl203)), .second, .unset, .unset]) (rest := [(.int (8 : Int32))]) (hb hby at_204)) ?_
    show own_End p e below s _ _ _ (T276.setTop (mkF m 205 #[.val (.long p1), .second, .val (.long p2), .second, .val (.long p3), .second, .val (.long p4), .second, .val (.long (2305843009213693951 : Int64)), .second, .val (.long w200), .second, .val (.long w201), .second, .val (.long w202), .second, .val (.long ((w200 + w201) + w202)), .second, .val (.long pl203), .second, .val (.ref b204), .val (.ref b212), .val (.ref b224), .val (.ref b240), .val (.long ((w200 + w201) - pl203)), .second, .val (.int (1 : Int32)), .val (.long ((w200 + w201) - pl203)), .second, .unset, .unset] [(.int (8 : Int32)), (.int (8 : Int32))]))
    refine own_go (fun t k => XS.icmpNo X276.here hx rfl (hb hby at_205) rfl (by decide) k) ?_
    show own_End p e below s _ _ _ (T276.setTop (mkF m 208 #[.val (.long p1), .second, .val (.long p2), .second, .val (.long p3), .second, .val (.long p4), .second, .val (.long (2305843009213693951 : Int64)), .second, .val (.long w200), .second, .val (.long w201), .second, .val (.long w202), .second, .val (.long ((w200 + w201) + w202)), .second, .val (.long pl203), .second, .val (.ref b204), .val (.ref b212), .val (.ref b224), .val (.ref b240), .val (.long ((w200 + w201) - pl203)), .second, .val (.int (1 : Int32)), .val (.long ((w200 + w201) - pl203)), .second, .unset, .unset] []))
    refine own_go (fun t k => XS.aload X276.here hx rfl (hb hby at_208) rfl rfl k) ?_
    show own_End p e below s _ _ _ (T276.setTop (mkF m 210 #[.val (.long p1), .second, .val (.long p2), .second, .val (.long p3), .second, .val (.long p4), .second, .val (.long (2305843009213693951 : Int64)), .second, .val (.long w200), .second, .val (.long w201), .second, .val (.long w202), .second, .val (.long ((w200 + w201) + w202)), .second, .val (.long pl203), .second, .val (.ref b204), .val (.ref b212), .val (.ref b224), .val (.ref b240), .val (.long ((w200 + w201) - pl203)), .second, .val (.int (1 : Int32)), .val (.long ((w200 + w201) - pl203)), .second, .unset, .unset] [(.ref b240)]))
    obtain ⟨v278, T278, L278, X278, hQ278, st278⟩ := own_callV X276 hx hZ (C := "com/example/ordinate/ordinate/core/PairBlocks$Sorted") (y := (⟨"com/example/ordinate/ordinate/core/PairBlocks$Sorted", "y", "()I"⟩ : MethodName)) 0 hown (hw _ (List.mem_of_getElem? (i := 37) rfl)) (hw _ (List.mem_of_getElem? (i := 38) rfl)) (hw _ (List.mem_of_getElem? (i := 40) rfl)) (hw _ (List.mem_of_getElem? (i := 39) rfl)) (hw _ (List.mem_of_getElem? (i := 6) rfl)) (hw _ (List.mem_of_getElem? (i := 41) rfl)) (by decide) (rm6 l Z a0 hw [] b240 h270 n0 Z270 5 b204 b212 b224 so 1 1 (by decide) (by decide) nb240 f274 g_at g_xs g_ys g_ws g_so f275 f272 rfl) e277 f274 (pc := 210) (Ls := #[.val (.long p1), .second, .val (.long p2), .second, .val (.long p3), .second, .val (.long p4), .second, .val (.long (2305843009213693951 : Int64)), .second, .val (.long w200), .second, .val (.long w201), .second, .val (.long w202), .second, .val (.long ((w200 + w201) + w202)), .second, .val (.long pl203), .second, .val (.ref b204), .val (.ref b212), .val (.ref b224), .val (.ref b240), .val (.long ((w200 + w201) - pl203)), .second, .val (.int (1 : Int32)), .val (.long ((w200 + w201) - pl203)), .second, .unset, .unset]) [] [] (by rw [hml]; rfl) rfl rfl (lenOf pd__I rfl) (Nat.le_of_eq rfl) (hb hby at_210) (by decide) (by decide) (by decide) (by decide)
    obtain ⟨rfl, Nd279, e279⟩ := hQ278
    have N279 := Fr.app N277 Nd279
    refine own_go st278 ?_
    show own_End p e below s _ _ _ (T278.setTop (mkF m 213 #[.val (.long p1), .second, .val (.long p2), .second, .val (.long p3), .second, .val (.long p4), .second, .val (.long (2305843009213693951 : Int64)), .second, .val (.long w200), .second, .val (.long w201), .second, .val (.long w202), .second, .val (.long ((w200 + w201) + w202)), .second, .val (.long pl203), .second, .val (.ref b204), .val (.ref b212), .val (.ref b224), .val (.ref b240), .val (.long ((w200 + w201) - pl203)), .second, .val (.int (1 : Int32)), .val (.long ((w200 + w201) - pl203)), .second, .unset, .unset] [(.int (5 : Int32))]))
    refine own_go (fun t k => XS.aload X278.here hx rfl (hb hby at_213) rfl rfl k) ?_
    show own_End p e below s _ _ _ (T278.setTop (mkF m 215 #[.val (.long p1), .second, .val (.long p2), .second, .val (.long p3), .second, .val (.long p4), .second, .val (.long (2305843009213693951 : Int64)), .second, .val (.long w200), .second, .val (.long w201), .second, .val (.long w202), .second, .val (.long ((w200 + w201) + w202)), .second, .val (.long pl203), .second, .val (.ref b204), .val (.ref b212), .val (.ref b224), .val (.ref b240), .val (.long ((w200 + w201) - pl203)), .second, .val (.int (1 : Int32)), .val (.long ((w200 + w201) - pl203)), .second, .unset, .unset] [(.ref b212), (.int (5 : Int32))]))
    refine own_go (fun t k => XS.iload X278.here hx rfl (hb hby at_215) rfl k) ?_
    show own_End p e below s _ _ _ (T278.setTop (mkF m 217 #[.val (.long p1), .second, .val (.long p2), .second, .val (.long p3), .second, .val (.long p4), .second, .val (.long (2305843009213693951 : Int64)), .second, .val (.long w200), .second, .val (.long w201), .second, .val (.long w202), .second, .val (.long ((w200 + w201) + w202)), .second, .val (.long pl203), .second, .val (.ref b204), .val (.ref b212), .val (.ref b224), .val (.ref b240), .val (.long ((w200 + w201) - pl203)), .second, .val (.int (1 : Int32)), .val (.long ((w200 + w201) - pl203)), .second, .unset, .unset] [(.int (1 : Int32)), (.ref b212), (.int (5 : Int32))]))
    refine own_go (own_fldI X278 hx hZ e279 f272 (j := (1 : Int32)) (v := (.int (5 : Int32))) 1 (by decide) (by decide) rfl (pc := 217) (Ls := #[.val (.long p1), .second, .val (.long p2), .second, .val (.long p3), .second, .val (.long p4), .second, .val (.long (2305843009213693951 : Int64)), .second, .val (.long w200), .second, .val (.long w201), .second, .val (.long w202), .second, .val (.long ((w200 + w201) + w202)), .second, .val (.long pl203), .second, .val (.ref b204), .val (.ref b212), .val (.ref b224), .val (.ref b240), .val (.long ((w200 + w201) - pl203)), .second, .val (.int (1 : Int32)), .val (.long ((w200 + w201) - pl203)), .second, .unset, .unset]) (rest := [(.int (5 : Int32))]) (hb hby at_217)) ?_
    show own_End p e below s _ _ _ (T278.setTop (mkF m 218 #[.val (.long p1), .second, .val (.long p2), .second, .val (.long p3), .second, .val (.long p4), .second, .val (.long (2305843009213693951 : Int64)), .second, .val (.long w200), .second, .val (.long w201), .second, .val (.long w202), .second, .val (.long ((w200 + w201) + w202)), .second, .val (.long pl203), .second, .val (.ref b204), .val (.ref b212), .val (.ref b224), .val (.ref b240), .val (.long ((w200 + w201) - pl203)), .second, .val (.int (1 : Int32)), .val (.long ((w200 + w201) - pl203)), .second, .unset, .unset] [(.int (5 : Int32)), (.int (5 : Int32))]))
    refine own_go (fun t k => XS.icmpNo X278.here hx rfl (hb hby at_218) rfl (by decide) k) ?_
    show own_End p e below s _ _ _ (T278.setTop (mkF m 221 #[.val (.long p1), .second, .val (.long p2), .second, .val (.long p3), .second, .val (.long p4), .second, .val (.long (2305843009213693951 : Int64)), .second, .val (.long w200), .second, .val (.long w201), .second, .val (.long w202), .second, .val (.long ((w200 + w201) + w202)), .second, .val (.long pl203), .second, .val (.ref b204), .val (.ref b212), .val (.ref b224), .val (.ref b240), .val (.long ((w200 + w201) - pl203)), .second, .val (.int (1 : Int32)), .val (.long ((w200 + w201) - pl203)), .second, .unset, .unset] []))
    refine own_go (fun t k => XS.aload X278.here hx rfl (hb hby at_221) rfl rfl k) ?_
    show own_End p e below s _ _ _ (T278.setTop (mkF m 223 #[.val (.long p1), .second, .val (.long p2), .second, .val (.long p3), .second, .val (.long p4), .second, .val (.long (2305843009213693951 : Int64)), .second, .val (.long w200), .second, .val (.long w201), .second, .val (.long w202), .second, .val (.long ((w200 + w201) + w202)), .second, .val (.long pl203), .second, .val (.ref b204), .val (.ref b212), .val (.ref b224), .val (.ref b240), .val (.long ((w200 + w201) - pl203)), .second, .val (.int (1 : Int32)), .val (.long ((w200 + w201) - pl203)), .second, .unset, .unset] [(.ref b240)]))
    obtain ⟨v280, T280, L280, X280, hQ280, st280⟩ := own_callV X278 hx hZ (C := "com/example/ordinate/ordinate/core/PairBlocks$Sorted") (y := (⟨"com/example/ordinate/ordinate/core/PairBlocks$Sorted", "weight", "()J"⟩ : MethodName)) 0 hown (hw _ (List.mem_of_getElem? (i := 42) rfl)) (hw _ (List.mem_of_getElem? (i := 43) rfl)) (hw _ (List.mem_of_getElem? (i := 45) rfl)) (hw _ (List.mem_of_getElem? (i := 44) rfl)) (hw _ (List.mem_of_getElem? (i := 6) rfl)) (hw _ (List.mem_of_getElem? (i := 46) rfl)) (by decide) (rm7 l Z a0 hw [] b240 h270 n0 Z270 w201 b204 b212 b224 so 1 1 (by decide) (by decide) nb240 f274 g_at g_xs g_ys g_ws g_so f275 f273 rfl) e279 f274 (pc := 223) (Ls := #[.val (.long p1), .second, .val (.long p2), .second, .val (.long p3), .second, .val (.long p4), .second, .val (.long (2305843009213693951 : Int64)), .second, .val (.long w200), .second, .val (.long w201), .second, .val (.long w202), .second, .val (.long ((w200 + w201) + w202)), .second, .val (.long pl203), .second, .val (.ref b204), .val (.ref b212), .val (.ref b224), .val (.ref b240), .val (.long ((w200 + w201) - pl203)), .second, .val (.int (1 : Int32)), .val (.long ((w200 + w201) - pl203)), .second, .unset, .unset]) [] [] (by rw [hml]; rfl) rfl rfl (lenOf pd__J rfl) (Nat.le_of_eq rfl) (hb hby at_223) (by decide) (by decide) (by decide) (by decide)
    obtain ⟨rfl, Nd281, e281⟩ := hQ280
    have N281 := Fr.app N279 Nd281
    refine own_go st280 ?_
    show own_End p e below s _ _ _ (T280.setTop (mkF m 226 #[.val (.long p1), .second, .val (.long p2), .second, .val (.long p3), .second, .val (.long p4), .second, .val (.long (2305843009213693951 : Int64)), .second, .val (.long w200), .second, .val (.long w201), .second, .val (.long w202), .second, .val (.long ((w200 + w201) + w202)), .second, .val (.long pl203), .second, .val (.ref b204), .val (.ref b212), .val (.ref b224), .val (.ref b240), .val (.long ((w200 + w201) - pl203)), .second, .val (.int (1 : Int32)), .val (.long ((w200 + w201) - pl203)), .second, .unset, .unset] [(.long w201)]))
    refine own_go (fun t k => XS.aload X280.here hx rfl (hb hby at_226) rfl rfl k) ?_
    show own_End p e below s _ _ _ (T280.setTop (mkF m 228 #[.val (.long p1), .second, .val (.long p2), .second, .val (.long p3), .second, .val (.long p4), .second, .val (.long (2305843009213693951 : Int64)), .second, .val (.long w200), .second, .val (.long w201), .second, .val (.long w202), .second, .val (.long ((w200 + w201) + w202)), .second, .val (.long pl203), .second, .val (.ref b204), .val (.ref b212), .val (.ref b224), .val (.ref b240), .val (.long ((w200 + w201) - pl203)), .second, .val (.int (1 : Int32)), .val (.long ((w200 + w201) - pl203)), .second, .unset, .unset] [(.ref b224), (.long w201)]))
    refine own_go (fun t k => XS.iload X280.here hx rfl (hb hby at_228) rfl k) ?_
    show own_End p e below s _ _ _ (T280.setTop (mkF m 230 #[.val (.long p1), .second, .val (.long p2), .second, .val (.long p3), .second, .val (.long p4), .second, .val (.long (2305843009213693951 : Int64)), .second, .val (.long w200), .second, .val (.long w201), .second, .val (.long w202), .second, .val (.long ((w200 + w201) + w202)), .second, .val (.long pl203), .second, .val (.ref b204), .val (.ref b212), .val (.ref b224), .val (.ref b240), .val (.long ((w200 + w201) - pl203)), .second, .val (.int (1 : Int32)), .val (.long ((w200 + w201) - pl203)), .second, .unset, .unset] [(.int (1 : Int32)), (.ref b224), (.long w201)]))
    refine own_go (own_fldJ X280 hx hZ e281 f273 (j := (1 : Int32)) (v := (.long w201)) 1 (by decide) (by decide) rfl (pc := 230) (Ls := #[.val (.long p1), .second, .val (.long p2), .second, .val (.long p3), .second, .val (.long p4), .second, .val (.long (2305843009213693951 : Int64)), .second, .val (.long w200), .second, .val (.long w201), .second, .val (.long w202), .second, .val (.long ((w200 + w201) + w202)), .second, .val (.long pl203), .second, .val (.ref b204), .val (.ref b212), .val (.ref b224), .val (.ref b240), .val (.long ((w200 + w201) - pl203)), .second, .val (.int (1 : Int32)), .val (.long ((w200 + w201) - pl203)), .second, .unset, .unset]) (rest := [(.long w201)]) (hb hby at_230)) ?_
    show own_End p e below s _ _ _ (T280.setTop (mkF m 231 #[.val (.long p1), .second, .val (.long p2), .second, .val (.long p3), .second, .val (.long p4), .second, .val (.long (2305843009213693951 : Int64)), .second, .val (.long w200), .second, .val (.long w201), .second, .val (.long w202), .second, .val (.long ((w200 + w201) + w202)), .second, .val (.long pl203), .second, .val (.ref b204), .val (.ref b212), .val (.ref b224), .val (.ref b240), .val (.long ((w200 + w201) - pl203)), .second, .val (.int (1 : Int32)), .val (.long ((w200 + w201) - pl203)), .second, .unset, .unset] [(.long w201), (.long w201)]))
    refine own_go (fun t k => XT.lcmp X280.here hx rfl (hb hby at_231) rfl k) ?_
    show own_End p e below s _ _ _ (T280.setTop (mkF m 232 #[.val (.long p1), .second, .val (.long p2), .second, .val (.long p3), .second, .val (.long p4), .second, .val (.long (2305843009213693951 : Int64)), .second, .val (.long w200), .second, .val (.long w201), .second, .val (.long w202), .second, .val (.long ((w200 + w201) + w202)), .second, .val (.long pl203), .second, .val (.ref b204), .val (.ref b212), .val (.ref b224), .val (.ref b240), .val (.long ((w200 + w201) - pl203)), .second, .val (.int (1 : Int32)), .val (.long ((w200 + w201) - pl203)), .second, .unset, .unset] [(.int (XT.cmpL w201 w201))]))
    refine own_go (fun t k => XS.ifNo X280.here hx rfl (hb hby at_232) rfl (own_lneN rfl (fun z => z rfl)) k) ?_
    show own_End p e below s _ _ _ (T280.setTop (mkF m 235 #[.val (.long p1), .second, .val (.long p2), .second, .val (.long p3), .second, .val (.long p4), .second, .val (.long (2305843009213693951 : Int64)), .second, .val (.long w200), .second, .val (.long w201), .second, .val (.long w202), .second, .val (.long ((w200 + w201) + w202)), .second, .val (.long pl203), .second, .val (.ref b204), .val (.ref b212), .val (.ref b224), .val (.ref b240), .val (.long ((w200 + w201) - pl203)), .second, .val (.int (1 : Int32)), .val (.long ((w200 + w201) - pl203)), .second, .unset, .unset] []))
    refine own_go (fun t k => XT.lload X280.here hx rfl (hb hby at_235) rfl k) ?_
    show own_End p e below s _ _ _ (T280.setTop (mkF m 237 #[.val (.long p1), .second, .val (.long p2), .second, .val (.long p3), .second, .val (.long p4), .second, .val (.long (2305843009213693951 : Int64)), .second, .val (.long w200), .second, .val (.long w201), .second, .val (.long w202), .second, .val (.long ((w200 + w201) + w202)), .second, .val (.long pl203), .second, .val (.ref b204), .val (.ref b212), .val (.ref b224), .val (.ref b240), .val (.long ((w200 + w201) - pl203)), .second, .val (.int (1 : Int32)), .val (.long ((w200 + w201) - pl203)), .second, .unset, .unset] [(.long ((w200 + w201) - pl203))]))
    refine own_go (fun t k => XT.lconst X280.here hx rfl (hb hby at_237) k) ?_
    show own_End p e below s _ _ _ (T280.setTop (mkF m 238 #[.val (.long p1), .second, .val (.long p2), .second, .val (.long p3), .second, .val (.long p4), .second, .val (.long (2305843009213693951 : Int64)), .second, .val (.long w200), .second, .val (.long w201), .second, .val (.long w202), .second, .val (.long ((w200 + w201) + w202)), .second, .val (.long pl203), .second, .val (.ref b204), .val (.ref b212), .val (.ref b224), .val (.ref b240), .val (.long ((w200 + w201) - pl203)), .second, .val (.int (1 : Int32)), .val (.long ((w200 + w201) - pl203)), .second, .unset, .unset] [(.long (1 : Int64)), (.long ((w200 + w201) - pl203))]))
    refine own_go (fun t k => XT.lcmp X280.here hx rfl (hb hby at_238) rfl k) ?_
    show own_End p e below s _ _ _ (T280.setTop (mkF m 239 #[.val (.long p1), .second, .val (.long p2), .second, .val (.long p3), .second, .val (.long p4), .second, .val (.long (2305843009213693951 : Int64)), .second, .val (.long w200), .second, .val (.long w201), .second, .val (.long w202), .second, .val (.long ((w200 + w201) + w202)), .second, .val (.long pl203), .second, .val (.ref b204), .val (.ref b212), .val (.ref b224), .val (.ref b240), .val (.long ((w200 + w201) - pl203)), .second, .val (.int (1 : Int32)), .val (.long ((w200 + w201) - pl203)), .second, .unset, .unset] [(.int (XT.cmpL ((w200 + w201) - pl203) (1 : Int64)))]))
    refine own_go (fun t k => XS.ifNo X280.here hx rfl (hb hby at_239) rfl (own_lltN (k := 1) (by decide) (by omega)) k) ?_
    show own_End p e below s _ _ _ (T280.setTop (mkF m 242 #[.val (.long p1), .second, .val (.long p2), .second, .val (.long p3), .second, .val (.long p4), .second, .val (.long (2305843009213693951 : Int64)), .second, .val (.long w200), .second, .val (.long w201), .second, .val (.long w202), .second, .val (.long ((w200 + w201) + w202)), .second, .val (.long pl203), .second, .val (.ref b204), .val (.ref b212), .val (.ref b224), .val (.ref b240), .val (.long ((w200 + w201) - pl203)), .second, .val (.int (1 : Int32)), .val (.long ((w200 + w201) - pl203)), .second, .unset, .unset] []))
    refine own_go (fun t k => XT.lload X280.here hx rfl (hb hby at_242) rfl k) ?_
    show own_End p e below s _ _ _ (T280.setTop (mkF m 244 #[.val (.long p1), .second, .val (.long p2), .second, .val (.long p3), .second, .val (.long p4), .second, .val (.long (2305843009213693951 : Int64)), .second, .val (.long w200), .second, .val (.long w201), .second, .val (.long w202), .second, .val (.long ((w200 + w201) + w202)), .second, .val (.long pl203), .second, .val (.ref b204), .val (.ref b212), .val (.ref b224), .val (.ref b240), .val (.long ((w200 + w201) - pl203)), .second, .val (.int (1 : Int32)), .val (.long ((w200 + w201) - pl203)), .second, .unset, .unset] [(.long ((w200 + w201) - pl203))]))
    refine own_go (fun t k => XS.aload X280.here hx rfl (hb hby at_244) rfl rfl k) ?_
    show own_End p e below s _ _ _ (T280.setTop (mkF m 246 #[.val (.long p1), .second, .val (.long p2), .second, .val (.long p3), .second, .val (.long p4), .second, .val (.long (2305843009213693951 : Int64)), .second, .val (.long w200), .second, .val (.long w201), .second, .val (.long w202), .second, .val (.long ((w200 + w201) + w202)), .second, .val (.long pl203), .second, .val (.ref b204), .val (.ref b212), .val (.ref b224), .val (.ref b240), .val (.long ((w200 + w201) - pl203)), .second, .val (.int (1 : Int32)), .val (.long ((w200 + w201) - pl203)), .second, .unset, .unset] [(.ref b224), (.long ((w200 + w201) - pl203))]))
    refine own_go (fun t k => XS.iload X280.here hx rfl (hb hby at_246) rfl k) ?_
    show own_End p e below s _ _ _ (T280.setTop (mkF m 248 #[.val (.long p1), .second, .val (.long p2), .second, .val (.long p3), .second, .val (.long p4), .second, .val (.long (2305843009213693951 : Int64)), .second, .val (.long w200), .second, .val (.long w201), .second, .val (.long w202), .second, .val (.long ((w200 + w201) + w202)), .second, .val (.long pl203), .second, .val (.ref b204), .val (.ref b212), .val (.ref b224), .val (.ref b240), .val (.long ((w200 + w201) - pl203)), .second, .val (.int (1 : Int32)), .val (.long ((w200 + w201) - pl203)), .second, .unset, .unset] [(.int (1 : Int32)), (.ref b224), (.long ((w200 + w201) - pl203))]))
    refine own_go (own_fldJ X280 hx hZ e281 f273 (j := (1 : Int32)) (v := (.long w201)) 1 (by decide) (by decide) rfl (pc := 248) (Ls := #[.val (.long p1), .second, .val (.long p2), .second, .val (.long p3), .second, .val (.long p4), .second, .val (.long (2305843009213693951 : Int64)), .second, .val (.long w200), .second, .val (.long w201), .second, .val (.long w202), .second, .val (.long ((w200 + w201) + w202)), .second, .val (.long pl203), .second, .val (.ref b204), .val (.ref b212), .val (.ref b224), .val (.ref b240), .val (.long ((w200 + w201) - pl203)), .second, .val (.int (1 : Int32)), .val (.long ((w200 + w201) - pl203)), .second, .unset, .unset]) (rest := [(.long ((w200 + w201) - pl203))]) (hb hby at_248)) ?_
    show own_End p e below s _ _ _ (T280.setTop (mkF m 249 #[.val (.long p1), .second, .val (.long p2), .second, .val (.long p3), .second, .val (.long p4), .second, .val (.long (2305843009213693951 : Int64)), .second, .val (.long w200), .second, .val (.long w201), .second, .val (.long w202), .second, .val (.long ((w200 + w201) + w202)), .second, .val (.long pl203), .second, .val (.ref b204), .val (.ref b212), .val (.ref b224), .val (.ref b240), .val (.long ((w200 + w201) - pl203)), .second, .val (.int (1 : Int32)), .val (.long ((w200 + w201) - pl203)), .second, .unset, .unset] [(.long w201), (.long ((w200 + w201) - pl203))]))
    refine own_go (fun t k => XT.lcmp X280.here hx rfl (hb hby at_249) rfl k) ?_
    show own_End p e below s _ _ _ (T280.setTop (mkF m 250 #[.val (.long p1), .second, .val (.long p2), .second, .val (.long p3), .second, .val (.long p4), .second, .val (.long (2305843009213693951 : Int64)), .second, .val (.long w200), .second, .val (.long w201), .second, .val (.long w202), .second, .val (.long ((w200 + w201) + w202)), .second, .val (.long pl203), .second, .val (.ref b204), .val (.ref b212), .val (.ref b224), .val (.ref b240), .val (.long ((w200 + w201) - pl203)), .second, .val (.int (1 : Int32)), .val (.long ((w200 + w201) - pl203)), .second, .unset, .unset] [(.int (XT.cmpL ((w200 + w201) - pl203) w201))]))
    refine own_go (fun t k => XS.ifNo X280.here hx rfl (hb hby at_250) rfl (own_lgtN rfl (by omega)) k) ?_
    show own_End p e below s _ _ _ (T280.setTop (mkF m 253 #[.val (.long p1), .second, .val (.long p2), .second, .val (.long p3), .second, .val (.long p4), .second, .val (.long (2305843009213693951 : Int64)), .second, .val (.long w200), .second, .val (.long w201), .second, .val (.long w202), .second, .val (.long ((w200 + w201) + w202)), .second, .val (.long pl203), .second, .val (.ref b204), .val (.ref b212), .val (.ref b224), .val (.ref b240), .val (.long ((w200 + w201) - pl203)), .second, .val (.int (1 : Int32)), .val (.long ((w200 + w201) - pl203)), .second, .unset, .unset] []))
    refine own_go (fun t k => XS.iconst X280.here hx rfl (hb hby at_253) k) ?_
    show own_End p e below s _ _ _ (T280.setTop (mkF m 254 #[.val (.long p1), .second, .val (.long p2), .second, .val (.long p3), .second, .val (.long p4), .second, .val (.long (2305843009213693951 : Int64)), .second, .val (.long w200), .second, .val (.long w201), .second, .val (.long w202), .second, .val (.long ((w200 + w201) + w202)), .second, .val (.long pl203), .second, .val (.ref b204), .val (.ref b212), .val (.ref b224), .val (.ref b240), .val (.long ((w200 + w201) - pl203)), .second, .val (.int (1 : Int32)), .val (.long ((w200 + w201) - pl203)), .second, .unset, .unset] [(.int (1 : Int32))]))
    refine own_go (fun t k => XS.goto X280.here hx rfl (pc0 := 254) (pc' := 258) rfl (hb hby at_254) (by decide) (by decide) k) ?_
    show own_End p e below s _ _ _ (T280.setTop (mkF m 258 #[.val (.long p1), .second, .val (.long p2), .second, .val (.long p3), .second, .val (.long p4), .second, .val (.long (2305843009213693951 : Int64)), .second, .val (.long w200), .second, .val (.long w201), .second, .val (.long w202), .second, .val (.long ((w200 + w201) + w202)), .second, .val (.long pl203), .second, .val (.ref b204), .val (.ref b212), .val (.ref b224), .val (.ref b240), .val (.long ((w200 + w201) - pl203)), .second, .val (.int (1 : Int32)), .val (.long ((w200 + w201) - pl203)), .second, .unset, .unset] [(.int (1 : Int32))]))
    refine own_go (fun t k => XS.istore X280.here hx rfl (hb hby at_258) rfl (l' := #[.val (.long p1), .second, .val (.long p2), .second, .val (.long p3), .second, .val (.long p4), .second, .val (.long (2305843009213693951 : Int64)), .second, .val (.long w200), .second, .val (.long w201), .second, .val (.long w202), .second, .val (.long ((w200 + w201) + w202)), .second, .val (.long pl203), .second, .val (.ref b204), .val (.ref b212), .val (.ref b224), .val (.ref b240), .val (.long ((w200 + w201) - pl203)), .second, .val (.int (1 : Int32)), .val (.long ((w200 + w201) - pl203)), .second, .val (.int (1 : Int32)), .unset]) rfl k) ?_
    show own_End p e below s _ _ _ (T280.setTop (mkF m 260 #[.val (.long p1), .second, .val (.long p2), .second, .val (.long p3), .second, .val (.long p4), .second, .val (.long (2305843009213693951 : Int64)), .second, .val (.long w200), .second, .val (.long w201), .second, .val (.long w202), .second, .val (.long ((w200 + w201) + w202)), .second, .val (.long pl203), .second, .val (.ref b204), .val (.ref b212), .val (.ref b224), .val (.ref b240), .val (.long ((w200 + w201) - pl203)), .second, .val (.int (1 : Int32)), .val (.long ((w200 + w201) - pl203)), .second, .val (.int (1 : Int32)), .unset] []))
    refine own_go (fun t k => XS.aload X280.here hx rfl (hb hby at_260) rfl rfl k) ?_
    show own_End p e below s _ _ _ (T280.setTop (mkF m 262 #[.val (.long p1), .second, .val (.long p2), .second, .val (.long p3), .second, .val (.long p4), .second, .val (.long (2305843009213693951 : Int64)), .second, .val (.long w200), .second, .val (.long w201), .second, .val (.long w202), .second, .val (.long ((w200 + w201) + w202)), .second, .val (.long pl203), .second, .val (.ref b204), .val (.ref b212), .val (.ref b224), .val (.ref b240), .val (.long ((w200 + w201) - pl203)), .second, .val (.int (1 : Int32)), .val (.long ((w200 + w201) - pl203)), .second, .val (.int (1 : Int32)), .unset] [(.ref b240)]))
    obtain ⟨v282, T282, L282, X282, hQ282, st282⟩ := own_callV X280 hx hZ (C := "com/example/ordinate/ordinate/core/PairBlocks$Sorted") (y := (⟨"com/example/ordinate/ordinate/core/PairBlocks$Sorted", "next", "()Z"⟩ : MethodName)) 0 hown (hw _ (List.mem_of_getElem? (i := 47) rfl)) (hw _ (List.mem_of_getElem? (i := 48) rfl)) (hw _ (List.mem_of_getElem? (i := 50) rfl)) (hw _ (List.mem_of_getElem? (i := 49) rfl)) (hw _ (List.mem_of_getElem? (i := 6) rfl)) (hw _ (List.mem_of_getElem? (i := 51) rfl)) (by decide) (rm8_1 l Z a0 hw [] b240 h270 n0 Z270 b204 b212 b224 so (Nat.ne_of_gt lt_b240_so) nb240 f274 g_at g_xs g_ys g_ws g_so f275) e281 f274 (pc := 262) (Ls := #[.val (.long p1), .second, .val (.long p2), .second, .val (.long p3), .second, .val (.long p4), .second, .val (.long (2305843009213693951 : Int64)), .second, .val (.long w200), .second, .val (.long w201), .second, .val (.long w202), .second, .val (.long ((w200 + w201) + w202)), .second, .val (.long pl203), .second, .val (.ref b204), .val (.ref b212), .val (.ref b224), .val (.ref b240), .val (.long ((w200 + w201) - pl203)), .second, .val (.int (1 : Int32)), .val (.long ((w200 + w201) - pl203)), .second, .val (.int (1 : Int32)), .unset]) [] [] (by rw [hml]; rfl) rfl rfl (lenOf pd__Z rfl) (Nat.le_of_eq rfl) (hb hby at_262) (by decide) (by decide) (by decide) (by decide)
    obtain ⟨rfl, Nz⟩ := hQ282
    have N_z := Fr.app N281 Nz
    refine own_go st282 ?_
    show own_End p e below s _ _ _ (T282.setTop (mkF m 265 #[.val (.long p1), .second, .val (.long p2), .second, .val (.long p3), .second, .val (.long p4), .second, .val (.long (2305843009213693951 : Int64)), .second, .val (.long w200), .second, .val (.long w201), .second, .val (.long w202), .second, .val (.long ((w200 + w201) + w202)), .second, .val (.long pl203), .second, .val (.ref b204), .val (.ref b212), .val (.ref b224), .val (.ref b240), .val (.long ((w200 + w201) - pl203)), .second, .val (.int (1 : Int32)), .val (.long ((w200 + w201) - pl203)), .second, .val (.int (1 : Int32)), .unset] [(.int (1 : Int32))]))
    refine own_go (fun t k => XS.istore X282.here hx rfl (hb hby at_265) rfl (l' := #[.val (.long p1), .second, .val (.long p2), .second, .val (.long p3), .second, .val (.long p4), .second, .val (.long (2305843009213693951 : Int64)), .second, .val (.long w200), .second, .val (.long w201), .second, .val (.long w202), .second, .val (.long ((w200 + w201) + w202)), .second, .val (.long pl203), .second, .val (.ref b204), .val (.ref b212), .val (.ref b224), .val (.ref b240), .val (.long ((w200 + w201) - pl203)), .second, .val (.int (1 : Int32)), .val (.long ((w200 + w201) - pl203)), .second, .val (.int (1 : Int32)), .val (.int (1 : Int32))]) rfl k) ?_
    show own_End p e below s _ _ _ (T282.setTop (mkF m 267 #[.val (.long p1), .second, .val (.long p2), .second, .val (.long p3), .second, .val (.long p4), .second, .val (.long (2305843009213693951 : Int64)), .second, .val (.long w200), .second, .val (.long w201), .second, .val (.long w202), .second, .val (.long ((w200 + w201) + w202)), .second, .val (.long pl203), .second, .val (.ref b204), .val (.ref b212), .val (.ref b224), .val (.ref b240), .val (.long ((w200 + w201) - pl203)), .second, .val (.int (1 : Int32)), .val (.long ((w200 + w201) - pl203)), .second, .val (.int (1 : Int32)), .val (.int (1 : Int32))] []))
    refine own_go (fun t k => XS.iload X282.here hx rfl (hb hby at_267) rfl k) ?_
    show own_End p e below s _ _ _ (T282.setTop (mkF m 269 #[.val (.long p1), .second, .val (.long p2), .second, .val (.long p3), .second, .val (.long p4), .second, .val (.long (2305843009213693951 : Int64)), .second, .val (.long w200), .second, .val (.long w201), .second, .val (.long w202), .second, .val (.long ((w200 + w201) + w202)), .second, .val (.long pl203), .second, .val (.ref b204), .val (.ref b212), .val (.ref b224), .val (.ref b240), .val (.long ((w200 + w201) - pl203)), .second, .val (.int (1 : Int32)), .val (.long ((w200 + w201) - pl203)), .second, .val (.int (1 : Int32)), .val (.int (1 : Int32))] [(.int (1 : Int32))]))
    refine own_go (fun t k => XS.ifNo X282.here hx rfl (hb hby at_269) rfl rfl k) ?_
    show own_End p e below s _ _ _ (T282.setTop (mkF m 272 #[.val (.long p1), .second, .val (.long p2), .second, .val (.long p3), .second, .val (.long p4), .second, .val (.long (2305843009213693951 : Int64)), .second, .val (.long w200), .second, .val (.long w201), .second, .val (.long w202), .second, .val (.long ((w200 + w201) + w202)), .second, .val (.long pl203), .second, .val (.ref b204), .val (.ref b212), .val (.ref b224), .val (.ref b240), .val (.long ((w200 + w201) - pl203)), .second, .val (.int (1 : Int32)), .val (.long ((w200 + w201) - pl203)), .second, .val (.int (1 : Int32)), .val (.int (1 : Int32))] []))
    refine own_go (fun t k => XS.iload X282.here hx rfl (hb hby at_272) rfl k) ?_
    show own_End p e below s _ _ _ (T282.setTop (mkF m 274 #[.val (.long p1), .second, .val (.long p2), .second, .val (.long p3), .second, .val (.long p4), .second, .val (.long (2305843009213693951 : Int64)), .second, .val (.long w200), .second, .val (.long w201), .second, .val (.long w202), .second, .val (.long ((w200 + w201) + w202)), .second, .val (.long pl203), .second, .val (.ref b204), .val (.ref b212), .val (.ref b224), .val (.ref b240), .val (.long ((w200 + w201) - pl203)), .second, .val (.int (1 : Int32)), .val (.long ((w200 + w201) - pl203)), .second, .val (.int (1 : Int32)), .val (.int (1 : Int32))] [(.int (1 : Int32))]))
    refine own_go (fun t k => XS.iload X282.here hx rfl (hb hby at_274) rfl k) ?_
    show own_End p e below s _ _ _ (T282.setTop (mkF m 276 #[.val (.long p1), .second, .val (.long p2), .second, .val (.long p3), .second, .val (.long p4), .second, .val (.long (2305843009213693951 : Int64)), .second, .val (.long w200), .second, .val (.long w201), .second, .val (.long w202), .second, .val (.long ((w200 + w201) + w202)), .second, .val (.long pl203), .second, .val (.ref b204), .val (.ref b212), .val (.ref b224), .val (.ref b240), .val (.long ((w200 + w201) - pl203)), .second, .val (.int (1 : Int32)), .val (.long ((w200 + w201) - pl203)), .second, .val (.int (1 : Int32)), .val (.int (1 : Int32))] [(.int (1 : Int32)), (.int (1 : Int32))]))
    refine own_go (fun t k => XS.iconst X282.here hx rfl (hb hby at_276) k) ?_
    show own_End p e below s _ _ _ (T282.setTop (mkF m 277 #[.val (.long p1), .second, .val (.long p2), .second, .val (.long p3), .second, .val (.long p4), .second, .val (.long (2305843009213693951 : Int64)), .second, .val (.long w200), .second, .val (.long w201), .second, .val (.long w202), .second, .val (.long ((w200 + w201) + w202)), .second, .val (.long pl203), .second, .val (.ref b204), .val (.ref b212), .val (.ref b224), .val (.ref b240), .val (.long ((w200 + w201) - pl203)), .second, .val (.int (1 : Int32)), .val (.long ((w200 + w201) - pl203)), .second, .val (.int (1 : Int32)), .val (.int (1 : Int32))] [(.int (2 : Int32)), (.int (1 : Int32)), (.int (1 : Int32))]))
    refine own_go (fun t k => XS.icmpNo X282.here hx rfl (hb hby at_277) rfl (by decide) k) ?_
    show own_End p e below s _ _ _ (T282.setTop (mkF m 280 #[.val (.long p1), .second, .val (.long p2), .second, .val (.long p3), .second, .val (.long p4), .second, .val (.long (2305843009213693951 : Int64)), .second, .val (.long w200), .second, .val (.long w201), .second, .val (.long w202), .second, .val (.long ((w200 + w201) + w202)), .second, .val (.long pl203), .second, .val (.ref b204), .val (.ref b212), .val (.ref b224), .val (.ref b240), .val (.long ((w200 + w201) - pl203)), .second, .val (.int (1 : Int32)), .val (.long ((w200 + w201) - pl203)), .second, .val (.int (1 : Int32)), .val (.int (1 : Int32))] [(.int (1 : Int32))]))
    refine own_go (fun t k => XS.iconst X282.here hx rfl (hb hby at_280) k) ?_
    show own_End p e below s _ _ _ (T282.setTop (mkF m 281 #[.val (.long p1), .second, .val (.long p2), .second, .val (.long p3), .second, .val (.long p4), .second, .val (.long (2305843009213693951 : Int64)), .second, .val (.long w200), .second, .val (.long w201), .second, .val (.long w202), .second, .val (.long ((w200 + w201) + w202)), .second, .val (.long pl203), .second, .val (.ref b204), .val (.ref b212), .val (.ref b224), .val (.ref b240), .val (.long ((w200 + w201) - pl203)), .second, .val (.int (1 : Int32)), .val (.long ((w200 + w201) - pl203)), .second, .val (.int (1 : Int32)), .val (.int (1 : Int32))] [(.int (1 : Int32)), (.int (1 : Int32))]))
    refine own_go (fun t k => XS.goto X282.here hx rfl (pc0 := 281) (pc' := 285) rfl (hb hby at_281) (by decide) (by decide) k) ?_
    show own_End p e below s _ _ _ (T282.setTop (mkF m 285 #[.val (.long p1), .second, .val (.long p2), .second, .val (.long p3), .second, .val (.long p4), .second, .val (.long (2305843009213693951 : Int64)), .second, .val (.long w200), .second, .val (.long w201), .second, .val (.long w202), .second, .val (.long ((w200 + w201) + w202)), .second, .val (.long pl203), .second, .val (.ref b204), .val (.ref b212), .val (.ref b224), .val (.ref b240), .val (.long ((w200 + w201) - pl203)), .second, .val (.int (1 : Int32)), .val (.long ((w200 + w201) - pl203)), .second, .val (.int (1 : Int32)), .val (.int (1 : Int32))] [(.int (1 : Int32)), (.int (1 : Int32))]))
    refine own_go (fun t k => XS.icmpNo X282.here hx rfl (hb hby at_285) rfl (by decide) k) ?_
    show own_End p e below s _ _ _ (T282.setTop (mkF m 288 #[.val (.long p1), .second, .val (.long p2), .second, .val (.long p3), .second, .val (.long p4), .second, .val (.long (2305843009213693951 : Int64)), .second, .val (.long w200), .second, .val (.long w201), .second, .val (.long w202), .second, .val (.long ((w200 + w201) + w202)), .second, .val (.long pl203), .second, .val (.ref b204), .val (.ref b212), .val (.ref b224), .val (.ref b240), .val (.long ((w200 + w201) - pl203)), .second, .val (.int (1 : Int32)), .val (.long ((w200 + w201) - pl203)), .second, .val (.int (1 : Int32)), .val (.int (1 : Int32))] []))
    refine own_go (fun t k => XS.iconst X282.here hx rfl (hb hby at_288) k) ?_
    show own_End p e below s _ _ _ (T282.setTop (mkF m 289 #[.val (.long p1), .second, .val (.long p2), .second, .val (.long p3), .second, .val (.long p4), .second, .val (.long (2305843009213693951 : Int64)), .second, .val (.long w200), .second, .val (.long w201), .second, .val (.long w202), .second, .val (.long ((w200 + w201) + w202)), .second, .val (.long pl203), .second, .val (.ref b204), .val (.ref b212), .val (.ref b224), .val (.ref b240), .val (.long ((w200 + w201) - pl203)), .second, .val (.int (1 : Int32)), .val (.long ((w200 + w201) - pl203)), .second, .val (.int (1 : Int32)), .val (.int (1 : Int32))] [(.int (1 : Int32))]))
    refine own_go (fun t k => XS.goto X282.here hx rfl (pc0 := 289) (pc' := 293) rfl (hb hby at_289) (by decide) (by decide) k) ?_
    show own_End p e below s _ _ _ (T282.setTop (mkF m 293 #[.val (.long p1), .second, .val (.long p2), .second, .val (.long p3), .second, .val (.long p4), .second, .val (.long (2305843009213693951 : Int64)), .second, .val (.long w200), .second, .val (.long w201), .second, .val (.long w202), .second, .val (.long ((w200 + w201) + w202)), .second, .val (.long pl203), .second, .val (.ref b204), .val (.ref b212), .val (.ref b224), .val (.ref b240), .val (.long ((w200 + w201) - pl203)), .second, .val (.int (1 : Int32)), .val (.long ((w200 + w201) - pl203)), .second, .val (.int (1 : Int32)), .val (.int (1 : Int32))] [(.int (1 : Int32))]))
    exact own_retN X282 hx (t := .boolean) hret hlk (by simp) (hb hby at_293) ⟨rfl, N_z⟩ (by decide) (by decide)
  have hp1 : w200.toInt + w201.toInt ≤ pl203.toInt := by omega
  obtain ⟨v283, T283, L283, X283, hQ283, st283⟩ := own_callV X249 hx hZ (C := "com/example/ordinate/ordinate/core/PairBlocks$Sorted") (y := (⟨"com/example/ordinate/ordinate/core/PairBlocks$Sorted", "skip", "(J)J"⟩ : MethodName)) 0 hown (hw _ (List.mem_of_getElem? (i := 27) rfl)) (hw _ (List.mem_of_getElem? (i := 28) rfl)) (hw _ (List.mem_of_getElem? (i := 30) rfl)) (hw _ (List.mem_of_getElem? (i := 29) rfl)) (hw _ (List.mem_of_getElem? (i := 6) rfl)) (hw _ (List.mem_of_getElem? (i := 31) rfl)) (by decide) (rm4_2 l Z a0 hw [] b240 pl203 h250 n0 Z250 w200 w201 w202 b204 b212 b224 so (Nat.ne_of_lt lt_b224_b240) (Nat.ne_of_gt lt_b240_so) nb240 f254 f_at f_xs f_ys f_ws f_so Fso f253 hs1 hs2 hp0 hp1 rp.2) e250 f254 (pc := 124) (Ls := #[.val (.long p1), .second, .val (.long p2), .second, .val (.long p3), .second, .val (.long p4), .second, .val (.long (2305843009213693951 : Int64)), .second, .val (.long w200), .second, .val (.long w201), .second, .val (.long w202), .second, .val (.long ((w200 + w201) + w202)), .second, .val (.long pl203), .second, .val (.ref b204), .val (.ref b212), .val (.ref b224), .val (.ref b240), .unset, .unset, .unset, .unset, .unset, .unset, .unset]) [(.long pl203)] [] (by rw [hml]; rfl) rfl rfl (lenOf pd_J_J rfl) (Nat.le_of_eq rfl) (hb hby at_124) (by decide) (by decide) (by decide) (by decide)
  obtain ⟨h284, e284⟩ : ∃ z, T283.heap = z := ⟨_, rfl⟩
  rw [e284] at hQ283
  obtain ⟨rfl, Nk, Kk, g_at, g_xs, g_ys, g_ws, g_so⟩ := hQ283
  have N_k := Fr.app N_c Nk
  have Z284 : n0 ≤ h284.size := Nat.le_trans Z250 Kk.1
  have f285 := f251.keep Kk (ninS (Nat.ne_of_lt lt_b204_b240) nin0)
  have f286 := f252.keep Kk (ninS (Nat.ne_of_lt lt_b212_b240) nin0)
  have f287 := f253.keep Kk (ninS (Nat.ne_of_lt lt_b224_b240) nin0)
  have f288 := f254.keep Kk
  have f289 := Fso.keep Kk (ninS (Nat.ne_of_gt lt_b240_so) nin0)
  refine own_go st283 ?_
  show own_End p e below s _ _ _ (T283.setTop (mkF m 127 #[.val (.long p1), .second, .val (.long p2), .second, .val (.long p3), .second, .val (.long p4), .second, .val (.long (2305843009213693951 : Int64)), .second, .val (.long w200), .second, .val (.long w201), .second, .val (.long w202), .second, .val (.long ((w200 + w201) + w202)), .second, .val (.long pl203), .second, .val (.ref b204), .val (.ref b212), .val (.ref b224), .val (.ref b240), .unset, .unset, .unset, .unset, .unset, .unset, .unset] [(.long (((w200 + w201) + w202) - pl203))]))
  refine own_go (fun t k => XT.lstore X283.here hx rfl (hb hby at_127) rfl (l' := #[.val (.long p1), .second, .val (.long p2), .second, .val (.long p3), .second, .val (.long p4), .second, .val (.long (2305843009213693951 : Int64)), .second, .val (.long w200), .second, .val (.long w201), .second, .val (.long w202), .second, .val (.long ((w200 + w201) + w202)), .second, .val (.long pl203), .second, .val (.ref b204), .val (.ref b212), .val (.ref b224), .val (.ref b240), .val (.long (((w200 + w201) + w202) - pl203)), .second, .unset, .unset, .unset, .unset, .unset]) rfl k) ?_
  show own_End p e below s _ _ _ (T283.setTop (mkF m 129 #[.val (.long p1), .second, .val (.long p2), .second, .val (.long p3), .second, .val (.long p4), .second, .val (.long (2305843009213693951 : Int64)), .second, .val (.long w200), .second, .val (.long w201), .second, .val (.long w202), .second, .val (.long ((w200 + w201) + w202)), .second, .val (.long pl203), .second, .val (.ref b204), .val (.ref b212), .val (.ref b224), .val (.ref b240), .val (.long (((w200 + w201) + w202) - pl203)), .second, .unset, .unset, .unset, .unset, .unset] []))
  refine own_go (fun t k => XT.lload X283.here hx rfl (hb hby at_129) rfl k) ?_
  show own_End p e below s _ _ _ (T283.setTop (mkF m 131 #[.val (.long p1), .second, .val (.long p2), .second, .val (.long p3), .second, .val (.long p4), .second, .val (.long (2305843009213693951 : Int64)), .second, .val (.long w200), .second, .val (.long w201), .second, .val (.long w202), .second, .val (.long ((w200 + w201) + w202)), .second, .val (.long pl203), .second, .val (.ref b204), .val (.ref b212), .val (.ref b224), .val (.ref b240), .val (.long (((w200 + w201) + w202) - pl203)), .second, .unset, .unset, .unset, .unset, .unset] [(.long pl203)]))
  refine own_go (fun t k => XT.lload X283.here hx rfl (hb hby at_131) rfl k) ?_
  show own_End p e below s _ _ _ (T283.setTop (mkF m 133 #[.val (.long p1), .second, .val (.long p2), .second, .val (.long p3), .second, .val (.long p4), .second, .val (.long (2305843009213693951 : Int64)), .second, .val (.long w200), .second, .val (.long w201), .second, .val (.long w202), .second, .val (.long ((w200 + w201) + w202)), .second, .val (.long pl203), .second, .val (.ref b204), .val (.ref b212), .val (.ref b224), .val (.ref b240), .val (.long (((w200 + w201) + w202) - pl203)), .second, .unset, .unset, .unset, .unset, .unset] [(.long w200), (.long pl203)]))
  refine own_go (fun t k => XT.lcmp X283.here hx rfl (hb hby at_133) rfl k) ?_
  show own_End p e below s _ _ _ (T283.setTop (mkF m 134 #[.val (.long p1), .second, .val (.long p2), .second, .val (.long p3), .second, .val (.long p4), .second, .val (.long (2305843009213693951 : Int64)), .second, .val (.long w200), .second, .val (.long w201), .second, .val (.long w202), .second, .val (.long ((w200 + w201) + w202)), .second, .val (.long pl203), .second, .val (.ref b204), .val (.ref b212), .val (.ref b224), .val (.ref b240), .val (.long (((w200 + w201) + w202) - pl203)), .second, .unset, .unset, .unset, .unset, .unset] [(.int (XT.cmpL pl203 w200))]))
  refine own_go (fun t k => XS.ifYes X283.here hx rfl (pc0 := 134) (pc' := 150) rfl (hb hby at_134) rfl (own_lgeY (k := w200.toInt) rfl (by omega)) (by decide) (by decide) k) ?_
  show own_End p e below s _ _ _ (T283.setTop (mkF m 150 #[.val (.long p1), .second, .val (.long p2), .second, .val (.long p3), .second, .val (.long p4), .second, .val (.long (2305843009213693951 : Int64)), .second, .val (.long w200), .second, .val (.long w201), .second, .val (.long w202), .second, .val (.long ((w200 + w201) + w202)), .second, .val (.long pl203), .second, .val (.ref b204), .val (.ref b212), .val (.ref b224), .val (.ref b240), .val (.long (((w200 + w201) + w202) - pl203)), .second, .unset, .unset, .unset, .unset, .unset] []))
  refine own_go (fun t k => XT.lload X283.here hx rfl (hb hby at_150) rfl k) ?_
  show own_End p e below s _ _ _ (T283.setTop (mkF m 152 #[.val (.long p1), .second, .val (.long p2), .second, .val (.long p3), .second, .val (.long p4), .second, .val (.long (2305843009213693951 : Int64)), .second, .val (.long w200), .second, .val (.long w201), .second, .val (.long w202), .second, .val (.long ((w200 + w201) + w202)), .second, .val (.long pl203), .second, .val (.ref b204), .val (.ref b212), .val (.ref b224), .val (.ref b240), .val (.long (((w200 + w201) + w202) - pl203)), .second, .unset, .unset, .unset, .unset, .unset] [(.long pl203)]))
  refine own_go (fun t k => XT.lload X283.here hx rfl (hb hby at_152) rfl k) ?_
  show own_End p e below s _ _ _ (T283.setTop (mkF m 154 #[.val (.long p1), .second, .val (.long p2), .second, .val (.long p3), .second, .val (.long p4), .second, .val (.long (2305843009213693951 : Int64)), .second, .val (.long w200), .second, .val (.long w201), .second, .val (.long w202), .second, .val (.long ((w200 + w201) + w202)), .second, .val (.long pl203), .second, .val (.ref b204), .val (.ref b212), .val (.ref b224), .val (.ref b240), .val (.long (((w200 + w201) + w202) - pl203)), .second, .unset, .unset, .unset, .unset, .unset] [(.long w200), (.long pl203)]))
  refine own_go (fun t k => XT.lload X283.here hx rfl (hb hby at_154) rfl k) ?_
  show own_End p e below s _ _ _ (T283.setTop (mkF m 156 #[.val (.long p1), .second, .val (.long p2), .second, .val (.long p3), .second, .val (.long p4), .second, .val (.long (2305843009213693951 : Int64)), .second, .val (.long w200), .second, .val (.long w201), .second, .val (.long w202), .second, .val (.long ((w200 + w201) + w202)), .second, .val (.long pl203), .second, .val (.ref b204), .val (.ref b212), .val (.ref b224), .val (.ref b240), .val (.long (((w200 + w201) + w202) - pl203)), .second, .unset, .unset, .unset, .unset, .unset] [(.long w201), (.long w200), (.long pl203)]))
  refine own_go (fun t k => XT.ladd X283.here hx rfl (hb hby at_156) rfl k) ?_
  show own_End p e below s _ _ _ (T283.setTop (mkF m 157 #[.val (.long p1), .second, .val (.long p2), .second, .val (.long p3), .second, .val (.long p4), .second, .val (.long (2305843009213693951 : Int64)), .second, .val (.long w200), .second, .val (.long w201), .second, .val (.long w202), .second, .val (.long ((w200 + w201) + w202)), .second, .val (.long pl203), .second, .val (.ref b204), .val (.ref b212), .val (.ref b224), .val (.ref b240), .val (.long (((w200 + w201) + w202) - pl203)), .second, .unset, .unset, .unset, .unset, .unset] [(.long (w200 + w201)), (.long pl203)]))
  refine own_go (fun t k => XT.lcmp X283.here hx rfl (hb hby at_157) rfl k) ?_
  show own_End p e below s _ _ _ (T283.setTop (mkF m 158 #[.val (.long p1), .second, .val (.long p2), .second, .val (.long p3), .second, .val (.long p4), .second, .val (.long (2305843009213693951 : Int64)), .second, .val (.long w200), .second, .val (.long w201), .second, .val (.long w202), .second, .val (.long ((w200 + w201) + w202)), .second, .val (.long pl203), .second, .val (.ref b204), .val (.ref b212), .val (.ref b224), .val (.ref b240), .val (.long (((w200 + w201) + w202) - pl203)), .second, .unset, .unset, .unset, .unset, .unset] [(.int (XT.cmpL pl203 (w200 + w201)))]))
  refine own_go (fun t k => XS.ifYes X283.here hx rfl (pc0 := 158) (pc' := 177) rfl (hb hby at_158) rfl (own_lgeY (k := w200.toInt + w201.toInt) hs1 (by omega)) (by decide) (by decide) k) ?_
  show own_End p e below s _ _ _ (T283.setTop (mkF m 177 #[.val (.long p1), .second, .val (.long p2), .second, .val (.long p3), .second, .val (.long p4), .second, .val (.long (2305843009213693951 : Int64)), .second, .val (.long w200), .second, .val (.long w201), .second, .val (.long w202), .second, .val (.long ((w200 + w201) + w202)), .second, .val (.long pl203), .second, .val (.ref b204), .val (.ref b212), .val (.ref b224), .val (.ref b240), .val (.long (((w200 + w201) + w202) - pl203)), .second, .unset, .unset, .unset, .unset, .unset] []))
  refine own_go (fun t k => XS.iconst X283.here hx rfl (hb hby at_177) k) ?_
  show own_End p e below s _ _ _ (T283.setTop (mkF m 178 #[.val (.long p1), .second, .val (.long p2), .second, .val (.long p3), .second, .val (.long p4), .second, .val (.long (2305843009213693951 : Int64)), .second, .val (.long w200), .second, .val (.long w201), .second, .val (.long w202), .second, .val (.long ((w200 + w201) + w202)), .second, .val (.long pl203), .second, .val (.ref b204), .val (.ref b212), .val (.ref b224), .val (.ref b240), .val (.long (((w200 + w201) + w202) - pl203)), .second, .unset, .unset, .unset, .unset, .unset] [(.int (2 : Int32))]))
  refine own_go (fun t k => XS.istore X283.here hx rfl (hb hby at_178) rfl (l' := #[.val (.long p1), .second, .val (.long p2), .second, .val (.long p3), .second, .val (.long p4), .second, .val (.long (2305843009213693951 : Int64)), .second, .val (.long w200), .second, .val (.long w201), .second, .val (.long w202), .second, .val (.long ((w200 + w201) + w202)), .second, .val (.long pl203), .second, .val (.ref b204), .val (.ref b212), .val (.ref b224), .val (.ref b240), .val (.long (((w200 + w201) + w202) - pl203)), .second, .val (.int (2 : Int32)), .unset, .unset, .unset, .unset]) rfl k) ?_
  show own_End p e below s _ _ _ (T283.setTop (mkF m 180 #[.val (.long p1), .second, .val (.long p2), .second, .val (.long p3), .second, .val (.long p4), .second, .val (.long (2305843009213693951 : Int64)), .second, .val (.long w200), .second, .val (.long w201), .second, .val (.long w202), .second, .val (.long ((w200 + w201) + w202)), .second, .val (.long pl203), .second, .val (.ref b204), .val (.ref b212), .val (.ref b224), .val (.ref b240), .val (.long (((w200 + w201) + w202) - pl203)), .second, .val (.int (2 : Int32)), .unset, .unset, .unset, .unset] []))
  refine own_go (fun t k => XT.lload X283.here hx rfl (hb hby at_180) rfl k) ?_
  show own_End p e below s _ _ _ (T283.setTop (mkF m 182 #[.val (.long p1), .second, .val (.long p2), .second, .val (.long p3), .second, .val (.long p4), .second, .val (.long (2305843009213693951 : Int64)), .second, .val (.long w200), .second, .val (.long w201), .second, .val (.long w202), .second, .val (.long ((w200 + w201) + w202)), .second, .val (.long pl203), .second, .val (.ref b204), .val (.ref b212), .val (.ref b224), .val (.ref b240), .val (.long (((w200 + w201) + w202) - pl203)), .second, .val (.int (2 : Int32)), .unset, .unset, .unset, .unset] [(.long ((w200 + w201) + w202))]))
  refine own_go (fun t k => XT.lload X283.here hx rfl (hb hby at_182) rfl k) ?_
  show own_End p e below s _ _ _ (T283.setTop (mkF m 184 #[.val (.long p1), .second, .val (.long p2), .second, .val (.long p3), .second, .val (.long p4), .second, .val (.long (2305843009213693951 : Int64)), .second, .val (.long w200), .second, .val (.long w201), .second, .val (.long w202), .second, .val (.long ((w200 + w201) + w202)), .second, .val (.long pl203), .second, .val (.ref b204), .val (.ref b212), .val (.ref b224), .val (.ref b240), .val (.long (((w200 + w201) + w202) - pl203)), .second, .val (.int (2 : Int32)), .unset, .unset, .unset, .unset] [(.long pl203), (.long ((w200 + w201) + w202))]))
  refine own_go (fun t k => XT.lsub X283.here hx rfl (hb hby at_184) rfl k) ?_
  show own_End p e below s _ _ _ (T283.setTop (mkF m 185 #[.val (.long p1), .second, .val (.long p2), .second, .val (.long p3), .second, .val (.long p4), .second, .val (.long (2305843009213693951 : Int64)), .second, .val (.long w200), .second, .val (.long w201), .second, .val (.long w202), .second, .val (.long ((w200 + w201) + w202)), .second, .val (.long pl203), .second, .val (.ref b204), .val (.ref b212), .val (.ref b224), .val (.ref b240), .val (.long (((w200 + w201) + w202) - pl203)), .second, .val (.int (2 : Int32)), .unset, .unset, .unset, .unset] [(.long (((w200 + w201) + w202) - pl203))]))
  refine own_go (fun t k => XT.lstore X283.here hx rfl (hb hby at_185) rfl (l' := #[.val (.long p1), .second, .val (.long p2), .second, .val (.long p3), .second, .val (.long p4), .second, .val (.long (2305843009213693951 : Int64)), .second, .val (.long w200), .second, .val (.long w201), .second, .val (.long w202), .second, .val (.long ((w200 + w201) + w202)), .second, .val (.long pl203), .second, .val (.ref b204), .val (.ref b212), .val (.ref b224), .val (.ref b240), .val (.long (((w200 + w201) + w202) - pl203)), .second, .val (.int (2 : Int32)), .val (.long (((w200 + w201) + w202) - pl203)), .second, .unset, .unset]) rfl k) ?_
  show own_End p e below s _ _ _ (T283.setTop (mkF m 187 #[.val (.long p1), .second, .val (.long p2), .second, .val (.long p3), .second, .val (.long p4), .second, .val (.long (2305843009213693951 : Int64)), .second, .val (.long w200), .second, .val (.long w201), .second, .val (.long w202), .second, .val (.long ((w200 + w201) + w202)), .second, .val (.long pl203), .second, .val (.ref b204), .val (.ref b212), .val (.ref b224), .val (.ref b240), .val (.long (((w200 + w201) + w202) - pl203)), .second, .val (.int (2 : Int32)), .val (.long (((w200 + w201) + w202) - pl203)), .second, .unset, .unset] []))
  refine own_go (fun t k => XT.lload X283.here hx rfl (hb hby at_187) rfl k) ?_
  show own_End p e below s _ _ _ (T283.setTop (mkF m 189 #[.val (.long p1), .second, .val (.long p2), .second, .val (.long p3), .second, .val (.long p4), .second, .val (.long (2305843009213693951 : Int64)), .second, .val (.long w200), .second, .val (.long w201), .second, .val (.long w202), .second, .val (.long ((w200 + w201) + w202)), .second, .val (.long pl203), .second, .val (.ref b204), .val (.ref b212), .val (.ref b224), .val (.ref b240), .val (.long (((w200 + w201) + w202) - pl203)), .second, .val (.int (2 : Int32)), .val (.long (((w200 + w201) + w202) - pl203)), .second, .unset, .unset] [(.long (((w200 + w201) + w202) - pl203))]))
  refine own_go (fun t k => XT.lload X283.here hx rfl (hb hby at_189) rfl k) ?_
  show own_End p e below s _ _ _ (T283.setTop (mkF m 191 #[.val (.long p1), .second, .val (.long p2), .second, .val (.long p3), .second, .val (.long p4), .second, .val (.long (2305843009213693951 : Int64)), .second, .val (.long w200), .second, .val (.long w201), .second, .val (.long w202), .second, .val (.long ((w200 + w201) + w202)), .second, .val (.long pl203), .second, .val (.ref b204), .val (.ref b212), .val (.ref b224), .val (.ref b240), .val (.long (((w200 + w201) + w202) - pl203)), .second, .val (.int (2 : Int32)), .val (.long (((w200 + w201) + w202) - pl203)), .second, .unset, .unset] [(.long (((w200 + w201) + w202) - pl203)), (.long (((w200 + w201) + w202) - pl203))]))
  refine own_go (fun t k => XT.lcmp X283.here hx rfl (hb hby at_191) rfl k) ?_
  show own_End p e below s _ _ _ (T283.setTop (mkF m 192 #[.val (.long p1), .second, .val (.long p2), .second, .val (.long p3), .second, .val (.long p4), .second, .val (.long (2305843009213693951 : Int64)), .second, .val (.long w200), .second, .val (.long w201), .second, .val (.long w202), .second, .val (.long ((w200 + w201) + w202)), .second, .val (.long pl203), .second, .val (.ref b204), .val (.ref b212), .val (.ref b224), .val (.ref b240), .val (.long (((w200 + w201) + w202) - pl203)), .second, .val (.int (2 : Int32)), .val (.long (((w200 + w201) + w202) - pl203)), .second, .unset, .unset] [(.int (XT.cmpL (((w200 + w201) + w202) - pl203) (((w200 + w201) + w202) - pl203)))]))
  have hr : (((w200 + w201) + w202) - pl203).toInt = w200.toInt + w201.toInt + w202.toInt - pl203.toInt := by
    rw [own_subJ (by omega) (by omega)]; omega
  refine own_go (fun t k => XS.ifNo X283.here hx rfl (hb hby at_192) rfl (own_lneN rfl (fun z => z rfl)) k) ?_
  show own_End p e below s _ _ _ (T283.setTop (mkF m 195 #[.val (.long p1), .second, .val (.long p2), .second, .val (.long p3), .second, .val (.long p4), .second, .val (.long (2305843009213693951 : Int64)), .second, .val (.long w200), .second, .val (.long w201), .second, .val (.long w202), .second, .val (.long ((w200 + w201) + w202)), .second, .val (.long pl203), .second, .val (.ref b204), .val (.ref b212), .val (.ref b224), .val (.ref b240), .val (.long (((w200 + w201) + w202) - pl203)), .second, .val (.int (2 : Int32)), .val (.long (((w200 + w201) + w202) - pl203)), .second, .unset, .unset] []))
  refine own_go (fun t k => XS.aload X283.here hx rfl (hb hby at_195) rfl rfl k) ?_
  show own_End p e below s _ _ _ (T283.setTop (mkF m 197 #[.val (.long p1), .second, .val (.long p2), .second, .val (.long p3), .second, .val (.long p4), .second, .val (.long (2305843009213693951 : Int64)), .second, .val (.long w200), .second, .val (.long w201), .second, .val (.long w202), .second, .val (.long ((w200 + w201) + w202)), .second, .val (.long pl203), .second, .val (.ref b204), .val (.ref b212), .val (.ref b224), .val (.ref b240), .val (.long (((w200 + w201) + w202) - pl203)), .second, .val (.int (2 : Int32)), .val (.long (((w200 + w201) + w202) - pl203)), .second, .unset, .unset] [(.ref b240)]))
  obtain ⟨v290, T290, L290, X290, hQ290, st290⟩ := own_callV X283 hx hZ (C := "com/example/ordinate/ordinate/core/PairBlocks$Sorted") (y := (⟨"com/example/ordinate/ordinate/core/PairBlocks$Sorted", "x", "()I"⟩ : MethodName)) 0 hown (hw _ (List.mem_of_getElem? (i := 32) rfl)) (hw _ (List.mem_of_getElem? (i := 33) rfl)) (hw _ (List.mem_of_getElem? (i := 35) rfl)) (hw _ (List.mem_of_getElem? (i := 34) rfl)) (hw _ (List.mem_of_getElem? (i := 6) rfl)) (hw _ (List.mem_of_getElem? (i := 36) rfl)) (by decide) (rm5 l Z a0 hw [] b240 h284 n0 Z284 9 b204 b212 b224 so 2 2 (by decide) (by decide) nb240 f288 g_at g_xs g_ys g_ws g_so f289 f285 rfl) e284 f288 (pc := 197) (Ls := #[.val (.long p1), .second, .val (.long p2), .second, .val (.long p3), .second, .val (.long p4), .second, .val (.long (2305843009213693951 : Int64)), .second, .val (.long w200), .second, .val (.long w201), .second, .val (.long w202), .second, .val (.long ((w200 + w201) + w202)), .second, .val (.long pl203), .second, .val (.ref b204), .val (.ref b212), .val (.ref b224), .val (.ref b240), .val (.long (((w200 + w201) + w202) - pl203)), .second, .val (.int (2 : Int32)), .val (.long (((w200 + w201) + w202) - pl203)), .second, .unset, .unset]) [] [] (by rw [hml]; rfl) rfl rfl (lenOf pd__I rfl) (Nat.le_of_eq rfl) (hb hby at_197) (by decide) (by decide) (by decide) (by decide)
  obtain ⟨rfl, Nd291, e291⟩ := hQ290
  have N291 := Fr.app N_k Nd291
  refine own_go st290 ?_
  show own_End p e below s _ _ _ (T290.setTop (mkF m 200 #[.val (.long p1), .second, .val (.long p2), .second, .val (.long p3), .second, .val (.long p4), .second, .val (.long (2305843009213693951 : Int64)), .second, .val (.long w200), .second, .val (.long w201), .second, .val (.long w202), .second, .val (.long ((w200 + w201) + w202)), .second, .val (.long pl203), .second, .val (.ref b204), .val (.ref b212), .val (.ref b224), .val (.ref b240), .val (.long (((w200 + w201) + w202) - pl203)), .second, .val (.int (2 : Int32)), .val (.long (((w200 + w201) + w202) - pl203)), .second, .unset, .unset] [(.int (9 : Int32))]))
  refine own_go (fun t k => XS.aload X290.here hx rfl (hb hby at_200) rfl rfl k) ?_
  show own_End p e below s _ _ _ (T290.setTop (mkF m 202 #[.val (.long p1), .second, .val (.long p2), .second, .val (.long p3), .second, .val (.long p4), .second, .val (.long (2305843009213693951 : Int64)), .second, .val (.long w200), .second, .val (.long w201), .second, .val (.long w202), .second, .val (.long ((w200 + w201) + w202)), .second, .val (.long pl203), .second, .val (.ref b204), .val (.ref b212), .val (.ref b224), .val (.ref b240), .val (.long (((w200 + w201) + w202) - pl203)), .second, .val (.int (2 : Int32)), .val (.long (((w200 + w201) + w202) - pl203)), .second, .unset, .unset] [(.ref b204), (.int (9 : Int32))]))
  refine own_go (fun t k => XS.iload X290.here hx rfl (hb hby at_202) rfl k) ?_
  show own_End p e below s _ _ _ (T290.setTop (mkF m 204 #[.val (.long p1), .second, .val (.long p2), .second, .val (.long p3), .second, .val (.long p4), .second, .val (.long (2305843009213693951 : Int64)), .second, .val (.long w200), .second, .val (.long w201), .second, .val (.long w202), .second, .val (.long ((w200 + w201) + w202)), .second, .val (.long pl203), .second, .val (.ref b204), .val (.ref b212), .val (.ref b224), .val (.ref b240), .val (.long (((w200 + w201) + w202) - pl203)), .second, .val (.int (2 : Int32)), .val (.long (((w200 + w201) + w202) - pl203)), .second, .unset, .unset] [(.int (2 : Int32)), (.ref b204), (.int (9 : Int32))]))
  refine own_go (own_fldI X290 hx hZ e291 f285 (j := (2 : Int32)) (v := (.int (9 : Int32))) 2 (by decide) (by decide) rfl (pc := 204) (Ls := #[.val (.long p1), .second, .val (.long p2), .second, .val (.long p3), .second, .val (.long p4), .second, .val (.long (2305843009213693951 : Int64)), .second, .val (.long w200), .second, .val (.long w201), .second, .val (.long w202), .second, .val (.long ((w200 + w201) + w202)), .second, .val (.long pl203), .second, .val (.ref b204), .val (.ref b212), .val (.ref b224), .val (.ref b240), .val (.long (((w200 + w201) + w202) - pl203)), .second, .val (.int (2 : Int32)), .val (.long (((w200 + w201) + w202) - pl203)), .second, .unset, .unset]) (rest := [(.int (9 : Int32))]) (hb hby at_204)) ?_
  show own_End p e below s _ _ _ (T290.setTop (mkF m 205 #[.val (.long p1), .second, .val (.long p2), .second, .val (.long p3), .second, .val (.long p4), .second, .val (.long (2305843009213693951 : Int64)), .second, .val (.long w200), .second, .val (.long w201), .second, .val (.long w202), .second, .val (.long ((w200 + w201) + w202)), .second, .val (.long pl203), .second, .val (.ref b204), .val (.ref b212), .val (.ref b224), .val (.ref b240), .val (.long (((w200 + w201) + w202) - pl203)), .second, .val (.int (2 : Int32)), .val (.long (((w200 + w201) + w202) - pl203)), .second, .unset, .unset] [(.int (9 : Int32)), (.int (9 : Int32))]))
  refine own_go (fun t k => XS.icmpNo X290.here hx rfl (hb hby at_205) rfl (by decide) k) ?_
  show own_End p e below s _ _ _ (T290.setTop (mkF m 208 #[.val (.long p1), .second, .val (.long p2), .second, .val (.long p3), .second, .val (.long p4), .second, .val (.long (2305843009213693951 : Int64)), .second, .val (.long w200), .second, .val (.long w201), .second, .val (.long w202), .second, .val (.long ((w200 + w201) + w202)), .second, .val (.long pl203), .second, .val (.ref b204), .val (.ref b212), .val (.ref b224), .val (.ref b240), .val (.long (((w200 + w201) + w202) - pl203)), .second, .val (.int (2 : Int32)), .val (.long (((w200 + w201) + w202) - pl203)), .second, .unset, .unset] []))
  refine own_go (fun t k => XS.aload X290.here hx rfl (hb hby at_208) rfl rfl k) ?_
  show own_End p e below s _ _ _ (T290.setTop (mkF m 210 #[.val (.long p1), .second, .val (.long p2), .second, .val (.long p3), .second, .val (.long p4), .second, .val (.long (2305843009213693951 : Int64)), .second, .val (.long w200), .second, .val (.long w201), .second, .val (.long w202), .second, .val (.long ((w200 + w201) + w202)), .second, .val (.long pl203), .second, .val (.ref b204), .val (.ref b212), .val (.ref b224), .val (.ref b240), .val (.long (((w200 + w201) + w202) - pl203)), .second, .val (.int (2 : Int32)), .val (.long (((w200 + w201) + w202) - pl203)), .second, .unset, .unset] [(.ref b240)]))
  obtain ⟨v292, T292, L292, X292, hQ292, st292⟩ := own_callV X290 hx hZ (C := "com/example/ordinate/ordinate/core/PairBlocks$Sorted") (y := (⟨"com/example/ordinate/ordinate/core/PairBlocks$Sorted", "y", "()I"⟩ : MethodName)) 0 hown (hw _ (List.mem_of_getElem? (i := 37) rfl)) (hw _ (List.mem_of_getElem? (i := 38) rfl)) (hw _ (List.mem_of_getElem? (i := 40) rfl)) (hw _ (List.mem_of_getElem? (i := 39) rfl)) (hw _ (List.mem_of_getElem? (i := 6) rfl)) (hw _ (List.mem_of_getElem? (i := 41) rfl)) (by decide) (rm6 l Z a0 hw [] b240 h284 n0 Z284 6 b204 b212 b224 so 2 2 (by decide) (by decide) nb240 f288 g_at g_xs g_ys g_ws g_so f289 f286 rfl) e291 f288 (pc := 210) (Ls := #[.val (.long p1), .second, .val (.long p2), .second, .val (.long p3), .second, .val (.long p4), .second, .val (.long (2305843009213693951 : Int64)), .second, .val (.long w200), .second, .val (.long w201), .second, .val (.long w202), .second, .val (.long ((w200 + w201) + w202)), .second, .val (.long pl203), .second, .val (.ref b204), .val (.ref b212), .val (.ref b224), .val (.ref b240), .val (.long (((w200 + w201) + w202) - pl203)), .second, .val (.int (2 : Int32)), .val (.long (((w200 + w201) + w202) - pl203)), .second, .unset, .unset]) [] [] (by rw [hml]; rfl) rfl rfl (lenOf pd__I rfl) (Nat.le_of_eq rfl) (hb hby at_210) (by decide) (by decide) (by decide) (by decide)
  obtain ⟨rfl, Nd293, e293⟩ := hQ292
  have N293 := Fr.app N291 Nd293
  refine own_go st292 ?_
  show own_End p e below s _ _ _ (T292.setTop (mkF m 213 #[.val (.long p1), .second, .val (.long p2), .second, .val (.long p3), .second, .val (.long p4), .second, .val (.long (2305843009213693951 : Int64)), .second, .val (.long w200), .second, .val (.long w201), .second, .val (.long w202), .second, .val (.long ((w200 + w201) + w202)), .second, .val (.long pl203), .second, .val (.ref b204), .val (.ref b212), .val (.ref b224), .val (.ref b240), .val (.long (((w200 + w201) + w202) - pl203)), .second, .val (.int (2 : Int32)), .val (.long (((w200 + w201) + w202) - pl203)), .second, .unset, .unset] [(.int (6 : Int32))]))
  refine own_go (fun t k => XS.aload X292.here hx rfl (hb hby at_213) rfl rfl k) ?_
  show own_End p e below s _ _ _ (T292.setTop (mkF m 215 #[.val (.long p1), .second, .val (.long p2), .second, .val (.long p3), .second, .val (.long p4), .second, .val (.long (2305843009213693951 : Int64)), .second, .val (.long w200), .second, .val (.long w201), .second, .val (.long w202), .second, .val (.long ((w200 + w201) + w202)), .second, .val (.long pl203), .second, .val (.ref b204), .val (.ref b212), .val (.ref b224), .val (.ref b240), .val (.long (((w200 + w201) + w202) - pl203)), .second, .val (.int (2 : Int32)), .val (.long (((w200 + w201) + w202) - pl203)), .second, .unset, .unset] [(.ref b212), (.int (6 : Int32))]))
  refine own_go (fun t k => XS.iload X292.here hx rfl (hb hby at_215) rfl k) ?_
  show own_End p e below s _ _ _ (T292.setTop (mkF m 217 #[.val (.long p1), .second, .val (.long p2), .second, .val (.long p3), .second, .val (.long p4), .second, .val (.long (2305843009213693951 : Int64)), .second, .val (.long w200), .second, .val (.long w201), .second, .val (.long w202), .second, .val (.long ((w200 + w201) + w202)), .second, .val (.long pl203), .second, .val (.ref b204), .val (.ref b212), .val (.ref b224), .val (.ref b240), .val (.long (((w200 + w201) + w202) - pl203)), .second, .val (.int (2 : Int32)), .val (.long (((w200 + w201) + w202) - pl203)), .second, .unset, .unset] [(.int (2 : Int32)), (.ref b212), (.int (6 : Int32))]))
  refine own_go (own_fldI X292 hx hZ e293 f286 (j := (2 : Int32)) (v := (.int (6 : Int32))) 2 (by decide) (by decide) rfl (pc := 217) (Ls := #[.val (.long p1), .second, .val (.long p2), .second, .val (.long p3), .second, .val (.long p4), .second, .val (.long (2305843009213693951 : Int64)), .second, .val (.long w200), .second, .val (.long w201), .second, .val (.long w202), .second, .val (.long ((w200 + w201) + w202)), .second, .val (.long pl203), .second, .val (.ref b204), .val (.ref b212), .val (.ref b224), .val (.ref b240), .val (.long (((w200 + w201) + w202) - pl203)), .second, .val (.int (2 : Int32)), .val (.long (((w200 + w201) + w202) - pl203)), .second, .unset, .unset]) (rest := [(.int (6 : Int32))]) (hb hby at_217)) ?_
  show own_End p e below s _ _ _ (T292.setTop (mkF m 218 #[.val (.long p1), .second, .val (.long p2), .second, .val (.long p3), .second, .val (.long p4), .second, .val (.long (2305843009213693951 : Int64)), .second, .val (.long w200), .second, .val (.long w201), .second, .val (.long w202), .second, .val (.long ((w200 + w201) + w202)), .second, .val (.long pl203), .second, .val (.ref b204), .val (.ref b212), .val (.ref b224), .val (.ref b240), .val (.long (((w200 + w201) + w202) - pl203)), .second, .val (.int (2 : Int32)), .val (.long (((w200 + w201) + w202) - pl203)), .second, .unset, .unset] [(.int (6 : Int32)), (.int (6 : Int32))]))
  refine own_go (fun t k => XS.icmpNo X292.here hx rfl (hb hby at_218) rfl (by decide) k) ?_
  show own_End p e below s _ _ _ (T292.setTop (mkF m 221 #[.val (.long p1), .second, .val (.long p2), .second, .val (.long p3), .second, .val (.long p4), .second, .val (.long (2305843009213693951 : Int64)), .second, .val (.long w200), .second, .val (.long w201), .second, .val (.long w202), .second, .val (.long ((w200 + w201) + w202)), .second, .val (.long pl203), .second, .val (.ref b204), .val (.ref b212), .val (.ref b224), .val (.ref b240), .val (.long (((w200 + w201) + w202) - pl203)), .second, .val (.int (2 : Int32)), .val (.long (((w200 + w201) + w202) - pl203)), .second, .unset, .unset] []))
  refine own_go (fun t k => XS.aload X292.here hx rfl (hb hby at_221) rfl rfl k) ?_
  show own_End p e below s _ _ _ (T292.setTop (mkF m 223 #[.val (.long p1), .second, .val (.long p2), .second, .val (.long p3), .second, .val (.long p4), .second, .val (.long (2305843009213693951 : Int64)), .second, .val (.long w200), .second, .val (.long w201), .second, .val (.long w202), .second, .val (.long ((w200 + w201) + w202)), .second, .val (.long pl203), .second, .val (.ref b204), .val (.ref b212), .val (.ref b224), .val (.ref b240), .val (.long (((w200 + w201) + w202) - pl203)), .second, .val (.int (2 : Int32)), .val (.long (((w200 + w201) + w202) - pl203)), .second, .unset, .unset] [(.ref b240)]))
  obtain ⟨v294, T294, L294, X294, hQ294, st294⟩ := own_callV X292 hx hZ (C := "com/example/ordinate/ordinate/core/PairBlocks$Sorted") (y := (⟨"com/example/ordinate/ordinate/core/PairBlocks$Sorted", "weight", "()J"⟩ : MethodName)) 0 hown (hw _ (List.mem_of_getElem? (i := 42) rfl)) (hw _ (List.mem_of_getElem? (i := 43) rfl)) (hw _ (List.mem_of_getElem? (i := 45) rfl)) (hw _ (List.mem_of_getElem? (i := 44) rfl)) (hw _ (List.mem_of_getElem? (i := 6) rfl)) (hw _ (List.mem_of_getElem? (i := 46) rfl)) (by decide) (rm7 l Z a0 hw [] b240 h284 n0 Z284 w202 b204 b212 b224 so 2 2 (by decide) (by decide) nb240 f288 g_at g_xs g_ys g_ws g_so f289 f287 rfl) e293 f288 (pc := 223) (Ls := #[.val (.long p1), .second, .val (.long p2), .second, .val (.long p3), .second, .val (.long p4), .second, .val (.long (2305843009213693951 : Int64)), .second, .val (.long w200), .second, .val (.long w201), .second, .val (.long w202), .second, .val (.long ((w200 + w201) + w202)), .second, .val (.long pl203), .second, .val (.ref b204), .val (.ref b212), .val (.ref b224), .val (.ref b240), .val (.long (((w200 + w201) + w202) - pl203)), .second, .val (.int (2 : Int32)), .val (.long (((w200 + w201) + w202) - pl203)), .second, .unset, .unset]) [] [] (by rw [hml]; rfl) rfl rfl (lenOf pd__J rfl) (Nat.le_of_eq rfl) (hb hby at_223) (by decide) (by decide) (by decide) (by decide)
  obtain ⟨rfl, Nd295, e295⟩ := hQ294
  have N295 := Fr.app N293 Nd295
  refine own_go st294 ?_
  show own_End p e below s _ _ _ (T294.setTop (mkF m 226 #[.val (.long p1), .second, .val (.long p2), .second, .val (.long p3), .second, .val (.long p4), .second, .val (.long (2305843009213693951 : Int64)), .second, .val (.long w200), .second, .val (.long w201), .second, .val (.long w202), .second, .val (.long ((w200 + w201) + w202)), .second, .val (.long pl203), .second, .val (.ref b204), .val (.ref b212), .val (.ref b224), .val (.ref b240), .val (.long (((w200 + w201) + w202) - pl203)), .second, .val (.int (2 : Int32)), .val (.long (((w200 + w201) + w202) - pl203)), .second, .unset, .unset] [(.long w202)]))
  refine own_go (fun t k => XS.aload X294.here hx rfl (hb hby at_226) rfl rfl k) ?_
  show own_End p e below s _ _ _ (T294.setTop (mkF m 228 #[.val (.long p1), .second, .val (.long p2), .second, .val (.long p3), .second, .val (.long p4), .second, .val (.long (2305843009213693951 : Int64)), .second, .val (.long w200), .second, .val (.long w201), .second, .val (.long w202), .second, .val (.long ((w200 + w201) + w202)), .second, .val (.long pl203), .second, .val (.ref b204), .val (.ref b212), .val (.ref b224), .val (.ref b240), .val (.long (((w200 + w201) + w202) - pl203)), .second, .val (.int (2 : Int32)), .val (.long (((w200 + w201) + w202) - pl203)), .second, .unset, .unset] [(.ref b224), (.long w202)]))
  refine own_go (fun t k => XS.iload X294.here hx rfl (hb hby at_228) rfl k) ?_
  show own_End p e below s _ _ _ (T294.setTop (mkF m 230 #[.val (.long p1), .second, .val (.long p2), .second, .val (.long p3), .second, .val (.long p4), .second, .val (.long (2305843009213693951 : Int64)), .second, .val (.long w200), .second, .val (.long w201), .second, .val (.long w202), .second, .val (.long ((w200 + w201) + w202)), .second, .val (.long pl203), .second, .val (.ref b204), .val (.ref b212), .val (.ref b224), .val (.ref b240), .val (.long (((w200 + w201) + w202) - pl203)), .second, .val (.int (2 : Int32)), .val (.long (((w200 + w201) + w202) - pl203)), .second, .unset, .unset] [(.int (2 : Int32)), (.ref b224), (.long w202)]))
  refine own_go (own_fldJ X294 hx hZ e295 f287 (j := (2 : Int32)) (v := (.long w202)) 2 (by decide) (by decide) rfl (pc := 230) (Ls := #[.val (.long p1), .second, .val (.long p2), .second, .val (.long p3), .second, .val (.long p4), .second, .val (.long (2305843009213693951 : Int64)), .second, .val (.long w200), .second, .val (.long w201), .second, .val (.long w202), .second, .val (.long ((w200 + w201) + w202)), .second, .val (.long pl203), .second, .val (.ref b204), .val (.ref b212), .val (.ref b224), .val (.ref b240), .val (.long (((w200 + w201) + w202) - pl203)), .second, .val (.int (2 : Int32)), .val (.long (((w200 + w201) + w202) - pl203)), .second, .unset, .unset]) (rest := [(.long w202)]) (hb hby at_230)) ?_
  show own_End p e below s _ _ _ (T294.setTop (mkF m 231 #[.val (.long p1), .second, .val (.long p2), .second, .val (.long p3), .second, .val (.long p4), .second, .val (.long (2305843009213693951 : Int64)), .second, .val (.long w200), .second, .val (.long w201), .second, .val (.long w202), .second, .val (.long ((w200 + w201) + w202)), .second, .val (.long pl203), .second, .val (.ref b204), .val (.ref b212), .val (.ref b224), .val (.ref b240), .val (.long (((w200 + w201) + w202) - pl203)), .second, .val (.int (2 : Int32)), .val (.long (((w200 + w201) + w202) - pl203)), .second, .unset, .unset] [(.long w202), (.long w202)]))
  refine own_go (fun t k => XT.lcmp X294.here hx rfl (hb hby at_231) rfl k) ?_
  show own_End p e below s _ _ _ (T294.setTop (mkF m 232 #[.val (.long p1), .second, .val (.long p2), .second, .val (.long p3), .second, .val (.long p4), .second, .val (.long (2305843009213693951 : Int64)), .second, .val (.long w200), .second, .val (.long w201), .second, .val (.long w202), .second, .val (.long ((w200 + w201) + w202)), .second, .val (.long pl203), .second, .val (.ref b204), .val (.ref b212), .val (.ref b224), .val (.ref b240), .val (.long (((w200 + w201) + w202) - pl203)), .second, .val (.int (2 : Int32)), .val (.long (((w200 + w201) + w202) - pl203)), .second, .unset, .unset] [(.int (XT.cmpL w202 w202))]))
  refine own_go (fun t k => XS.ifNo X294.here hx rfl (hb hby at_232) rfl (own_lneN rfl (fun z => z rfl)) k) ?_
  show own_End p e below s _ _ _ (T294.setTop (mkF m 235 #[.val (.long p1), .second, .val (.long p2), .second, .val (.long p3), .second, .val (.long p4), .second, .val (.long (2305843009213693951 : Int64)), .second, .val (.long w200), .second, .val (.long w201), .second, .val (.long w202), .second, .val (.long ((w200 + w201) + w202)), .second, .val (.long pl203), .second, .val (.ref b204), .val (.ref b212), .val (.ref b224), .val (.ref b240), .val (.long (((w200 + w201) + w202) - pl203)), .second, .val (.int (2 : Int32)), .val (.long (((w200 + w201) + w202) - pl203)), .second, .unset, .unset] []))
  refine own_go (fun t k => XT.lload X294.here hx rfl (hb hby at_235) rfl k) ?_
  show own_End p e below s _ _ _ (T294.setTop (mkF m 237 #[.val (.long p1), .second, .val (.long p2), .second, .val (.long p3), .second, .val (.long p4), .second, .val (.long (2305843009213693951 : Int64)), .second, .val (.long w200), .second, .val (.long w201), .second, .val (.long w202), .second, .val (.long ((w200 + w201) + w202)), .second, .val (.long pl203), .second, .val (.ref b204), .val (.ref b212), .val (.ref b224), .val (.ref b240), .val (.long (((w200 + w201) + w202) - pl203)), .second, .val (.int (2 : Int32)), .val (.long (((w200 + w201) + w202) - pl203)), .second, .unset, .unset] [(.long (((w200 + w201) + w202) - pl203))]))
  refine own_go (fun t k => XT.lconst X294.here hx rfl (hb hby at_237) k) ?_
  show own_End p e below s _ _ _ (T294.setTop (mkF m 238 #[.val (.long p1), .second, .val (.long p2), .second, .val (.long p3), .second, .val (.long p4), .second, .val (.long (2305843009213693951 : Int64)), .second, .val (.long w200), .second, .val (.long w201), .second, .val (.long w202), .second, .val (.long ((w200 + w201) + w202)), .second, .val (.long pl203), .second, .val (.ref b204), .val (.ref b212), .val (.ref b224), .val (.ref b240), .val (.long (((w200 + w201) + w202) - pl203)), .second, .val (.int (2 : Int32)), .val (.long (((w200 + w201) + w202) - pl203)), .second, .unset, .unset] [(.long (1 : Int64)), (.long (((w200 + w201) + w202) - pl203))]))
  refine own_go (fun t k => XT.lcmp X294.here hx rfl (hb hby at_238) rfl k) ?_
  show own_End p e below s _ _ _ (T294.setTop (mkF m 239 #[.val (.long p1), .second, .val (.long p2), .second, .val (.long p3), .second, .val (.long p4), .second, .val (.long (2305843009213693951 : Int64)), .second, .val (.long w200), .second, .val (.long w201), .second, .val (.long w202), .second, .val (.long ((w200 + w201) + w202)), .second, .val (.long pl203), .second, .val (.ref b204), .val (.ref b212), .val (.ref b224), .val (.ref b240), .val (.long (((w200 + w201) + w202) - pl203)), .second, .val (.int (2 : Int32)), .val (.long (((w200 + w201) + w202) - pl203)), .second, .unset, .unset] [(.int (XT.cmpL (((w200 + w201) + w202) - pl203) (1 : Int64)))]))
  refine own_go (fun t k => XS.ifNo X294.here hx rfl (hb hby at_239) rfl (own_lltN (k := 1) (by decide) (by omega)) k) ?_
  show own_End p e below s _ _ _ (T294.setTop (mkF m 242 #[.val (.long p1), .second, .val (.long p2), .second, .val (.long p3), .second, .val (.long p4), .second, .val (.long (2305843009213693951 : Int64)), .second, .val (.long w200), .second, .val (.long w201), .second, .val (.long w202), .second, .val (.long ((w200 + w201) + w202)), .second, .val (.long pl203), .second, .val (.ref b204), .val (.ref b212), .val (.ref b224), .val (.ref b240), .val (.long (((w200 + w201) + w202) - pl203)), .second, .val (.int (2 : Int32)), .val (.long (((w200 + w201) + w202) - pl203)), .second, .unset, .unset] []))
  refine own_go (fun t k => XT.lload X294.here hx rfl (hb hby at_242) rfl k) ?_
  show own_End p e below s _ _ _ (T294.setTop (mkF m 244 #[.val (.long p1), .second, .val (.long p2), .second, .val (.long p3), .second, .val (.long p4), .second, .val (.long (2305843009213693951 : Int64)), .second, .val (.long w200), .second, .val (.long w201), .second, .val (.long w202), .second, .val (.long ((w200 + w201) + w202)), .second, .val (.long pl203), .second, .val (.ref b204), .val (.ref b212), .val (.ref b224), .val (.ref b240), .val (.long (((w200 + w201) + w202) - pl203)), .second, .val (.int (2 : Int32)), .val (.long (((w200 + w201) + w202) - pl203)), .second, .unset, .unset] [(.long (((w200 + w201) + w202) - pl203))]))
  refine own_go (fun t k => XS.aload X294.here hx rfl (hb hby at_244) rfl rfl k) ?_
  show own_End p e below s _ _ _ (T294.setTop (mkF m 246 #[.val (.long p1), .second, .val (.long p2), .second, .val (.long p3), .second, .val (.long p4), .second, .val (.long (2305843009213693951 : Int64)), .second, .val (.long w200), .second, .val (.long w201), .second, .val (.long w202), .second, .val (.long ((w200 + w201) + w202)), .second, .val (.long pl203), .second, .val (.ref b204), .val (.ref b212), .val (.ref b224), .val (.ref b240), .val (.long (((w200 + w201) + w202) - pl203)), .second, .val (.int (2 : Int32)), .val (.long (((w200 + w201) + w202) - pl203)), .second, .unset, .unset] [(.ref b224), (.long (((w200 + w201) + w202) - pl203))]))
  refine own_go (fun t k => XS.iload X294.here hx rfl (hb hby at_246) rfl k) ?_
  show own_End p e below s _ _ _ (T294.setTop (mkF m 248 #[.val (.long p1), .second, .val (.long p2), .second, .val (.long p3), .second, .val (.long p4), .second, .val (.long (2305843009213693951 : Int64)), .second, .val (.long w200), .second, .val (.long w201), .second, .val (.long w202), .second, .val (.long ((w200 + w201) + w202)), .second, .val (.long pl203), .second, .val (.ref b204), .val (.ref b212), .val (.ref b224), .val (.ref b240), .val (.long (((w200 + w201) + w202) - pl203)), .second, .val (.int (2 : Int32)), .val (.long (((w200 + w201) + w202) - pl203)), .second, .unset, .unset] [(.int (2 : Int32)), (.ref b224), (.long (((w200 + w201) + w202) - pl203))]))
  refine own_go (own_fldJ X294 hx hZ e295 f287 (j := (2 : Int32)) (v := (.long w202)) 2 (by decide) (by decide) rfl (pc := 248) (Ls := #[.val (.long p1), .second, .val (.long p2), .second, .val (.long p3), .second, .val (.long p4), .second, .val (.long (2305843009213693951 : Int64)), .second, .val (.long w200), .second, .val (.long w201), .second, .val (.long w202), .second, .val (.long ((w200 + w201) + w202)), .second, .val (.long pl203), .second, .val (.ref b204), .val (.ref b212), .val (.ref b224), .val (.ref b240), .val (.long (((w200 + w201) + w202) - pl203)), .second, .val (.int (2 : Int32)), .val (.long (((w200 + w201) + w202) - pl203)), .second, .unset, .unset]) (rest := [(.long (((w200 + w201) + w202) - pl203))]) (hb hby at_248)) ?_
  show own_End p e below s _ _ _ (T294.setTop (mkF m 249 #[.val (.long p1), .second, .val (.long p2), .second, .val (.long p3), .second, .val (.long p4), .second, .val (.long (2305843009213693951 : Int64)), .second, .val (.long w200), .second, .val (.long w201), .second, .val (.long w202), .second, .val (.long ((w200 + w201) + w202)), .second, .val (.long pl203), .second, .val (.ref b204), .val (.ref b212), .val (.ref b224), .val (.ref b240), .val (.long (((w200 + w201) + w202) - pl203)), .second, .val (.int (2 : Int32)), .val (.long (((w200 + w201) + w202) - pl203)), .second, .unset, .unset] [(.long w202), (.long (((w200 + w201) + w202) - pl203))]))
  refine own_go (fun t k => XT.lcmp X294.here hx rfl (hb hby at_249) rfl k) ?_
  show own_End p e below s _ _ _ (T294.setTop (mkF m 250 #[.val (.long p1), .second, .val (.long p2), .second, .val (.long p3), .second, .val (.long p4), .second, .val (.long (2305843009213693951 : Int64)), .second, .val (.long w200), .second, .val (.long w201), .second, .val (.long w202), .second, .val (.long ((w200 + w201) + w202)), .second, .val (.long pl203), .second, .val (.ref b204), .val (.ref b212), .val (.ref b224), .val (.ref b240), .val (.long (((w200 + w201) + w202) - pl203)), .second, .val (.int (2 : Int32)), .val (.long (((w200 + w201) + w202) - pl203)), .second, .unset, .unset] [(.int (XT.cmpL (((w200 + w201) + w202) - pl203) w202))]))
  refine own_go (fun t k => XS.ifNo X294.here hx rfl (hb hby at_250) rfl (own_lgtN rfl (by omega)) k) ?_
  show own_End p e below s _ _ _ (T294.setTop (mkF m 253 #[.val (.long p1), .second, .val (.long p2), .second, .val (.long p3), .second, .val (.long p4), .second, .val (.long (2305843009213693951 : Int64)), .second, .val (.long w200), .second, .val (.long w201), .second, .val (.long w202), .second, .val (.long ((w200 + w201) + w202)), .second, .val (.long pl203), .second, .val (.ref b204), .val (.ref b212), .val (.ref b224), .val (.ref b240), .val (.long (((w200 + w201) + w202) - pl203)), .second, .val (.int (2 : Int32)), .val (.long (((w200 + w201) + w202) - pl203)), .second, .unset, .unset] []))
  refine own_go (fun t k => XS.iconst X294.here hx rfl (hb hby at_253) k) ?_
  show own_End p e below s _ _ _ (T294.setTop (mkF m 254 #[.val (.long p1), .second, .val (.long p2), .second, .val (.long p3), .second, .val (.long p4), .second, .val (.long (2305843009213693951 : Int64)), .second, .val (.long w200), .second, .val (.long w201), .second, .val (.long w202), .second, .val (.long ((w200 + w201) + w202)), .second, .val (.long pl203), .second, .val (.ref b204), .val (.ref b212), .val (.ref b224), .val (.ref b240), .val (.long (((w200 + w201) + w202) - pl203)), .second, .val (.int (2 : Int32)), .val (.long (((w200 + w201) + w202) - pl203)), .second, .unset, .unset] [(.int (1 : Int32))]))
  refine own_go (fun t k => XS.goto X294.here hx rfl (pc0 := 254) (pc' := 258) rfl (hb hby at_254) (by decide) (by decide) k) ?_
  show own_End p e below s _ _ _ (T294.setTop (mkF m 258 #[.val (.long p1), .second, .val (.long p2), .second, .val (.long p3), .second, .val (.long p4), .second, .val (.long (2305843009213693951 : Int64)), .second, .val (.long w200), .second, .val (.long w201), .second, .val (.long w202), .second, .val (.long ((w200 + w201) + w202)), .second, .val (.long pl203), .second, .val (.ref b204), .val (.ref b212), .val (.ref b224), .val (.ref b240), .val (.long (((w200 + w201) + w202) - pl203)), .second, .val (.int (2 : Int32)), .val (.long (((w200 + w201) + w202) - pl203)), .second, .unset, .unset] [(.int (1 : Int32))]))
  refine own_go (fun t k => XS.istore X294.here hx rfl (hb hby at_258) rfl (l' := #[.val (.long p1), .second, .val (.long p2), .second, .val (.long p3), .second, .val (.long p4), .second, .val (.long (2305843009213693951 : Int64)), .second, .val (.long w200), .second, .val (.long w201), .second, .val (.long w202), .second, .val (.long ((w200 + w201) + w202)), .second, .val (.long pl203), .second, .val (.ref b204), .val (.ref b212), .val (.ref b224), .val (.ref b240), .val (.long (((w200 + w201) + w202) - pl203)), .second, .val (.int (2 : Int32)), .val (.long (((w200 + w201) + w202) - pl203)), .second, .val (.int (1 : Int32)), .unset]) rfl k) ?_
  show own_End p e below s _ _ _ (T294.setTop (mkF m 260 #[.val (.long p1), .second, .val (.long p2), .second, .val (.long p3), .second, .val (.long p4), .second, .val (.long (2305843009213693951 : Int64)), .second, .val (.long w200), .second, .val (.long w201), .second, .val (.long w202), .second, .val (.long ((w200 + w201) + w202)), .second, .val (.long pl203), .second, .val (.ref b204), .val (.ref b212), .val (.ref b224), .val (.ref b240), .val (.long (((w200 + w201) + w202) - pl203)), .second, .val (.int (2 : Int32)), .val (.long (((w200 + w201) + w202) - pl203)), .second, .val (.int (1 : Int32)), .unset] []))
  refine own_go (fun t k => XS.aload X294.here hx rfl (hb hby at_260) rfl rfl k) ?_
  show own_End p e below s _ _ _ (T294.setTop (mkF m 262 #[.val (.long p1), .second, .val (.long p2), .second, .val (.long p3), .second, .val (.long p4), .second, .val (.long (2305843009213693951 : Int64)), .second, .val (.long w200), .second, .val (.long w201), .second, .val (.long w202), .second, .val (.long ((w200 + w201) + w202)), .second, .val (.long pl203), .second, .val (.ref b204), .val (.ref b212), .val (.ref b224), .val (.ref b240), .val (.long (((w200 + w201) + w202) - pl203)), .second, .val (.int (2 : Int32)), .val (.long (((w200 + w201) + w202) - pl203)), .second, .val (.int (1 : Int32)), .unset] [(.ref b240)]))
  obtain ⟨v296, T296, L296, X296, hQ296, st296⟩ := own_callV X294 hx hZ (C := "com/example/ordinate/ordinate/core/PairBlocks$Sorted") (y := (⟨"com/example/ordinate/ordinate/core/PairBlocks$Sorted", "next", "()Z"⟩ : MethodName)) 0 hown (hw _ (List.mem_of_getElem? (i := 47) rfl)) (hw _ (List.mem_of_getElem? (i := 48) rfl)) (hw _ (List.mem_of_getElem? (i := 50) rfl)) (hw _ (List.mem_of_getElem? (i := 49) rfl)) (hw _ (List.mem_of_getElem? (i := 6) rfl)) (hw _ (List.mem_of_getElem? (i := 51) rfl)) (by decide) (rm8_2 l Z a0 hw [] b240 h284 n0 Z284 b204 b212 b224 so (Nat.ne_of_gt lt_b240_so) nb240 f288 g_at g_xs g_ys g_ws g_so f289) e295 f288 (pc := 262) (Ls := #[.val (.long p1), .second, .val (.long p2), .second, .val (.long p3), .second, .val (.long p4), .second, .val (.long (2305843009213693951 : Int64)), .second, .val (.long w200), .second, .val (.long w201), .second, .val (.long w202), .second, .val (.long ((w200 + w201) + w202)), .second, .val (.long pl203), .second, .val (.ref b204), .val (.ref b212), .val (.ref b224), .val (.ref b240), .val (.long (((w200 + w201) + w202) - pl203)), .second, .val (.int (2 : Int32)), .val (.long (((w200 + w201) + w202) - pl203)), .second, .val (.int (1 : Int32)), .unset]) [] [] (by rw [hml]; rfl) rfl rfl (lenOf pd__Z rfl) (Nat.le_of_eq rfl) (hb hby at_262) (by decide) (by decide) (by decide) (by decide)
  obtain ⟨rfl, Nz⟩ := hQ296
  have N_z := Fr.app N295 Nz
  refine own_go st296 ?_
  show own_End p e below s _ _ _ (T296.setTop (mkF m 265 #[.val (.long p1), .second, .val (.long p2), .second, .val (.long p3), .second, .val (.long p4), .second, .val (.long (2305843009213693951 : Int64)), .second, .val (.long w200), .second, .val (.long w201), .second, .val (.long w202), .second, .val (.long ((w200 + w201) + w202)), .second, .val (.long pl203), .second, .val (.ref b204), .val (.ref b212), .val (.ref b224), .val (.ref b240), .val (.long (((w200 + w201) + w202) - pl203)), .second, .val (.int (2 : Int32)), .val (.long (((w200 + w201) + w202) - pl203)), .second, .val (.int (1 : Int32)), .unset] [(.int (0 : Int32))]))
  refine own_go (fun t k => XS.istore X296.here hx rfl (hb hby at_265) rfl (l' := #[.val (.long p1), .second, .val (.long p2), .second, .val (.long p3), .second, .val (.long p4), .second, .val (.long (2305843009213693951 : Int64)), .second, .val (.long w200), .second, .val (.long w201), .second, .val (.long w202), .second, .val (.long ((w200 + w201) + w202)), .second, .val (.long pl203), .second, .val (.ref b204), .val (.ref b212), .val (.ref b224), .val (.ref b240), .val (.long (((w200 + w201) + w202) - pl203)), .second, .val (.int (2 : Int32)), .val (.long (((w200 + w201) + w202) - pl203)), .second, .val (.int (1 : Int32)), .val (.int (0 : Int32))]) rfl k) ?_
  show own_End p e below s _ _ _ (T296.setTop (mkF m 267 #[.val (.long p1), .second, .val (.long p2), .second, .val (.long p3), .second, .val (.long p4), .second, .val (.long (2305843009213693951 : Int64)), .second, .val (.long w200), .second, .val (.long w201), .second, .val (.long w202), .second, .val (.long ((w200 + w201) + w202)), .second, .val (.long pl203), .second, .val (.ref b204), .val (.ref b212), .val (.ref b224), .val (.ref b240), .val (.long (((w200 + w201) + w202) - pl203)), .second, .val (.int (2 : Int32)), .val (.long (((w200 + w201) + w202) - pl203)), .second, .val (.int (1 : Int32)), .val (.int (0 : Int32))] []))
  refine own_go (fun t k => XS.iload X296.here hx rfl (hb hby at_267) rfl k) ?_
  show own_End p e below s _ _ _ (T296.setTop (mkF m 269 #[.val (.long p1), .second, .val (.long p2), .second, .val (.long p3), .second, .val (.long p4), .second, .val (.long (2305843009213693951 : Int64)), .second, .val (.long w200), .second, .val (.long w201), .second, .val (.long w202), .second, .val (.long ((w200 + w201) + w202)), .second, .val (.long pl203), .second, .val (.ref b204), .val (.ref b212), .val (.ref b224), .val (.ref b240), .val (.long (((w200 + w201) + w202) - pl203)), .second, .val (.int (2 : Int32)), .val (.long (((w200 + w201) + w202) - pl203)), .second, .val (.int (1 : Int32)), .val (.int (0 : Int32))] [(.int (1 : Int32))]))
  refine own_go (fun t k => XS.ifNo X296.here hx rfl (hb hby at_269) rfl rfl k) ?_
  show own_End p e below s _ _ _ (T296.setTop (mkF m 272 #[.val (.long p1), .second, .val (.long p2), .second, .val (.long p3), .second, .val (.long p4), .second, .val (.long (2305843009213693951 : Int64)), .second, .val (.long w200), .second, .val (.long w201), .second, .val (.long w202), .second, .val (.long ((w200 + w201) + w202)), .second, .val (.long pl203), .second, .val (.ref b204), .val (.ref b212), .val (.ref b224), .val (.ref b240), .val (.long (((w200 + w201) + w202) - pl203)), .second, .val (.int (2 : Int32)), .val (.long (((w200 + w201) + w202) - pl203)), .second, .val (.int (1 : Int32)), .val (.int (0 : Int32))] []))
  refine own_go (fun t k => XS.iload X296.here hx rfl (hb hby at_272) rfl k) ?_
  show own_End p e below s _ _ _ (T296.setTop (mkF m 274 #[.val (.long p1), .second, .val (.long p2), .second, .val (.long p3), .second, .val (.long p4), .second, .val (.long (2305843009213693951 : Int64)), .second, .val (.long w200), .second, .val (.long w201), .second, .val (.long w202), .second, .val (.long ((w200 + w201) + w202)), .second, .val (.long pl203), .second, .val (.ref b204), .val (.ref b212), .val (.ref b224), .val (.ref b240), .val (.long (((w200 + w201) + w202) - pl203)), .second, .val (.int (2 : Int32)), .val (.long (((w200 + w201) + w202) - pl203)), .second, .val (.int (1 : Int32)), .val (.int (0 : Int32))] [(.int (0 : Int32))]))
  refine own_go (fun t k => XS.iload X296.here hx rfl (hb hby at_274) rfl k) ?_
  show own_End p e below s _ _ _ (T296.setTop (mkF m 276 #[.val (.long p1), .second, .val (.long p2), .second, .val (.long p3), .second, .val (.long p4), .second, .val (.long (2305843009213693951 : Int64)), .second, .val (.long w200), .second, .val (.long w201), .second, .val (.long w202), .second, .val (.long ((w200 + w201) + w202)), .second, .val (.long pl203), .second, .val (.ref b204), .val (.ref b212), .val (.ref b224), .val (.ref b240), .val (.long (((w200 + w201) + w202) - pl203)), .second, .val (.int (2 : Int32)), .val (.long (((w200 + w201) + w202) - pl203)), .second, .val (.int (1 : Int32)), .val (.int (0 : Int32))] [(.int (2 : Int32)), (.int (0 : Int32))]))
  refine own_go (fun t k => XS.iconst X296.here hx rfl (hb hby at_276) k) ?_
  show own_End p e below s _ _ _ (T296.setTop (mkF m 277 #[.val (.long p1), .second, .val (.long p2), .second, .val (.long p3), .second, .val (.long p4), .second, .val (.long (2305843009213693951 : Int64)), .second, .val (.long w200), .second, .val (.long w201), .second, .val (.long w202), .second, .val (.long ((w200 + w201) + w202)), .second, .val (.long pl203), .second, .val (.ref b204), .val (.ref b212), .val (.ref b224), .val (.ref b240), .val (.long (((w200 + w201) + w202) - pl203)), .second, .val (.int (2 : Int32)), .val (.long (((w200 + w201) + w202) - pl203)), .second, .val (.int (1 : Int32)), .val (.int (0 : Int32))] [(.int (2 : Int32)), (.int (2 : Int32)), (.int (0 : Int32))]))
  refine own_go (fun t k => XS.icmpYes X296.here hx rfl (pc0 := 277) (pc' := 284) rfl (hb hby at_277) rfl (by decide) (by decide) (by decide) k) ?_
  show own_End p e below s _ _ _ (T296.setTop (mkF m 284 #[.val (.long p1), .second, .val (.long p2), .second, .val (.long p3), .second, .val (.long p4), .second, .val (.long (2305843009213693951 : Int64)), .second, .val (.long w200), .second, .val (.long w201), .second, .val (.long w202), .second, .val (.long ((w200 + w201) + w202)), .second, .val (.long pl203), .second, .val (.ref b204), .val (.ref b212), .val (.ref b224), .val (.ref b240), .val (.long (((w200 + w201) + w202) - pl203)), .second, .val (.int (2 : Int32)), .val (.long (((w200 + w201) + w202) - pl203)), .second, .val (.int (1 : Int32)), .val (.int (0 : Int32))] [(.int (0 : Int32))]))
  refine own_go (fun t k => XS.iconst X296.here hx rfl (hb hby at_284) k) ?_
  show own_End p e below s _ _ _ (T296.setTop (mkF m 285 #[.val (.long p1), .second, .val (.long p2), .second, .val (.long p3), .second, .val (.long p4), .second, .val (.long (2305843009213693951 : Int64)), .second, .val (.long w200), .second, .val (.long w201), .second, .val (.long w202), .second, .val (.long ((w200 + w201) + w202)), .second, .val (.long pl203), .second, .val (.ref b204), .val (.ref b212), .val (.ref b224), .val (.ref b240), .val (.long (((w200 + w201) + w202) - pl203)), .second, .val (.int (2 : Int32)), .val (.long (((w200 + w201) + w202) - pl203)), .second, .val (.int (1 : Int32)), .val (.int (0 : Int32))] [(.int (0 : Int32)), (.int (0 : Int32))]))
  refine own_go (fun t k => XS.icmpNo X296.here hx rfl (hb hby at_285) rfl (by decide) k) ?_
  show own_End p e below s _ _ _ (T296.setTop (mkF m 288 #[.val (.long p1), .second, .val (.long p2), .second, .val (.long p3), .second, .val (.long p4), .second, .val (.long (2305843009213693951 : Int64)), .second, .val (.long w200), .second, .val (.long w201), .second, .val (.long w202), .second, .val (.long ((w200 + w201) + w202)), .second, .val (.long pl203), .second, .val (.ref b204), .val (.ref b212), .val (.ref b224), .val (.ref b240), .val (.long (((w200 + w201) + w202) - pl203)), .second, .val (.int (2 : Int32)), .val (.long (((w200 + w201) + w202) - pl203)), .second, .val (.int (1 : Int32)), .val (.int (0 : Int32))] []))
  refine own_go (fun t k => XS.iconst X296.here hx rfl (hb hby at_288) k) ?_
  show own_End p e below s _ _ _ (T296.setTop (mkF m 289 #[.val (.long p1), .second, .val (.long p2), .second, .val (.long p3), .second, .val (.long p4), .second, .val (.long (2305843009213693951 : Int64)), .second, .val (.long w200), .second, .val (.long w201), .second, .val (.long w202), .second, .val (.long ((w200 + w201) + w202)), .second, .val (.long pl203), .second, .val (.ref b204), .val (.ref b212), .val (.ref b224), .val (.ref b240), .val (.long (((w200 + w201) + w202) - pl203)), .second, .val (.int (2 : Int32)), .val (.long (((w200 + w201) + w202) - pl203)), .second, .val (.int (1 : Int32)), .val (.int (0 : Int32))] [(.int (1 : Int32))]))
  refine own_go (fun t k => XS.goto X296.here hx rfl (pc0 := 289) (pc' := 293) rfl (hb hby at_289) (by decide) (by decide) k) ?_
  show own_End p e below s _ _ _ (T296.setTop (mkF m 293 #[.val (.long p1), .second, .val (.long p2), .second, .val (.long p3), .second, .val (.long p4), .second, .val (.long (2305843009213693951 : Int64)), .second, .val (.long w200), .second, .val (.long w201), .second, .val (.long w202), .second, .val (.long ((w200 + w201) + w202)), .second, .val (.long pl203), .second, .val (.ref b204), .val (.ref b212), .val (.ref b224), .val (.ref b240), .val (.long (((w200 + w201) + w202) - pl203)), .second, .val (.int (2 : Int32)), .val (.long (((w200 + w201) + w202) - pl203)), .second, .val (.int (1 : Int32)), .val (.int (0 : Int32))] [(.int (1 : Int32))]))
  exact own_retN X296 hx (t := .boolean) hret hlk (by simp) (hb hby at_293) ⟨rfl, N_z⟩ (by decide) (by decide)
set_option maxRecDepth 65536 in
set_option maxHeartbeats 40000000 in
theorem comes_1 {Post : Tables → Env → Array Value → State → Outcome → State → Prop} (hpost : ∀ tb e args s v u, (limb_1_1.after args s (.returned v) u = true ∧ limb_1_2.after args s (.returned v) u = true ∧ True) → FrameEnd s (.returned v) u (Jvm.fieldLocs frame_1_writes args s ++ Jvm.arrayLocs frame_1_arrays args s ++ Jvm.staticLocs frame_1_statics s) 24 128 → Post tb e args s (.returned v) u) :
    ArmFor flags0 classFile x code maxLocals ret World_1 tables_1 room_1 Calls_1 rest_1 Pre_1 Post := by
  intro l hfl _ _ p e ha hc hk s m args below hf hA hF happ hP
  obtain ⟨hcalls, hrest, hpre⟩ := hP
  obtain ⟨-, -, -, hnamed, -, -, -, hat⟩ := (Spec.applies_iff hf).mp happ
  obtain ⟨hg, hn⟩ := and_e (Cond.before_iff.mp (show (Jvm.Cond.and given_1 narrow_1).before args s = true from hpre))
  obtain ⟨g0, r0⟩ := and_e hg
  obtain ⟨g1, r1⟩ := and_e r0
  obtain ⟨g2, r2⟩ := and_e r1
  obtain ⟨g3, r3⟩ := and_e r2
  obtain ⟨w0, w1, w2, w3, rfl⟩ : ∃ w0 w1 w2 w3 : Value, args = #[w0, w1, w2, w3] := by
    have hs : args.size = 4 := by simpa [Cond.value, given_1] using g0
    obtain ⟨L⟩ := args
    match L, hs with
    | [w0, w1, w2, w3], _ => exact ⟨w0, w1, w2, w3, rfl⟩
  have hw := fun d (hd : d ∈ tables_1) => atoms_spec (ws := Jvm.Cond.code x code maxLocals ret :: tables_1) hat d (List.mem_cons_of_mem _ hd)
  have hfit : Fit s := fun {y c} hc i hi => by
    obtain ⟨ha, rfl⟩ := Array.getElem?_eq_some_iff.mp hc
    have q := List.all_eq_true.mp ((Array.all_eq_true_iff_forall_mem.mp hF) _ (Array.getElem_mem ha)) i (List.mem_range.mpr hi)
    simpa [Array.getElem?_eq_getElem hi] using q
  obtain ⟨i0, ei0⟩ := isL_v g1
  obtain rfl : w0 = (.long i0) := Option.some.inj ei0
  obtain ⟨i1, ei1⟩ := isL_v g2
  obtain rfl : w1 = (.long i1) := Option.some.inj ei1
  obtain ⟨i2, ei2⟩ := isL_v g3
  obtain rfl : w2 = (.long i2) := Option.some.inj ei2
  obtain ⟨i3, ei3⟩ := isL_v r3
  obtain rfl : w3 = (.long i3) := Option.some.inj ei3
  obtain ⟨n, o, h1, h2, h3, _, L, rfl, ⟨rfl, N⟩, hq⟩ := rm0 l s _ hw tables_1 i0 i1 i2 i3 s.heap s.heap.size (Nat.le_refl _)  p e ha hc hk s m _ below hf ((Spec.applies_iff_loose hf).mp happ).1 ⟨rfl, State.Warmed39.refl s, rfl⟩ trivial
  refine ⟨n, _, h1, h2, h3, hpost _ _ _ _ _ _ ⟨Cond.after_iff.mpr rfl, Cond.after_iff.mpr (eq_i res_at (Term.int_eval (1)) rfl), trivial⟩ ⟨hq.1, hq.2.1, (hq.2.2.sift fun y hy => Or.inr (N y hy)).mono (by decide) (by decide)⟩⟩
theorem main_1_1 : Claimed_1_1 := comes_1 fun _ _ _ _ _ _ h hF => ⟨h.1, hF⟩
theorem main_1_2 : Claimed_1_2 := comes_1 fun _ _ _ _ _ _ h hF => ⟨h.2.1, hF⟩
end Jvm.Pilot.@@N@@
namespace Jvm.Pilot.@@N@@
open Jvm Jvm.ClassFile Sem Op Lib Jvm.Free Jvm.Stand Jvm.Pilot.@@N@@.Jvm.D
/-! MADE BY PROGRAM (witnessworld.py) out of the Statement's table words and the real class files: 13 classes; the members and pool entries that the words name. The judged class is class 1, her method 1. -/
namespace start1
open Jvm.ClassFile
def u (s : String) : CpInfo := .utf8 (stringToUtf16 s)
/-- a pool by its gaps: so many unusable entries, then the entry; so many at the end -/
def gap : Nat → List CpInfo → List CpInfo
  | 0, r => r
  | n + 1, r => .unusable :: gap n r
def poolList (es : List (Nat × CpInfo)) (last : Nat) : List CpInfo := es.foldr (fun e r => gap e.1 (e.2 :: r)) (gap last [])
def pool (es : List (Nat × CpInfo)) (last : Nat) : Array CpInfo := ⟨poolList es last⟩
def fileOf (pool : Array CpInfo) (this : Nat) (attrs : Array Attribute := #[]) (ms : Array MethodInfo := #[]) (fl : Nat := 33) (sup : Nat := 0) (ifs : Array Nat := #[]) (fds : Array FieldInfo := #[]) : ClassFile where
  minorVersion := 0
  majorVersion := 65
  constantPool := pool
  accessFlags := fl
  thisClass := this
  superClass := sup
  interfaces := ifs
  fields := fds
  methods := ms
  attributes := attrs
def plain (name : String) (sup : Option ClassId) : Class where
  name := name
  kind := .ordinary
  loader := none
  accessFlags := 33
  super := sup
  interfaces := #[]
  cf := none
  fields := #[]
  methods := #[]
  instanceTypes := #[]
  staticTypes := #[]
  resolved := #[]
  callSites := []
  init := .initialized
  statics := none
  mirror := none

def pool0 : Array CpInfo := pool [(5, u "<init>"), (0, u "()V"), (1, .class_ 10), (1, u "java/lang/Object")] 113

def k0c0 : Code := { maxStack := 0, maxLocals := 1, code := object_method_1_code, exceptionTable := #[], attributes := #[] }
def k0m0 : Method := { name := "<init>", desc := "()V", sig := { parameters := [], returnType := none }, accessFlags := 1, code := some k0c0 }
/-- java/lang/Object -/
def k0 : Class := { plain "java/lang/Object" none with
  accessFlags := 33
  interfaces := #[]
  cf := some (fileOf pool0 8 #[] #[{ accessFlags := 1, nameIndex := 5, descriptorIndex := 6, attributes := #[] }] 33 0 #[] #[])
  fields := #[]
  methods := #[k0m0]
  instanceTypes := #[]
  staticTypes := #[]
  resolved := Array.replicate 124 none
  statics := none }

def pool1 : Array CpInfo := pool [(2, .class_ 4), (1, u "java/lang/Object"), (0, u "<init>"), (0, u "()V"), (0, .long 2305843009213693951), (3, .long 9223372036854775807), (1, .class_ 14), (0, u "com/example/ordinate/ordinate/core/PairBlocks$Sorted"), (0, .methodref 13 16), (0, .nameAndType 5 17), (0, u "([I[I[J)V"), (0, .methodref 13 19), (0, .nameAndType 20 21), (0, u "skip"), (0, u "(J)J"), (0, .methodref 13 23), (0, .nameAndType 24 25), (0, u "x"), (0, u "()I"), (0, .methodref 13 27), (0, .nameAndType 28 25), (0, u "y"), (0, .methodref 13 30), (0, .nameAndType 31 32), (0, u "weight"), (0, u "()J"), (0, .methodref 13 34), (0, .nameAndType 35 36), (0, u "next"), (0, u "()Z"), (0, .class_ 38), (0, u "com/example/ordinate/ordinate/core/SortedSkipPinLaw"), (2, u "law"), (0, u "(JJJJ)Z")] 11

def k1m0 : Method := { name := "<init>", desc := "()V", sig := { parameters := [], returnType := none }, accessFlags := 1, code := none }
def k1c1 : Code := { maxStack := 6, maxLocals := 31, code := code, exceptionTable := #[], attributes := #[] }
def k1m1 : Method := { name := "law", desc := "(JJJJ)Z", sig := { parameters := [.long, .long, .long, .long], returnType := some .boolean }, accessFlags := 9, code := some k1c1 }
/-- com/example/ordinate/ordinate/core/SortedSkipPinLaw -/
def k1 : Class := { plain "com/example/ordinate/ordinate/core/SortedSkipPinLaw" (some 0) with
  accessFlags := 49
  interfaces := #[]
  cf := some (fileOf pool1 37 #[] #[{ accessFlags := 1, nameIndex := 5, descriptorIndex := 6, attributes := #[] }, { accessFlags := 9, nameIndex := 41, descriptorIndex := 42, attributes := #[] }] 49 2 #[] #[])
  fields := #[]
  methods := #[k1m0, k1m1]
  instanceTypes := #[]
  staticTypes := #[]
  resolved := Array.replicate 54 none
  statics := none }

def pool2 : Array CpInfo := pool [(1, .class_ 2), (0, u "com/example/ordinate/ordinate/core/PairBlocks$Pairs"), (0, .class_ 4), (0, u "java/lang/Object"), (10, .class_ 16), (0, u "com/example/ordinate/ordinate/core/PairBlocks")] 2

/-- com/example/ordinate/ordinate/core/PairBlocks$Pairs -/
def k2 : Class := { plain "com/example/ordinate/ordinate/core/PairBlocks$Pairs" (some 0) with
  accessFlags := 1536
  interfaces := #[]
  cf := some (fileOf pool2 1 #[.nestHost 15] #[] 1536 3 #[] #[])
  fields := #[]
  methods := #[]
  instanceTypes := #[]
  staticTypes := #[]
  resolved := Array.replicate 19 none
  statics := none }

def pool3 : Array CpInfo := pool [(1, .methodref 2 3), (0, .class_ 4), (0, .nameAndType 5 6), (0, u "java/lang/Object"), (0, u "<init>"), (0, u "()V"), (0, .fieldref 8 9), (0, .class_ 10), (0, .nameAndType 11 12), (0, u "com/example/ordinate/ordinate/core/PairBlocks$Sorted"), (0, u "at"), (0, u "I"), (0, .fieldref 8 14), (0, .nameAndType 15 16), (0, u "xs"), (0, u "[I"), (0, .fieldref 8 18), (0, .nameAndType 19 16), (0, u "ys"), (0, .fieldref 8 21), (0, .nameAndType 22 23), (0, u "weights"), (0, u "[J"), (0, .methodref 25 26), (0, .class_ 27), (0, .nameAndType 28 29), (0, u "com/example/ordinate/ordinate/core/IntSort"), (0, u "identity"), (0, u "(I)[I"), (0, .fieldref 8 31), (0, .nameAndType 32 16), (0, u "sorted"), (4, .class_ 38), (0, u "com/example/ordinate/ordinate/core/PairBlocks$Pairs"), (0, u "([I[I[J)V"), (3, u "()I"), (5, u "skip"), (0, u "(J)J"), (1, u "next"), (0, u "()Z"), (0, u "x"), (0, u "y"), (0, u "weight"), (0, u "()J"), (3, .class_ 62), (0, u "com/example/ordinate/ordinate/core/PairBlocks")] 6

def k3c0 : Code := { maxStack := 2, maxLocals := 4, code := prog_110_method_1_code, exceptionTable := #[], attributes := #[] }
def k3m0 : Method := { name := "<init>", desc := "([I[I[J)V", sig := { parameters := [(.array .int), (.array .int), (.array .long)], returnType := none }, accessFlags := 0, code := some k3c0 }
def k3c1 : Code := { maxStack := 6, maxLocals := 7, code := prog_110_method_6_code, exceptionTable := #[], attributes := #[] }
def k3m1 : Method := { name := "skip", desc := "(J)J", sig := { parameters := [.long], returnType := some .long }, accessFlags := 0, code := some k3c1 }
def k3c2 : Code := { maxStack := 3, maxLocals := 1, code := prog_110_method_7_code, exceptionTable := #[], attributes := #[] }
def k3m2 : Method := { name := "next", desc := "()Z", sig := { parameters := [], returnType := some .boolean }, accessFlags := 1, code := some k3c2 }
def k3c3 : Code := { maxStack := 3, maxLocals := 1, code := prog_110_method_8_code, exceptionTable := #[], attributes := #[] }
def k3m3 : Method := { name := "x", desc := "()I", sig := { parameters := [], returnType := some .int }, accessFlags := 1, code := some k3c3 }
def k3c4 : Code := { maxStack := 3, maxLocals := 1, code := prog_110_method_9_code, exceptionTable := #[], attributes := #[] }
def k3m4 : Method := { name := "y", desc := "()I", sig := { parameters := [], returnType := some .int }, accessFlags := 1, code := some k3c4 }
def k3c5 : Code := { maxStack := 3, maxLocals := 1, code := prog_110_method_10_code, exceptionTable := #[], attributes := #[] }
def k3m5 : Method := { name := "weight", desc := "()J", sig := { parameters := [], returnType := some .long }, accessFlags := 1, code := some k3c5 }
/-- com/example/ordinate/ordinate/core/PairBlocks$Sorted -/
def k3 : Class := { plain "com/example/ordinate/ordinate/core/PairBlocks$Sorted" (some 0) with
  accessFlags := 48
  interfaces := #[2]
  cf := some (fileOf pool3 8 #[.nestHost 61] #[{ accessFlags := 0, nameIndex := 5, descriptorIndex := 39, attributes := #[] }, { accessFlags := 0, nameIndex := 49, descriptorIndex := 50, attributes := #[] }, { accessFlags := 1, nameIndex := 52, descriptorIndex := 53, attributes := #[] }, { accessFlags := 1, nameIndex := 54, descriptorIndex := 43, attributes := #[] }, { accessFlags := 1, nameIndex := 55, descriptorIndex := 43, attributes := #[] }, { accessFlags := 1, nameIndex := 56, descriptorIndex := 57, attributes := #[] }] 48 2 #[37] #[{ accessFlags := 18, nameIndex := 15, descriptorIndex := 16, attributes := #[] }, { accessFlags := 18, nameIndex := 19, descriptorIndex := 16, attributes := #[] }, { accessFlags := 18, nameIndex := 22, descriptorIndex := 23, attributes := #[] }, { accessFlags := 18, nameIndex := 32, descriptorIndex := 16, attributes := #[] }, { accessFlags := 2, nameIndex := 11, descriptorIndex := 12, attributes := #[] }])
  fields := #[{ name := "xs", type := (.array .int), accessFlags := 18, slot := 0, constantValue := 0 }, { name := "ys", type := (.array .int), accessFlags := 18, slot := 1, constantValue := 0 }, { name := "weights", type := (.array .long), accessFlags := 18, slot := 2, constantValue := 0 }, { name := "sorted", type := (.array .int), accessFlags := 18, slot := 3, constantValue := 0 }, { name := "at", type := .int, accessFlags := 2, slot := 4, constantValue := 0 }]
  methods := #[k3m0, k3m1, k3m2, k3m3, k3m4, k3m5]
  instanceTypes := #[(.array .int), (.array .int), (.array .long), (.array .int), .int]
  staticTypes := #[]
  resolved := Array.replicate 69 none
  statics := none }

def pool4 : Array CpInfo := pool [(2, .class_ 4), (1, u "java/lang/Object"), (0, u "<init>"), (0, u "()V"), (1, .class_ 10), (1, u "com/example/ordinate/ordinate/core/IntSort"), (0, u "identity"), (0, u "(I)[I"), (11, .class_ 26), (1, u "com/example/ordinate/ordinate/core/IntSort$Order"), (21, u "SHORT"), (0, u "I"), (2, u "CHECKED")] 18

def k4m0 : Method := { name := "<init>", desc := "()V", sig := { parameters := [], returnType := none }, accessFlags := 2, code := none }
def k4c1 : Code := { maxStack := 3, maxLocals := 3, code := prog_60_method_2_code, exceptionTable := #[], attributes := #[] }
def k4m1 : Method := { name := "identity", desc := "(I)[I", sig := { parameters := [.int], returnType := some (.array .int) }, accessFlags := 8, code := some k4c1 }
/-- com/example/ordinate/ordinate/core/IntSort -/
def k4 : Class := { plain "com/example/ordinate/ordinate/core/IntSort" (some 0) with
  accessFlags := 48
  interfaces := #[]
  cf := some (fileOf pool4 8 #[.nestMembers #[24]] #[{ accessFlags := 2, nameIndex := 5, descriptorIndex := 6, attributes := #[] }, { accessFlags := 8, nameIndex := 11, descriptorIndex := 12, attributes := #[] }] 48 2 #[] #[{ accessFlags := 26, nameIndex := 48, descriptorIndex := 49, attributes := #[] }, { accessFlags := 26, nameIndex := 52, descriptorIndex := 49, attributes := #[] }])
  fields := #[{ name := "SHORT", type := .int, accessFlags := 26, slot := 0, constantValue := 0 }, { name := "CHECKED", type := .int, accessFlags := 26, slot := 1, constantValue := 0 }]
  methods := #[k4m0, k4m1]
  instanceTypes := #[]
  staticTypes := #[.int, .int]
  resolved := Array.replicate 71 none
  statics := none }

def pool5 : Array CpInfo := pool [(1, u "java/lang/Cloneable"), (0, .class_ 1), (0, u "java/lang/Object"), (0, .class_ 3)] 3

/-- java/lang/Cloneable -/
def k5 : Class := { plain "java/lang/Cloneable" (some 0) with
  accessFlags := 1537
  interfaces := #[]
  cf := some (fileOf pool5 2 #[] #[] 1537 4 #[] #[])
  fields := #[]
  methods := #[]
  instanceTypes := #[]
  staticTypes := #[]
  resolved := Array.replicate 8 none
  statics := none }

def pool6 : Array CpInfo := pool [(1, u "java/io/Serializable"), (0, .class_ 1), (0, u "java/lang/Object"), (0, .class_ 3)] 3

/-- java/io/Serializable -/
def k6 : Class := { plain "java/io/Serializable" (some 0) with
  accessFlags := 1537
  interfaces := #[]
  cf := some (fileOf pool6 2 #[] #[] 1537 4 #[] #[])
  fields := #[]
  methods := #[]
  instanceTypes := #[]
  staticTypes := #[]
  resolved := Array.replicate 8 none
  statics := none }

/-- the primitive byte -/
def k7 : Class := { plain "byte" none with kind := .primitive 'B', accessFlags := 0x411 }
/-- [B -/
def k8 : Class := { plain "[B" (some 0) with kind := .array 7 .byte, interfaces := #[5, 6], accessFlags := 1041 }

/-- the primitive int -/
def k9 : Class := { plain "int" none with kind := .primitive 'I', accessFlags := 0x411 }
/-- [I -/
def k10 : Class := { plain "[I" (some 0) with kind := .array 9 .int, interfaces := #[5, 6], accessFlags := 1041 }

/-- the primitive long -/
def k11 : Class := { plain "long" none with kind := .primitive 'J', accessFlags := 0x411 }
/-- [J -/
def k12 : Class := { plain "[J" (some 0) with kind := .array 11 .long, interfaces := #[5, 6], accessFlags := 1041 }

def heap : Heap := #[]
def classes : Array Class := #[k0, k1, k2, k3, k4, k5, k6, k7, k8, k9, k10, k11, k12]
def interned : List (Array UInt16 × Addr) := []
def slotsUsed : Nat := 0
def theMethod : MethodId := ⟨1, 1⟩
def args0 : Array Value := #[.long 5, .long 3, .long 7, .long 4]
def aboutOver (below : List Frame) : State where
  vm := { classes := classes, interned := interned.toArray }
  heap := heap
  slotsUsed := slotsUsed
  threads := #[{ frames := .invoking theMethod args0 :: below }]
def below0 : List Frame := [.native { method := ⟨0, 0⟩, args := #[] }]
def about1 : State := aboutOver below0
def p0 : Program := .bare "" "" ""
def e0 : Env := launch0.env 0 0 0
theorem w_frames : about1.frames = Frame.invoking theMethod args0 :: below0 := rfl
set_option maxRecDepth 65536 in
theorem w_args : argsFit about1.vm theMethod args0 = true := by decide +kernel
set_option maxRecDepth 65536 in
theorem w_heap : heapFits about1 = true := by decide +kernel
set_option maxRecDepth 65536 in
theorem w_runnable : about1.curStatus? = some .runnable := by decide +kernel
set_option maxRecDepth 65536 in
theorem w_alone : about1.alone = true := by decide +kernel
set_option maxRecDepth 65536 in
theorem w_named : about1.methodNamed? x = some theMethod := by decide +kernel
set_option maxRecDepth 65536 in
theorem w_hears : about1.hears theMethod below0 = true := by decide +kernel
set_option maxRecDepth 65536 in
theorem w_ripe : about1.ripe theMethod args0 below0 = true := by decide +kernel
theorem w_running : about1.status = .running := rfl
set_option maxRecDepth 65536 in
theorem w_room : about1.hasRoom e0.platform room_1 = true :=
  launch0.hasRoom_least _ room_1 (by decide +kernel) (by decide +kernel) (by decide +kernel) (by decide +kernel) (by decide +kernel) (by decide +kernel)
theorem allAtoms_all (ts : List Jvm.Cond) (a : Array Jvm.Value) (st : Jvm.State) : (allAtoms ts).before a st = ts.all (fun c => c.before a st) := by
  induction ts with
  | nil => rfl
  | cons c t ih =>
    show (Jvm.Cond.and c (allAtoms t)).before a st = _
    rw [Jvm.Cond.before_and, ih, List.all_cons]
def words1 : List Jvm.Cond := Jvm.Cond.code x code maxLocals ret :: tables_1
/-- a 'code' word, met by the world's own term for the bytes: nothing is compared byte by byte -/
theorem code_word {y : MethodName} {bytes : ByteArray} {mx : Nat} {rt : Option FieldType} {a : Array Value} {s : State} {m : MethodId} {meth : Method} {c : Code} (h1 : s.methodNamed? y = some m) (h2 : s.vm.method? m = some meth) (h3 : meth.code = some c) (h4 : c.code = bytes)
    (h5 : (c.maxLocals == mx && c.exceptionTable.isEmpty && decide (c.maxStack ≤ mostOperands) && decide (meth.sig.returnType = rt) && !meth.locks && decide (parseMethodDescriptor y.desc = some meth.sig)) = true) : (Jvm.Cond.code y bytes mx rt).before a s = true := by
  simp only [Bool.and_eq_true, beq_iff_eq, Bool.not_eq_true', decide_eq_true_eq] at h5
  obtain ⟨⟨⟨⟨⟨g1, g2⟩, g3⟩, g4⟩, g5⟩, g6⟩ := h5
  simp [Cond.before, Cond.holds, Cond.value, h1, h2, h3, h4, g1, g2, g3, g4, g5, g6]
def isCode : Jvm.Cond → Bool
  | .code _ _ _ _ => true
  | _ => false
theorem all_split {L : List Jvm.Cond} {P : Jvm.Cond → Bool} (h1 : L.all (fun c => isCode c || P c) = true) (h2 : ∀ c ∈ L.filter isCode, P c = true) : L.all P = true := by
  refine List.all_eq_true.mpr fun c hc => ?_
  have h := List.all_eq_true.mp h1 c hc
  rcases Bool.eq_false_or_eq_true (isCode c) with hi | hi
  · exact h2 c (List.mem_filter.mpr ⟨hc, hi⟩)
  · simpa [hi] using h
set_option maxRecDepth 65536 in
theorem w_c0 : (Jvm.Cond.code x code maxLocals ret).before args0 about1 = true := code_word (m := ⟨1, 1⟩) (meth := k1m1) (c := k1c1) (by decide +kernel) rfl rfl rfl (by decide +kernel)
set_option maxRecDepth 65536 in
theorem w_c1 : (Jvm.Cond.code ({ cls := "com/example/ordinate/ordinate/core/PairBlocks$Sorted", name := "<init>", desc := "([I[I[J)V" } : Jvm.MethodName) prog_110_method_1_code (4 : Nat) (Option.none : Option Jvm.ClassFile.FieldType)).before args0 about1 = true := code_word (m := ⟨3, 0⟩) (meth := k3m0) (c := k3c0) (by decide +kernel) rfl rfl rfl (by decide +kernel)
set_option maxRecDepth 65536 in
theorem w_c2 : (Jvm.Cond.code ({ cls := "java/lang/Object", name := "<init>", desc := "()V" } : Jvm.MethodName) object_method_1_code (1 : Nat) (Option.none : Option Jvm.ClassFile.FieldType)).before args0 about1 = true := code_word (m := ⟨0, 0⟩) (meth := k0m0) (c := k0c0) (by decide +kernel) rfl rfl rfl (by decide +kernel)
set_option maxRecDepth 65536 in
theorem w_c3 : (Jvm.Cond.code ({ cls := "com/example/ordinate/ordinate/core/IntSort", name := "identity", desc := "(I)[I" } : Jvm.MethodName) prog_60_method_2_code (3 : Nat) (Option.some (Jvm.ClassFile.FieldType.array Jvm.ClassFile.FieldType.int))).before args0 about1 = true := code_word (m := ⟨4, 1⟩) (meth := k4m1) (c := k4c1) (by decide +kernel) rfl rfl rfl (by decide +kernel)
set_option maxRecDepth 65536 in
theorem w_c4 : (Jvm.Cond.code ({ cls := "com/example/ordinate/ordinate/core/PairBlocks$Sorted", name := "skip", desc := "(J)J" } : Jvm.MethodName) prog_110_method_6_code (7 : Nat) (Option.some Jvm.ClassFile.FieldType.long)).before args0 about1 = true := code_word (m := ⟨3, 1⟩) (meth := k3m1) (c := k3c1) (by decide +kernel) rfl rfl rfl (by decide +kernel)
set_option maxRecDepth 65536 in
theorem w_c5 : (Jvm.Cond.code ({ cls := "com/example/ordinate/ordinate/core/PairBlocks$Sorted", name := "x", desc := "()I" } : Jvm.MethodName) prog_110_method_8_code (1 : Nat) (Option.some Jvm.ClassFile.FieldType.int)).before args0 about1 = true := code_word (m := ⟨3, 3⟩) (meth := k3m3) (c := k3c3) (by decide +kernel) rfl rfl rfl (by decide +kernel)
set_option maxRecDepth 65536 in
theorem w_c6 : (Jvm.Cond.code ({ cls := "com/example/ordinate/ordinate/core/PairBlocks$Sorted", name := "y", desc := "()I" } : Jvm.MethodName) prog_110_method_9_code (1 : Nat) (Option.some Jvm.ClassFile.FieldType.int)).before args0 about1 = true := code_word (m := ⟨3, 4⟩) (meth := k3m4) (c := k3c4) (by decide +kernel) rfl rfl rfl (by decide +kernel)
set_option maxRecDepth 65536 in
theorem w_c7 : (Jvm.Cond.code ({ cls := "com/example/ordinate/ordinate/core/PairBlocks$Sorted", name := "weight", desc := "()J" } : Jvm.MethodName) prog_110_method_10_code (1 : Nat) (Option.some Jvm.ClassFile.FieldType.long)).before args0 about1 = true := code_word (m := ⟨3, 5⟩) (meth := k3m5) (c := k3c5) (by decide +kernel) rfl rfl rfl (by decide +kernel)
set_option maxRecDepth 65536 in
theorem w_c8 : (Jvm.Cond.code ({ cls := "com/example/ordinate/ordinate/core/PairBlocks$Sorted", name := "next", desc := "()Z" } : Jvm.MethodName) prog_110_method_7_code (1 : Nat) (Option.some Jvm.ClassFile.FieldType.boolean)).before args0 about1 = true := code_word (m := ⟨3, 2⟩) (meth := k3m2) (c := k3c2) (by decide +kernel) rfl rfl rfl (by decide +kernel)
def codes1 : List Jvm.Cond := [Jvm.Cond.code x code maxLocals ret, Jvm.Cond.code ({ cls := "com/example/ordinate/ordinate/core/PairBlocks$Sorted", name := "<init>", desc := "([I[I[J)V" } : Jvm.MethodName) prog_110_method_1_code (4 : Nat) (Option.none : Option Jvm.ClassFile.FieldType), Jvm.Cond.code ({ cls := "java/lang/Object", name := "<init>", desc := "()V" } : Jvm.MethodName) object_method_1_code (1 : Nat) (Option.none : Option Jvm.ClassFile.FieldType), Jvm.Cond.code ({ cls := "com/example/ordinate/ordinate/core/IntSort", name := "identity", desc := "(I)[I" } : Jvm.MethodName) prog_60_method_2_code (3 : Nat) (Option.some (Jvm.ClassFile.FieldType.array Jvm.ClassFile.FieldType.int)), Jvm.Cond.code ({ cls := "com/example/ordinate/ordinate/core/PairBlocks$Sorted", name := "skip", desc := "(J)J" } : Jvm.MethodName) prog_110_method_6_code (7 : Nat) (Option.some Jvm.ClassFile.FieldType.long), Jvm.Cond.code ({ cls := "com/example/ordinate/ordinate/core/PairBlocks$Sorted", name := "x", desc := "()I" } : Jvm.MethodName) prog_110_method_8_code (1 : Nat) (Option.some Jvm.ClassFile.FieldType.int), Jvm.Cond.code ({ cls := "com/example/ordinate/ordinate/core/PairBlocks$Sorted", name := "y", desc := "()I" } : Jvm.MethodName) prog_110_method_9_code (1 : Nat) (Option.some Jvm.ClassFile.FieldType.int), Jvm.Cond.code ({ cls := "com/example/ordinate/ordinate/core/PairBlocks$Sorted", name := "weight", desc := "()J" } : Jvm.MethodName) prog_110_method_10_code (1 : Nat) (Option.some Jvm.ClassFile.FieldType.long), Jvm.Cond.code ({ cls := "com/example/ordinate/ordinate/core/PairBlocks$Sorted", name := "next", desc := "()Z" } : Jvm.MethodName) prog_110_method_7_code (1 : Nat) (Option.some Jvm.ClassFile.FieldType.boolean)]
set_option maxRecDepth 65536 in
theorem codes_eq : words1.filter isCode = codes1 := rfl
theorem w_codes : ∀ c ∈ words1.filter isCode, c.before args0 about1 = true := by
  rw [codes_eq]
  intro c hc
  simp only [codes1, List.mem_cons, List.not_mem_nil, or_false] at hc
  rcases hc with rfl | rfl | rfl | rfl | rfl | rfl | rfl | rfl | rfl
  · exact w_c0
  · exact w_c1
  · exact w_c2
  · exact w_c3
  · exact w_c4
  · exact w_c5
  · exact w_c6
  · exact w_c7
  · exact w_c8
set_option maxRecDepth 65536 in
theorem w_t1 : (words1.take 24).all (fun c => isCode c || c.before args0 about1) = true := by decide +kernel
set_option maxRecDepth 65536 in
theorem w_t2 : ((words1.drop 24).take 24).all (fun c => isCode c || c.before args0 about1) = true := by decide +kernel
set_option maxRecDepth 65536 in
theorem w_t3 : ((words1.drop 24).drop 24).all (fun c => isCode c || c.before args0 about1) = true := by decide +kernel
theorem w_tables : (allAtoms (Jvm.Cond.code x code maxLocals ret :: tables_1)).before args0 about1 = true := by
  rw [allAtoms_all]
  show words1.all (fun c => c.before args0 about1) = true
  refine all_split ?_ w_codes
  rw [← List.take_append_drop 24 words1, List.all_append, w_t1, ← List.take_append_drop 24 (words1.drop 24), List.all_append, w_t2, w_t3]
  rfl
set_option maxRecDepth 65536 in
theorem w_case : (Jvm.Cond.and given_1 narrow_1).before args0 about1 = true := by decide +kernel
theorem w_applies : (headSpec (Jvm.Cond.code x code maxLocals ret :: tables_1) room_1).applies x e0.platform about1 = true :=
  (Spec.applies_iff w_frames).mpr ⟨w_running, w_runnable, w_alone, w_named, w_hears, w_ripe, w_room, w_tables⟩
theorem atStart : AtStart classFile x code maxLocals ret World_1 tables_1 room_1 Calls_1 rest_1 Pre_1 launch0 p0 e0 about1 theMethod args0 below0 :=
  ⟨lists_1, trivial, launch0.admits_env _ _ _, launch0.least_env, fairChoices_fair.cas, fairChoices_fair.clock, w_frames, w_args, w_heap, w_applies, trivial, trivial, w_case⟩
end start1
theorem witness_1 : WitnessClaimed_1 := ⟨start1.p0, start1.e0, start1.about1, start1.theMethod, start1.args0, start1.below0, start1.atStart⟩
end Jvm.Pilot.@@N@@
