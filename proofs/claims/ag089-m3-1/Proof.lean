import JvmDerived
import JvmDerived.Pilot.@@N@@Statement
import JvmDerived.Pilot.@@N@@Code
set_option linter.unusedVariables false
set_option linter.unusedSimpArgs false

namespace Jvm.RoadKit
open Sem ClassFile Op Lib Jvm.Stand Jvm.Free Jvm.LawKit
section Go
variable {p : Program} {l : Launch} {e : Env} {R : Room} {s : State} {m : MethodId} {args : Array Value} {below : List Frame} {meth : Method} {c : Code} {T T' : State} {locs : List Loc} {cells slots : Nat} {Z : State} {a0 : Array Value} {h : Heap} {B : ByteArray} {K : Outcome → State → Prop} {pc pcT pcF : Nat} {ls : Array Slot} {st : List Value}
/-- from T with the frame g the run comes to an end of which K holds -/
def Go (p : Program) (e : Env) (below : List Frame) (K : Outcome → State → Prop) (T : State) (g : JFrame) : Prop :=
  ∃ u o, Steps p.tables e below (T.setTop g) u ∧ u.status = .running ∧ Ended u below o ∧ K o u
theorem Go.on {g g' : JFrame} (st : ∀ t, Steps p.tables e below (T'.setTop g') t → Steps p.tables e below (T.setTop g) t) (h : Go p e below K T' g') : Go p e below K T g := by
  obtain ⟨u, o, h1, h2⟩ := h; exact ⟨u, o, st _ h1, h2⟩
theorem Go.join {α : Type} {P : α → Prop} {g : α → JFrame} {g0 : JFrame} (rest : ∀ z, P z → Go p e below K T (g z)) (here : (∀ z, P z → Go p e below K T (g z)) → Go p e below K T g0) : Go p e below K T g0 := here rest
theorem Go.joinV {α : Type} {P : α → Prop} {g : α → JFrame} {g0 : JFrame} (X : Stand p l e R s m args below meth c T locs cells slots) (eT : T.heap = h) (rest : ∀ (T' : State) (z : α), Stand p l e R s m args below meth c T' locs cells slots → T'.heap = h → P z → Go p e below K T' (g z))
    (here : (∀ (T' : State) (z : α), Stand p l e R s m args below meth c T' locs cells slots → T'.heap = h → P z → Go p e below K T' (g z)) → Go p e below K T g0) : Go p e below K T g0 := here rest
theorem Go.at {g g' : JFrame} (q : g = g') (h : Go p e below K T g') : Go p e below K T g := q ▸ h
def EndK (s : State) (Q : Option Value → Heap → List Loc → Prop) (k n : Nat) : Outcome → State → Prop := fun o u => ∃ v L, o = .returned v ∧ Q v u.heap L ∧ FrameEnd s o u L k n
abbrev Pact (l : Launch) (Z : State) (y : MethodName) (bytes : ByteArray) (ml : Nat) (ret : Option FieldType) (ws : List Jvm.Cond) (rm : Room) (as : Array Value) (h0 : Heap) (Q : Option Value → Heap → List Loc → Prop) : Prop :=
  MetFree l y (head1 (Jvm.Cond.code y bytes ml ret :: ws) rm) (fun a U => a = as ∧ Z.Warmed39 U.vm ∧ U.heap = h0) (fun _ _ _ _ _ => True) (fun _ U o U' => ∃ v L, o = .returned v ∧ Q v U'.heap L ∧ FrameEnd U o U' L rm.cells rm.slots)
theorem Pact.intro {y : MethodName} {bytes : ByteArray} {ml : Nat} {ret : Option FieldType} {ws : List Jvm.Cond} {rm : Room} {as : Array Value} {h0 : Heap} {Q : Option Value → Heap → List Loc → Prop} (hp : plainFor y = true)
    (body : ∀ (p : Program) (e : Env) (s : State) (m : MethodId) (below : List Frame) (meth : Method) (c : Code) (T : State), Stand p l e rm s m as below meth c T [] 0 0 → p.tables.exec = Jvm.exec → c.code = bytes → c.maxLocals = ml → meth.sig.returnType = ret → meth.locks = false →
      s.vm.findClass y.cls = some m.cls → meth.name = y.name → Z.Warmed39 s.vm → T.heap = h0 → Go p e below (EndK s Q rm.cells rm.slots) T (entryFrame m as ml)) : Pact l Z y bytes ml ret ws rm as h0 Q := by
  refine MetFree.of_bodySF hp hisR ?_
  intro p e s m args below meth c s₁ Bd hml0 hP hK
  obtain ⟨rfl, hZ, hh⟩ := hP
  exact body p e s m below meth c s₁ (Stand.of_body Bd) Bd.exec Bd.bytes hml0 Bd.returns (BodyLoose.notSynchronized Bd) (findClass_of_methodNamed Bd.named) (name_of_methodNamed Bd.named Bd.method).1 hZ (by rw [← hh, Bd.state]; rfl)
theorem Go.icmp (X : Stand p l e R s m args below meth c T locs cells slots) (hx : p.tables.exec = Jvm.exec) (hby : c.code = B) {cd : ClassFile.Cond} {x y : Int32} {o : Int} (hd : decode B pc = .ok (.if_icmp cd o, 3)) (ho : 0 ≤ (pc : Int) + o) (hp : ((pc : Int) + o).toNat = pcT) (hq : pc + 3 = pcF)
    (hT : if_icmp.holds cd x y = true → Go p e below K T (mkF m pcT ls st)) (hF : if_icmp.holds cd x y = false → Go p e below K T (mkF m pcF ls st)) : Go p e below K T (mkF m pc ls (.int y :: .int x :: st)) := by
  subst hq
  cases q : if_icmp.holds cd x y
  · exact Go.on (fun t k => XS.icmpNo X.here hx rfl (hb hby hd) rfl q k) (hF q)
  · exact Go.on (fun t k => XS.icmpYes X.here hx rfl (pc0 := pc) rfl (hb hby hd) rfl q ho hp k) (hT q)
theorem Go.ifc (X : Stand p l e R s m args below meth c T locs cells slots) (hx : p.tables.exec = Jvm.exec) (hby : c.code = B) {cd : ClassFile.Cond} {x : Int32} {o : Int} (hd : decode B pc = .ok (.ifCond cd o, 3)) (ho : 0 ≤ (pc : Int) + o) (hp : ((pc : Int) + o).toNat = pcT) (hq : pc + 3 = pcF)
    (hT : if_icmp.holds cd x 0 = true → Go p e below K T (mkF m pcT ls st)) (hF : if_icmp.holds cd x 0 = false → Go p e below K T (mkF m pcF ls st)) : Go p e below K T (mkF m pc ls (.int x :: st)) := by
  subst hq
  rw [← if0] at hT hF
  cases q : ifCond.holds cd x
  · exact Go.on (fun t k => XS.ifNo X.here hx rfl (hb hby hd) rfl q k) (hF q)
  · exact Go.on (fun t k => XS.ifYes X.here hx rfl (pc0 := pc) rfl (hb hby hd) rfl q ho hp k) (hT q)
theorem iEq {x y : Int32} : (if_icmp.holds .eq x y = true → x = y) ∧ (if_icmp.holds .eq x y = false → ¬ x = y) := by constructor <;> intro h <;> simpa [if_icmp.holds] using h
theorem iNe {x y : Int32} : (if_icmp.holds .ne x y = true → ¬ x = y) ∧ (if_icmp.holds .ne x y = false → x = y) := by constructor <;> intro h <;> simpa [if_icmp.holds] using h
theorem iLt {x y : Int32} : (if_icmp.holds .lt x y = true → x < y) ∧ (if_icmp.holds .lt x y = false → ¬ x < y) := by constructor <;> intro h <;> simpa [if_icmp.holds] using h
theorem iGe {x y : Int32} : (if_icmp.holds .ge x y = true → ¬ x < y) ∧ (if_icmp.holds .ge x y = false → x < y) := by constructor <;> intro h <;> simpa [if_icmp.holds] using h
theorem iGt {x y : Int32} : (if_icmp.holds .gt x y = true → y < x) ∧ (if_icmp.holds .gt x y = false → ¬ y < x) := by constructor <;> intro h <;> simpa [if_icmp.holds] using h
theorem iLe {x y : Int32} : (if_icmp.holds .le x y = true → ¬ y < x) ∧ (if_icmp.holds .le x y = false → y < x) := by constructor <;> intro h <;> simpa [if_icmp.holds] using h
theorem Go.acmp (X : Stand p l e R s m args below meth c T locs cells slots) (hx : p.tables.exec = Jvm.exec) (hby : c.code = B) {cd : ACond} {x y : Value} (h1 : x.isRef = true) (h2 : y.isRef = true) {o : Int} (hd : decode B pc = .ok (.if_acmp cd o, 3)) (ho : 0 ≤ (pc : Int) + o) (hp : ((pc : Int) + o).toNat = pcT) (hq : pc + 3 = pcF)
    (hT : XT.acmp cd x y = true → Go p e below K T (mkF m pcT ls st)) (hF : XT.acmp cd x y = false → Go p e below K T (mkF m pcF ls st)) : Go p e below K T (mkF m pc ls (y :: x :: st)) := by
  subst hq
  cases q : XT.acmp cd x y
  · exact Go.on (fun t k => XT.acmpNo X.here hx rfl (hb hby hd) rfl h1 h2 q k) (hF q)
  · exact Go.on (fun t k => XT.acmpYes X.here hx rfl (pc0 := pc) rfl (hb hby hd) rfl h1 h2 q ho hp k) (hT q)
theorem aEq {x y : Value} : (XT.acmp .eq x y = true → x = y) ∧ (XT.acmp .eq x y = false → ¬ x = y) := by constructor <;> intro h <;> simpa [XT.acmp] using h
theorem aNe {x y : Value} : (XT.acmp .ne x y = true → ¬ x = y) ∧ (XT.acmp .ne x y = false → x = y) := by constructor <;> intro h <;> simpa [XT.acmp] using h
theorem rEq {x y : Addr} : (XT.acmp .eq (.ref x) (.ref y) = true → x = y) ∧ (XT.acmp .eq (.ref x) (.ref y) = false → ¬ x = y) := by constructor <;> intro h <;> simpa [XT.acmp] using h
theorem rNe {x y : Addr} : (XT.acmp .ne (.ref x) (.ref y) = true → ¬ x = y) ∧ (XT.acmp .ne (.ref x) (.ref y) = false → x = y) := by constructor <;> intro h <;> simpa [XT.acmp] using h
theorem cat_ref {x : Value} (h : x.isRef = true) : x.category = 1 := by rcases ref_cases h with rfl | ⟨a, rfl⟩ <;> rfl
theorem eqInt {first : State} {o : Option Outcome} {idx : List Nat} {t : Term} {k : Int32} (h : (Jvm.Cond.eq t (Term.int k)).value args first o s idx = some true) : t.eval args first o idx s = some (.int k) := by
  obtain ⟨x, y, hx, hy, k1, k2⟩ := cmp_v (Or.inl h)
  have e : y = .int k := Option.some.inj (hy.symm.trans (Term.int_eval k))
  subst e
  obtain ⟨z, rfl⟩ := k2
  have q : z = k := gotT (Cond.eq_ints hx hy) h
  rw [hx, q]
theorem fldInt {t : Term} {a : Addr} {C n d : String} {k : Int32} (ev : t.eval args Z none [] Z = some (.ref a)) (h : (Jvm.Cond.eq (Term.field t C n d) (Term.int k)).value args Z none Z [] = some true) : Fld Z Z.heap a C n d (.int k) :=
  Fld.start ((fld_at ev).symm.trans (eqInt h))
theorem fldNull {t : Term} {a : Addr} {C n d : String} (ev : t.eval args Z none [] Z = some (.ref a)) (h : (Jvm.Cond.eq (Term.field t C n d) Term.null).value args Z none Z [] = some true) : Fld Z Z.heap a C n d .null :=
  Fld.start ((fld_at ev).symm.trans (null_v h))
theorem fldRef {t u : Term} {a b : Addr} {C n d : String} (ev : t.eval args Z none [] Z = some (.ref a)) (hu : u.eval args Z none [] Z = some (.ref b)) (h : (Jvm.Cond.eq (Term.field t C n d) u).value args Z none Z [] = some true) : Fld Z Z.heap a C n d (.ref b) := by
  obtain ⟨x, y, hx, hy, k1, k2⟩ := cmp_v (Or.inl h)
  cases hy.symm.trans hu
  have q : x = .ref b := gotT (eq_R hx hy k2.2 rfl) h
  exact Fld.start ((fld_at ev).symm.trans (q ▸ hx))
theorem Go.retV (X : Stand p l e R s m args below meth c T locs cells slots) (hx : p.tables.exec = Jvm.exec) (hlk : meth.locks = false) {t : FieldType} (hret : meth.sig.returnType = some t) (hby : c.code = B) {i : Instr} (hd : decode B pc = .ok (i, 1)) {w : Value} (hn : narrow t w = w)
    (hi : (i = .ireturn ∧ (t = .int ∨ t = .boolean ∨ t = .byte ∨ t = .char ∨ t = .short) ∧ ∃ z, w = .int z) ∨ (i = .lreturn ∧ t = .long ∧ ∃ z, w = .long z) ∨ (i = .dreturn ∧ t = .double ∧ ∃ z, w = .double z) ∨ (i = .freturn ∧ t = .float ∧ ∃ z, w = .float z) ∨ (i = .areturn ∧ t.isReference = true ∧ w.isRef = true))
    {Q : Option Value → Heap → List Loc → Prop} {k n : Nat} (hc : cells ≤ k) (hs : slots ≤ n) (hq : Q (some w) T.heap locs) : Go p e below (EndK s Q k n) T (mkF m pc ls (w :: st)) := by
  obtain ⟨fs, hr, hrun, hended, hW, hsame⟩ := X.leave (v := some w) (fun h => by rw [hret] at h; cases h) hlk
  exact ⟨_, _, retOut X hx hret hn hi (hb hby hd) hr, hrun, hended, _, _, rfl, hq, ⟨_, rfl⟩, hW, hsame.mono hc hs⟩
theorem Go.retI (X : Stand p l e R s m args below meth c T locs cells slots) (hx : p.tables.exec = Jvm.exec) (hlk : meth.locks = false) {t : FieldType} (hret : meth.sig.returnType = some t) (hby : c.code = B) (hd : decode B pc = .ok (.ireturn, 1)) {z : Int32} (hn : narrow t (.int z) = .int z)
    (ht : t = .int ∨ t = .boolean ∨ t = .byte ∨ t = .char ∨ t = .short) {Q : Option Value → Heap → List Loc → Prop} {k n : Nat} (hc : cells ≤ k) (hs : slots ≤ n) (hq : Q (some (.int z)) T.heap locs) : Go p e below (EndK s Q k n) T (mkF m pc ls (.int z :: st)) :=
  Go.retV X hx hlk hret hby hd hn (Or.inl ⟨rfl, ht, z, rfl⟩) hc hs hq
theorem Go.retA (X : Stand p l e R s m args below meth c T locs cells slots) (hx : p.tables.exec = Jvm.exec) (hlk : meth.locks = false) {t : FieldType} (hret : meth.sig.returnType = some t) (hby : c.code = B) (hd : decode B pc = .ok (.areturn, 1)) {w : Value} (hw : w.isRef = true)
    (ht : t.isReference = true) {Q : Option Value → Heap → List Loc → Prop} {k n : Nat} (hc : cells ≤ k) (hs : slots ≤ n) (hq : Q (some w) T.heap locs) : Go p e below (EndK s Q k n) T (mkF m pc ls (w :: st)) :=
  Go.retV X hx hlk hret hby hd (by rcases ref_cases hw with rfl | ⟨a, rfl⟩ <;> cases t <;> first | rfl | cases ht) (Or.inr (Or.inr (Or.inr (Or.inr ⟨rfl, ht, hw⟩)))) hc hs hq
theorem Go.ret0 (X : Stand p l e R s m args below meth c T locs cells slots) (hx : p.tables.exec = Jvm.exec) (hlk : meth.locks = false) (hret : meth.sig.returnType = none) (hby : c.code = B) (hd : decode B pc = .ok (.return_, 1))
    {Q : Option Value → Heap → List Loc → Prop} {k n : Nat} (hc : cells ≤ k) (hs : slots ≤ n) (hq : Q none T.heap locs) : Go p e below (EndK s Q k n) T (mkF m pc ls []) := by
  obtain ⟨fs, hr, hrun, hended, hW, hsame⟩ := X.leave (v := none) (fun _ => rfl) hlk
  exact ⟨_, _, X.returnOut hx hret (hb hby hd) hr, hrun, hended, _, _, rfl, hq, ⟨_, rfl⟩, hW, hsame.mono hc hs⟩
theorem Go.callS (X : Stand p l e R s m args below meth c T locs cells slots) (hx : p.tables.exec = Jvm.exec) (hZ : Z.Warmed39 s.vm) (hby : c.code = B) (hml : ls.size = c.maxLocals) {own : String} {index : Nat} {y : MethodName} {bytes : ByteArray} {maxL : Nat} {ret : Option FieldType} {rm : Room} {Q : Option Value → Heap → List Loc → Prop}
    (hown : s.vm.findClass own = some m.cls) (w1 : (Jvm.Cond.methodLink own index y).before a0 Z = true) (w2 : (Jvm.Cond.static y).before a0 Z = true) (w3 : (Jvm.Cond.initialized y.cls).before a0 Z = true) (w4 : (Jvm.Cond.code y bytes maxL ret).before a0 Z = true) (hy : y.cls ≠ "java/lang/invoke/MethodHandle" ∧ y.cls ≠ "java/lang/invoke/VarHandle")
    {argsL rest : List Value} (hM : Pact l Z y bytes maxL ret [] rm argsL.toArray h Q) (eT : T.heap = h) (W : Nat) (hf : rm.frames + 1 ≤ R.frames) (hl : W + (maxL + 11) + rm.locals ≤ R.locals) (hc : cells + rm.cells ≤ R.cells) (hs : slots + rm.slots ≤ R.slots)
    (hst : st = argsL.reverse ++ rest) {ps : List FieldType} {rt : Option FieldType} (hdesc : parseMethodDescriptor y.desc = some ⟨ps, rt⟩) (hlen : argsL.length = ps.length) (hW : (rest.map fun v => v.category).sum ≤ W) (hd : decode B pc = .ok (.invokestatic index, 3)) (hq : pc + 3 = pcF)
    (next : ∀ (v : Option Value) (T' : State) (L : List Loc), Stand p l e R s m args below meth c T' (locs ++ L) (cells + rm.cells) (slots + rm.slots) → Q v T'.heap L → Go p e below K T' (mkF m pcF ls (v.toList ++ rest))) : Go p e below K T (mkF m pc ls st) := by
  subst hq
  obtain ⟨v, vm₁, ⟨T', L', k', n'⟩, -, X', ⟨Lc, hQ, l', y', z'⟩, st'⟩ := Jvm.LawKit.callS X hx (y := y) hown (mvT hZ w1) (mvT hZ w2) (mvT hZ w3) (mvT hZ w4) hy (backOf (W := W) hM hZ w4 w3 hf hl) (g := mkF m pc ls st) rfl hml (argsL := argsL) (rest := rest) (lenOf hdesc hlen) hst (by show 2 * 0 + _ ≤ W; omega) (hb hby hd) (fun _ _ => ⟨rfl, eT, hc, hs⟩)
  dsimp only [Pt.U, Pt.locs, Pt.cells, Pt.slots] at X' l' y' z' st' hQ
  subst l' y' z'
  exact Go.on st' (next v T' Lc X' hQ)
theorem Go.callV (X : Stand p l e R s m args below meth c T locs cells slots) (hx : p.tables.exec = Jvm.exec) (hZ : Z.Warmed39 s.vm) (hby : c.code = B) (hml : ls.size = c.maxLocals) {own C : String} {index : Nat} {y : MethodName} {bytes : ByteArray} {maxL : Nat} {ret : Option FieldType} {rm : Room} {Q : Option Value → Heap → List Loc → Prop}
    (hown : s.vm.findClass own = some m.cls) (w1 : (Jvm.Cond.methodLink own index y).before a0 Z = true) (w2 : (Jvm.Cond.declares y).before a0 Z = true) (w3 : (Jvm.Cond.selects C y y).before a0 Z = true) (w4 : (Jvm.Cond.instanceMethod y).before a0 Z = true) (w5 : (Jvm.Cond.code y bytes maxL ret).before a0 Z = true) (w6 : (Jvm.Cond.initialized y.cls).before a0 Z = true) (hy : y.cls ≠ "java/lang/invoke/MethodHandle" ∧ y.cls ≠ "java/lang/invoke/VarHandle")
    {b : Addr} {argsL rest : List Value} (hM : Pact l Z y bytes maxL ret [] rm (.ref b :: argsL).toArray h Q) (eT : T.heap = h) (E : Exa Z h b C) (W : Nat) (hf : rm.frames + 1 ≤ R.frames) (hl : W + (maxL + 11) + rm.locals ≤ R.locals) (hc : cells + rm.cells ≤ R.cells) (hs : slots + rm.slots ≤ R.slots)
    (hst : st = argsL.reverse ++ .ref b :: rest) {ps : List FieldType} {rt : Option FieldType} (hdesc : parseMethodDescriptor y.desc = some ⟨ps, rt⟩) (hlen : argsL.length = ps.length) (hW : (rest.map fun v => v.category).sum ≤ W) (hd : decode B pc = .ok (.invokevirtual index, 3)) (hq : pc + 3 = pcF)
    (next : ∀ (v : Option Value) (T' : State) (L : List Loc), Stand p l e R s m args below meth c T' (locs ++ L) (cells + rm.cells) (slots + rm.slots) → Q v T'.heap L → Go p e below K T' (mkF m pcF ls (v.toList ++ rest))) : Go p e below K T (mkF m pc ls st) := by
  subst hq
  obtain ⟨cq, kq, q1, q2, q3⟩ := isOf hZ eT E
  obtain ⟨v, vm₁, ⟨T', L', k', n'⟩, -, X', ⟨Lc, hQ, l', y', z'⟩, st'⟩ := X.virtualBack hx (y := y) (z := y) hown (mvT hZ w1) (mvT hZ w2) (notFace_of_selects (args := #[]) (mvT hZ w3)) (mvT hZ w3) (mvT hZ w4) hy (backOf (W := W) hM hZ w5 w6 hf hl) q1 q3 (g := mkF m pc ls st) rfl hml (Steps.refl _) (argsL := argsL) (rest := rest) (lenOf hdesc hlen) hst (by show 2 * 0 + _ ≤ W; omega) (hb hby hd) (fun _ _ => ⟨rfl, eT, hc, hs⟩)
  dsimp only [Pt.U, Pt.locs, Pt.cells, Pt.slots] at X' l' y' z' st' hQ
  subst l' y' z'
  exact Go.on (fun t k => st'.trans k) (next v T' Lc X' hQ)
theorem Go.callI (X : Stand p l e R s m args below meth c T locs cells slots) (hx : p.tables.exec = Jvm.exec) (hZ : Z.Warmed39 s.vm) (hby : c.code = B) (hml : ls.size = c.maxLocals) {own : String} {index : Nat} {y : MethodName} {bytes : ByteArray} {maxL : Nat} {rm : Room} {Q : Option Value → Heap → List Loc → Prop}
    (hinit : y.name = "<init>") (hown : s.vm.findClass own = some m.cls) (w1 : (Jvm.Cond.methodLink own index y).before a0 Z = true) (w4 : (Jvm.Cond.instanceMethod y).before a0 Z = true) (w5 : (Jvm.Cond.code y bytes maxL none).before a0 Z = true) (w6 : (Jvm.Cond.initialized y.cls).before a0 Z = true) (hy : y.cls ≠ "java/lang/invoke/MethodHandle" ∧ y.cls ≠ "java/lang/invoke/VarHandle")
    {b : Addr} {argsL rest : List Value} (hM : Pact l Z y bytes maxL none [] rm (.ref b :: argsL).toArray h Q) (eT : T.heap = h) (W : Nat) (hf : rm.frames + 1 ≤ R.frames) (hl : W + (maxL + 11) + rm.locals ≤ R.locals) (hc : cells + rm.cells ≤ R.cells) (hs : slots + rm.slots ≤ R.slots)
    (hst : st = argsL.reverse ++ .ref b :: rest) {ps : List FieldType} {rt : Option FieldType} (hdesc : parseMethodDescriptor y.desc = some ⟨ps, rt⟩) (hlen : argsL.length = ps.length) (hW : (rest.map fun v => v.category).sum ≤ W) (hd : decode B pc = .ok (.invokespecial index, 3)) (hq : pc + 3 = pcF)
    (next : ∀ (v : Option Value) (T' : State) (L : List Loc), Stand p l e R s m args below meth c T' (locs ++ L) (cells + rm.cells) (slots + rm.slots) → Q v T'.heap L → Go p e below K T' (mkF m pcF ls (v.toList ++ rest))) : Go p e below K T (mkF m pc ls st) := by
  subst hq
  obtain ⟨v, vm₁, ⟨T', L', k', n'⟩, -, X', ⟨Lc, hQ, l', y', z'⟩, st'⟩ := X.specialBack hx (y := y) hinit hown (mvT hZ w1) (mvT hZ w4) (mvT hZ w5) hy (backOf (W := W) hM hZ w5 w6 hf hl) (g := mkF m pc ls st) rfl hml (Steps.refl _) (a := b) (argsL := argsL) (rest := rest) (lenOf hdesc hlen) hst (by show 2 * 0 + _ ≤ W; omega) (hb hby hd) (fun _ _ => ⟨rfl, eT, hc, hs⟩)
  dsimp only [Pt.U, Pt.locs, Pt.cells, Pt.slots] at X' l' y' z' st' hQ
  subst l' y' z'
  exact Go.on (fun t k => st'.trans k) (next v T' Lc X' hQ)
theorem Go.callU (X : Stand p l e R s m args below meth c T locs cells slots) (hx : p.tables.exec = Jvm.exec) (hZ : Z.Warmed39 s.vm) (hby : c.code = B) (hml : ls.size = c.maxLocals) {own C owner : String} {index : Nat} {y z : MethodName} {bytes : ByteArray} {maxL : Nat} {ret : Option FieldType} {rm : Room} {Q : Option Value → Heap → List Loc → Prop}
    (hown : s.vm.findClass own = some m.cls) (w1 : (Jvm.Cond.methodLink own index y).before a0 Z = true) (wsm : (Jvm.Cond.sameMethod y.cls owner y.name y.desc).before a0 Z = true) (w2 : (Jvm.Cond.declares ⟨owner, y.name, y.desc⟩).before a0 Z = true) (w3 : (Jvm.Cond.selects C y z).before a0 Z = true) (w4 : (Jvm.Cond.instanceMethod z).before a0 Z = true) (w5 : (Jvm.Cond.code z bytes maxL ret).before a0 Z = true) (w6 : (Jvm.Cond.initialized z.cls).before a0 Z = true) (hy : owner ≠ "java/lang/invoke/MethodHandle" ∧ owner ≠ "java/lang/invoke/VarHandle")
    {b : Addr} {argsL rest : List Value} (hM : Pact l Z z bytes maxL ret [] rm (.ref b :: argsL).toArray h Q) (eT : T.heap = h) (E : Exa Z h b C) (W : Nat) (hf : rm.frames + 1 ≤ R.frames) (hl : W + (maxL + 11) + rm.locals ≤ R.locals) (hc : cells + rm.cells ≤ R.cells) (hs : slots + rm.slots ≤ R.slots)
    (hst : st = argsL.reverse ++ .ref b :: rest) {ps : List FieldType} {rt : Option FieldType} (hdesc : parseMethodDescriptor y.desc = some ⟨ps, rt⟩) (hlen : argsL.length = ps.length) (hW : (rest.map fun v => v.category).sum ≤ W) (hd : decode B pc = .ok (.invokevirtual index, 3)) (hq : pc + 3 = pcF)
    (next : ∀ (v : Option Value) (T' : State) (L : List Loc), Stand p l e R s m args below meth c T' (locs ++ L) (cells + rm.cells) (slots + rm.slots) → Q v T'.heap L → Go p e below K T' (mkF m pcF ls (v.toList ++ rest))) : Go p e below K T (mkF m pc ls st) := by
  subst hq
  obtain ⟨cq, kq, q1, q2, q3⟩ := isOf hZ eT E
  obtain ⟨v, vm₁, ⟨T', L', k', n'⟩, -, X', ⟨Lc, hQ, l', y', z'⟩, st'⟩ := X.virtualBackUp hx (x := y) (y := z) hown (mvT hZ w1) (mvT hZ wsm) (mvT hZ w2) hy (mvT hZ w3) (mvT hZ w4) (backOf (W := W) hM hZ w5 w6 hf hl) q1 q3 (g := mkF m pc ls st) rfl hml (Steps.refl _) (argsL := argsL) (rest := rest) (lenOf hdesc hlen) hst (by show 2 * 0 + _ ≤ W; omega) (hb hby hd) (fun _ _ => ⟨rfl, eT, hc, hs⟩)
  dsimp only [Pt.U, Pt.locs, Pt.cells, Pt.slots] at X' l' y' z' st' hQ
  subst l' y' z'
  exact Go.on (fun t k => st'.trans k) (next v T' Lc X' hQ)
theorem Go.callP (X : Stand p l e R s m args below meth c T locs cells slots) (hx : p.tables.exec = Jvm.exec) (hZ : Z.Warmed39 s.vm) (hby : c.code = B) (hml : ls.size = c.maxLocals) {own : String} {index kk : Nat} {y : MethodName} {bytes : ByteArray} {maxL : Nat} {ret : Option FieldType} {rm : Room} {Q : Option Value → Heap → List Loc → Prop}
    (hown : s.vm.findClass own = some m.cls) (w1 : (Jvm.Cond.methodLink own index y).before a0 Z = true) (w2 : (Jvm.Cond.instantiable y.cls kk).before a0 Z = true) (w3 : (Jvm.Cond.privateMethod y).before a0 Z = true) (w4 : (Jvm.Cond.instanceMethod y).before a0 Z = true) (w5 : (Jvm.Cond.code y bytes maxL ret).before a0 Z = true) (w6 : (Jvm.Cond.initialized y.cls).before a0 Z = true) (hy : y.cls ≠ "java/lang/invoke/MethodHandle" ∧ y.cls ≠ "java/lang/invoke/VarHandle")
    {b : Addr} {argsL rest : List Value} (hM : Pact l Z y bytes maxL ret [] rm (.ref b :: argsL).toArray h Q) (eT : T.heap = h) {C : String} (E : Exa Z h b C) (W : Nat) (hf : rm.frames + 1 ≤ R.frames) (hl : W + (maxL + 11) + rm.locals ≤ R.locals) (hc : cells + rm.cells ≤ R.cells) (hs : slots + rm.slots ≤ R.slots)
    (hst : st = argsL.reverse ++ .ref b :: rest) {ps : List FieldType} {rt : Option FieldType} (hdesc : parseMethodDescriptor y.desc = some ⟨ps, rt⟩) (hlen : argsL.length = ps.length) (hW : (rest.map fun v => v.category).sum ≤ W) (hd : decode B pc = .ok (.invokevirtual index, 3)) (hq : pc + 3 = pcF)
    (next : ∀ (v : Option Value) (T' : State) (L : List Loc), Stand p l e R s m args below meth c T' (locs ++ L) (cells + rm.cells) (slots + rm.slots) → Q v T'.heap L → Go p e below K T' (mkF m pcF ls (v.toList ++ rest))) : Go p e below K T (mkF m pc ls st) := by
  subst hq
  obtain ⟨cq, q, q'⟩ := E.cell
  have hpriv : s.PrivateAt y := Cond.privateMethod_at (mvP hZ w3 (args := #[]))
  obtain ⟨c2, k2, i1, i2, -, i4, -⟩ := Cond.instantiable_spec (mvT (args := #[]) (s := s) hZ w2)
  have hni : k2.isInterface = false := (Bool.or_eq_false_iff.mp i4).1
  obtain ⟨v, vm₁, ⟨T', L', k', n'⟩, -, X', ⟨Lc, hQ, l', y', z'⟩, st'⟩ := X.privateBack hx (y := y) hown (mvT hZ w1) (mvT hZ w4) (selects_self_of_private i1 i2 hni hpriv (mvT hZ w4) hy) hpriv (mvT hZ w5) hy (backOf (W := W) hM hZ w5 w6 hf hl) (g := mkF m pc ls st) rfl hml (Steps.refl _) (a := b) (by rw [eT]; exact q) q' (argsL := argsL) (rest := rest) (lenOf hdesc hlen) hst (by show 2 * 0 + _ ≤ W; omega) (hb hby hd) (fun _ _ => ⟨rfl, eT, hc, hs⟩)
  dsimp only [Pt.U, Pt.locs, Pt.cells, Pt.slots] at X' l' y' z' st' hQ
  subst l' y' z'
  exact Go.on (fun t k => st'.trans k) (next v T' Lc X' hQ)
theorem extWr {h0 h h' : Heap} {a : Addr} {sl : Nat} {v : Value} (E : Ext h0 h) (W : Wr h h' a sl v) (q : h0.size ≤ a) : Ext h0 h' := by
  refine ⟨by rw [W.size]; exact E.1, fun x c hx => ?_⟩
  obtain ⟨cb', r1, -, -, -, r5, -⟩ := wr_at W (E.2 x c hx)
  rw [r1, r5 (Nat.ne_of_lt (Nat.lt_of_lt_of_le (Array.getElem?_eq_some_iff.mp hx).1 q))]
theorem extKeep {h0 h h' : Heap} {a : Addr} (E : Ext h0 h) (K : Keep h h' [a]) (q : h0.size ≤ a) : Ext h0 h' :=
  ⟨Nat.le_trans E.1 K.1, fun x c hx => K.2.1 x c (E.2 x c hx) (ninS (Nat.ne_of_lt (Nat.lt_of_lt_of_le (Array.getElem?_eq_some_iff.mp hx).1 q)) nin0)⟩
theorem extTrans {h0 h h' : Heap} (E : Ext h0 h) (E' : Ext h h') : Ext h0 h' := ⟨Nat.le_trans E.1 E'.1, fun x c hx => E'.2 x c (E.2 x c hx)⟩
theorem arrKeep {h h' : Heap} {a b : Addr} {cl : Cell} {ty : FieldType} (A : Arr Z h a cl ty) (K : Keep h h' [b]) (hne : a ≠ b) : Arr Z h' a cl ty := ⟨K.2.1 _ _ A.1 (ninS hne nin0), A.2⟩
end Go
end Jvm.RoadKit

namespace Jvm.Pilot.@@N@@
open Jvm Jvm.ClassFile Sem Op Lib Jvm.Free Jvm.Stand Jvm.LawKit Jvm.RoadKit Bundle Jvm.Pilot.@@N@@.Jvm.D

theorem pnLaw : plainName "com/example/sakuin/sakuin/storage/ReaderAtEndPinLaw" = true := by first | (simp [plainName, overriddenIn]; done) | decide +kernel
theorem pnR : plainName "com/example/sakuin/sakuin/storage/KeyEncoding$Reader" = true := by first | (simp [plainName, overriddenIn]; done) | decide +kernel
theorem pdI : parseMethodDescriptor "([B)V" = some ⟨[(.array .byte)], none⟩ := by decide +kernel
theorem pdE : parseMethodDescriptor "()Z" = some ⟨[], some .boolean⟩ := by decide +kernel
theorem pdP : parseMethodDescriptor "()I" = some ⟨[], some .int⟩ := by decide +kernel
theorem pdN : parseMethodDescriptor "()Ljava/math/BigDecimal;" = some ⟨[], some (.object "java/math/BigDecimal")⟩ := by decide +kernel
theorem efI (m : MethodId) (r a : Addr) : entryFrame m #[(.ref r), (.ref a)] 2 = mkF m 0 #[.val (.ref r), .val (.ref a)] [] := by first | (simp [entryFrame, mkF, argsToLocals, Value.category, maxLocals]; done) | rfl
theorem efE (m : MethodId) (r : Addr) : entryFrame m #[(.ref r)] 1 = mkF m 0 #[.val (.ref r)] [] := by first | (simp [entryFrame, mkF, argsToLocals, Value.category, maxLocals]; done) | rfl
theorem efN (m : MethodId) (r : Addr) : entryFrame m #[(.ref r)] 10 = mkF m 0 #[.val (.ref r), .unset, .unset, .unset, .unset, .unset, .unset, .unset, .unset, .unset] [] := by first | (simp [entryFrame, mkF, argsToLocals, Value.category, maxLocals]; done) | rfl
theorem ef0 (m : MethodId) (x0 x1 x2 : Int32) : entryFrame m #[(.int x0), (.int x1), (.int x2)] maxLocals = mkF m 0 #[.val (.int x0), .val (.int x1), .val (.int x2), .unset, .unset, .unset] [] := by first | (simp [entryFrame, mkF, argsToLocals, Value.category, maxLocals]; done) | rfl
theorem own_cases (k : Int32) (h : 0 ≤ k.toInt ∧ k.toInt < 4) : k = 0 ∨ k = 1 ∨ k = 2 ∨ k = 3 := by
  have e : ∀ i : Int32, k.toInt = i.toInt → k = i := fun i q => Int32.toInt_inj.mp q
  have q : k.toInt = 0 ∨ k.toInt = 1 ∨ k.toInt = 2 ∨ k.toInt = 3 := by omega
  rcases q with q | q | q | q
  · exact Or.inl (e 0 q)
  · exact Or.inr (Or.inl (e 1 q))
  · exact Or.inr (Or.inr (Or.inl (e 2 q)))
  · exact Or.inr (Or.inr (Or.inr (e 3 q)))
def own_eq (q n : Int32) : Int32 := if q = n then 1 else 0
def own_QR (h0 : Heap) (r : Value) (v : Option Value) (h : Heap) (L : List Loc) : Prop := v = some r ∧ L = [] ∧ h = h0
def own_QW (Z : State) (o a : Addr) (q : Int32) (r : Option Value) (h0 : Heap) (n0 : Nat) (v : Option Value) (h : Heap) (L : List Loc) : Prop := v = r ∧ Fr n0 L ∧ Keep h0 h [o] ∧ Exa Z h o "com/example/sakuin/sakuin/storage/KeyEncoding$Reader" ∧ Fld Z h o "com/example/sakuin/sakuin/storage/KeyEncoding$Reader" "key" "[B" (.ref a) ∧ Fld Z h o "com/example/sakuin/sakuin/storage/KeyEncoding$Reader" "position" "I" (.int q)
theorem own_rng (x : Int32) : 0 ≤ (x &&& (3 : Int32)).toInt ∧ (x &&& (3 : Int32)).toInt < 4 := by
  have e := c_and x (3 : Int32) (by decide)
  have k : (3 : Int32).toInt = 3 := by decide
  omega
theorem own_arr {Z : State} {h h' : Heap} {a o : Addr} {c : Cell} {ty : FieldType} (A : Arr Z h a c ty) (K : Keep h h' [o]) (hne : a ≠ o) : Arr Z h' a c ty := ⟨K.2.1 _ _ A.1 (ninS hne nin0), A.2⟩
theorem d1_0 : decode prog_69_method_1_code 0 = .ok (.aload_n 0, 1) := by decide +kernel
theorem d1_1 : decode prog_69_method_1_code 1 = .ok (.invokespecial 3, 3) := by decide +kernel
theorem d1_4 : decode prog_69_method_1_code 4 = .ok (.aload_n 0, 1) := by decide +kernel
theorem d1_5 : decode prog_69_method_1_code 5 = .ok (.aload_n 1, 1) := by decide +kernel
theorem d1_6 : decode prog_69_method_1_code 6 = .ok (.putfield 9, 3) := by decide +kernel
theorem d1_9 : decode prog_69_method_1_code 9 = .ok (.return_, 1) := by decide +kernel
set_option maxRecDepth 65536 in
set_option maxHeartbeats 40000000 in
theorem rmI (l : Launch) (Z : State) (w0 : Array Value) (hw : ∀ d ∈ tables_1, d.before w0 Z = true) (ws : List Jvm.Cond) (r a : Addr) (h0 : Heap) (n0 : Nat) (Z0 : n0 ≤ h0.size) (nr : n0 ≤ r) (E0 : Exa Z h0 r "com/example/sakuin/sakuin/storage/KeyEncoding$Reader") (GK : Fld Z h0 r "com/example/sakuin/sakuin/storage/KeyEncoding$Reader" "key" "[B" .null) (GP : Fld Z h0 r "com/example/sakuin/sakuin/storage/KeyEncoding$Reader" "position" "I" (.int (0 : Int32))) : Pact l Z (⟨"com/example/sakuin/sakuin/storage/KeyEncoding$Reader", "<init>", "([B)V"⟩ : MethodName) prog_69_method_1_code 2 none ws ({ frames := 1, cells := 0, slots := 0, locals := 12 } : Room) #[.ref r, .ref a] h0 (own_QW Z r a 0 none h0 n0) := by
  refine Pact.intro (plainFor_of_name pnR) ?_
  intro p e s m below meth c T0 X0 hx hby hml hret hlk hown hnm hZ e0
  refine Go.at (efI m r a) ?_
  have N0 := Fr.nil n0
  have KP0 : Keep h0 h0 [r] := Keep.refl _ _
  refine Go.on (g' := (mkF m 1 _ [(.ref r)])) (fun t_ k_ => XS.aloadN X0.here hx rfl (hb hby d1_0) rfl rfl k_) ?_
  obtain ⟨T1, X1, e1, st1⟩ := initO X0 hx hZ hown (hw _ (List.mem_of_getElem? (i := 7) rfl)) (hw _ (List.mem_of_getElem? (i := 8) rfl)) (hw _ (List.mem_of_getElem? (i := 9) rfl)) e0 (g := (mkF m 1 #[.val (.ref r), .val (.ref a)] [(.ref r)])) rfl (by rw [hml]; rfl) rfl (hb hby d1_1) (by decide) (W := 0) (by show 2 * 0 + _ ≤ _; exact Nat.le_of_eq rfl) (by decide)
  refine Go.on (g' := (mkF m 4 _ [])) (st1) ?_
  refine Go.on (g' := (mkF m 5 _ [(.ref r)])) (fun t_ k_ => XS.aloadN X1.here hx rfl (hb hby d1_4) rfl rfl k_) ?_
  refine Go.on (g' := (mkF m 6 _ [(.ref a), (.ref r)])) (fun t_ k_ => XS.aloadN X1.here hx rfl (hb hby d1_5) rfl rfl k_) ?_
  obtain ⟨T2, h2, X2, e2, W2, st2⟩ := putF X1 hx hZ hown (host := "") (Or.inl (hw _ (List.mem_of_getElem? (i := 10) rfl))) Via.refl e1 GK E0 (Or.inr ⟨(hw _ (List.mem_of_getElem? (i := 11) rfl)), rfl, hnm⟩) (hw _ (List.mem_of_getElem? (i := 2) rfl)) (ty := (.array .byte)) (by decide) rfl rfl (g := (mkF m 6 #[.val (.ref r), .val (.ref a)] [(.ref a), (.ref r)])) rfl rfl (hb hby d1_6)
  have N2 := Fr.snoc X2 N0 nr
  have Z2 : n0 ≤ h2.size := by rw [W2.size]; exact Z0
  have exa_r_2 := E0.wr W2
  have fld_r_position_2 := GP.other W2 (Or.inr (slot_ne (Or.inl (hw _ (List.mem_of_getElem? (i := 18) rfl))) (Or.inr (hw _ (List.mem_of_getElem? (i := 11) rfl))) (by decide) (by decide : parseFieldDescriptor "I" = some .int) (by decide : parseFieldDescriptor "[B" = some (.array .byte))))
  have KP_2 := KP0.wr W2 (Or.inl (List.mem_of_getElem? (i := 0) rfl))
  have fld_r_key_2 := GK.same W2
  refine Go.on (g' := (mkF m 9 _ [])) (st2) ?_
  exact Go.ret0 X2 hx hlk hret hby d1_9 (by decide) (by decide) (by rw [e2]; exact ⟨rfl, N2, KP_2, exa_r_2, fld_r_key_2, fld_r_position_2⟩)
theorem d3_0 : decode prog_69_method_2_code 0 = .ok (.aload_n 0, 1) := by decide +kernel
theorem d3_1 : decode prog_69_method_2_code 1 = .ok (.getfield 15, 3) := by decide +kernel
theorem d3_4 : decode prog_69_method_2_code 4 = .ok (.aload_n 0, 1) := by decide +kernel
theorem d3_5 : decode prog_69_method_2_code 5 = .ok (.getfield 9, 3) := by decide +kernel
theorem d3_8 : decode prog_69_method_2_code 8 = .ok (.arraylength, 1) := by decide +kernel
theorem d3_9 : decode prog_69_method_2_code 9 = .ok (.if_icmp .ne 7, 3) := by decide +kernel
theorem d3_12 : decode prog_69_method_2_code 12 = .ok (.iconst 1, 1) := by decide +kernel
theorem d3_13 : decode prog_69_method_2_code 13 = .ok (.goto 4, 3) := by decide +kernel
theorem d3_16 : decode prog_69_method_2_code 16 = .ok (.iconst 0, 1) := by decide +kernel
theorem d3_17 : decode prog_69_method_2_code 17 = .ok (.ireturn, 1) := by decide +kernel
set_option maxRecDepth 65536 in
set_option maxHeartbeats 40000000 in
theorem rmE (l : Launch) (Z : State) (w0 : Array Value) (hw : ∀ d ∈ tables_1, d.before w0 Z = true) (ws : List Jvm.Cond) (r a : Addr) (q n res : Int32) (hres : own_eq q n = res) (h0 : Heap) (GK : Fld Z h0 r "com/example/sakuin/sakuin/storage/KeyEncoding$Reader" "key" "[B" (.ref a)) (GP : Fld Z h0 r "com/example/sakuin/sakuin/storage/KeyEncoding$Reader" "position" "I" (.int q)) (cl : Cell) (A0 : Arr Z h0 a cl .byte) (hl : cl.slots.size.toInt32 = n) : Pact l Z (⟨"com/example/sakuin/sakuin/storage/KeyEncoding$Reader", "atEnd", "()Z"⟩ : MethodName) prog_69_method_2_code 1 (some .boolean) ws ({ frames := 0, cells := 0, slots := 0, locals := 0 } : Room) #[.ref r] h0 (own_QR h0 (.int res)) := by
  refine Pact.intro (plainFor_of_name pnR) ?_
  intro p e s m below meth c T0 X0 hx hby hml hret hlk hown hnm hZ e0
  refine Go.at (efE m r) ?_
  refine Go.on (g' := (mkF m 1 _ [(.ref r)])) (fun t_ k_ => XS.aloadN X0.here hx rfl (hb hby d3_0) rfl rfl k_) ?_
  obtain ⟨T1, X1, e1, st1⟩ := getF X0 hx hZ hown (host := "") (Or.inl (hw _ (List.mem_of_getElem? (i := 17) rfl))) Via.refl e0 GP (g := (mkF m 1 #[.val (.ref r)] [(.ref r)])) rfl rfl (hb hby d3_1)
  refine Go.on (g' := (mkF m 4 _ [(.int q)])) (st1) ?_
  refine Go.on (g' := (mkF m 5 _ [(.ref r), (.int q)])) (fun t_ k_ => XS.aloadN X1.here hx rfl (hb hby d3_4) rfl rfl k_) ?_
  obtain ⟨T2, X2, e2, st2⟩ := getF X1 hx hZ hown (host := "") (Or.inl (hw _ (List.mem_of_getElem? (i := 10) rfl))) Via.refl e1 GK (g := (mkF m 5 #[.val (.ref r)] [(.ref r), (.int q)])) rfl rfl (hb hby d3_5)
  refine Go.on (g' := (mkF m 8 _ [(.ref a), (.int q)])) (st2) ?_
  refine Go.on (T' := T2) (g' := (mkF m 9 _ [(.int n), (.int q)])) (fun t_ k_ => X2.arraylength hx (by rw [e2]; exact A0.1) (State.isArrayOf_alike hZ.alike A0.2.1) (g := (mkF m 8 #[.val (.ref r)] [(.ref a), (.int q)])) rfl rfl (hb hby d3_8) t_ (by rw [hl]; exact k_)) ?_
  refine Go.icmp X2 hx hby d3_9 (pcT := 16) (pcF := 12) (by decide) (by decide) rfl (fun q => ?_) (fun q => ?_)
  · have q6 := iNe.1 q
    clear q
    show Go p e below _ _ (mkF m 16 _ [])
    refine Go.on (g' := (mkF m 17 _ [(.int (0 : Int32))])) (fun t_ k_ => XS.iconst X2.here hx rfl (hb hby d3_16) k_) ?_
    exact Go.retI X2 hx hlk hret hby d3_17 rfl (by simp) (by decide) (by decide) ⟨by rw [← hres, own_eq, if_neg q6], rfl, e2⟩
  · have q6 := iNe.2 q
    clear q
    show Go p e below _ _ (mkF m 12 _ [])
    refine Go.on (g' := (mkF m 13 _ [(.int (1 : Int32))])) (fun t_ k_ => XS.iconst X2.here hx rfl (hb hby d3_12) k_) ?_
    refine Go.on (g' := (mkF m 17 _ [(.int (1 : Int32))])) (fun t_ k_ => XS.goto X2.here hx rfl (pc0 := 13) (pc' := 17) rfl (hb hby d3_13) (by decide) (by decide) k_) ?_
    exact Go.retI X2 hx hlk hret hby d3_17 rfl (by simp) (by decide) (by decide) ⟨by rw [← hres, own_eq, if_pos q6], rfl, e2⟩
theorem d4_0 : decode prog_69_method_3_code 0 = .ok (.aload_n 0, 1) := by decide +kernel
theorem d4_1 : decode prog_69_method_3_code 1 = .ok (.getfield 15, 3) := by decide +kernel
theorem d4_4 : decode prog_69_method_3_code 4 = .ok (.ireturn, 1) := by decide +kernel
set_option maxRecDepth 65536 in
set_option maxHeartbeats 40000000 in
theorem rmP (l : Launch) (Z : State) (w0 : Array Value) (hw : ∀ d ∈ tables_1, d.before w0 Z = true) (ws : List Jvm.Cond) (r : Addr) (q : Int32) (h0 : Heap) (GP : Fld Z h0 r "com/example/sakuin/sakuin/storage/KeyEncoding$Reader" "position" "I" (.int q)) : Pact l Z (⟨"com/example/sakuin/sakuin/storage/KeyEncoding$Reader", "position", "()I"⟩ : MethodName) prog_69_method_3_code 1 (some .int) ws ({ frames := 0, cells := 0, slots := 0, locals := 0 } : Room) #[.ref r] h0 (own_QR h0 (.int q)) := by
  refine Pact.intro (plainFor_of_name pnR) ?_
  intro p e s m below meth c T0 X0 hx hby hml hret hlk hown hnm hZ e0
  refine Go.at (efE m r) ?_
  refine Go.on (g' := (mkF m 1 _ [(.ref r)])) (fun t_ k_ => XS.aloadN X0.here hx rfl (hb hby d4_0) rfl rfl k_) ?_
  obtain ⟨T1, X1, e1, st1⟩ := getF X0 hx hZ hown (host := "") (Or.inl (hw _ (List.mem_of_getElem? (i := 17) rfl))) Via.refl e0 GP (g := (mkF m 1 #[.val (.ref r)] [(.ref r)])) rfl rfl (hb hby d4_1)
  refine Go.on (g' := (mkF m 4 _ [(.int q)])) (st1) ?_
  exact Go.retI X1 hx hlk hret hby d4_4 rfl (by simp) (by decide) (by decide) ⟨rfl, rfl, e1⟩
theorem d6_0 : decode prog_69_method_7_code 0 = .ok (.aload_n 0, 1) := by decide +kernel
theorem d6_1 : decode prog_69_method_7_code 1 = .ok (.getfield 15, 3) := by decide +kernel
theorem d6_4 : decode prog_69_method_7_code 4 = .ok (.aload_n 0, 1) := by decide +kernel
theorem d6_5 : decode prog_69_method_7_code 5 = .ok (.getfield 9, 3) := by decide +kernel
theorem d6_8 : decode prog_69_method_7_code 8 = .ok (.arraylength, 1) := by decide +kernel
theorem d6_9 : decode prog_69_method_7_code 9 = .ok (.if_icmp .ne 8, 3) := by decide +kernel
theorem d6_17 : decode prog_69_method_7_code 17 = .ok (.aload_n 0, 1) := by decide +kernel
theorem d6_18 : decode prog_69_method_7_code 18 = .ok (.getfield 9, 3) := by decide +kernel
theorem d6_21 : decode prog_69_method_7_code 21 = .ok (.aload_n 0, 1) := by decide +kernel
theorem d6_22 : decode prog_69_method_7_code 22 = .ok (.dup, 1) := by decide +kernel
theorem d6_23 : decode prog_69_method_7_code 23 = .ok (.getfield 15, 3) := by decide +kernel
theorem d6_26 : decode prog_69_method_7_code 26 = .ok (.dup_x1, 1) := by decide +kernel
theorem d6_27 : decode prog_69_method_7_code 27 = .ok (.iconst 1, 1) := by decide +kernel
theorem d6_28 : decode prog_69_method_7_code 28 = .ok (.iadd, 1) := by decide +kernel
theorem d6_29 : decode prog_69_method_7_code 29 = .ok (.putfield 15, 3) := by decide +kernel
theorem d6_32 : decode prog_69_method_7_code 32 = .ok (.baload, 1) := by decide +kernel
theorem d6_33 : decode prog_69_method_7_code 33 = .ok (.sipush 255, 3) := by decide +kernel
theorem d6_36 : decode prog_69_method_7_code 36 = .ok (.iand, 1) := by decide +kernel
theorem d6_37 : decode prog_69_method_7_code 37 = .ok (.ireturn, 1) := by decide +kernel
set_option maxRecDepth 65536 in
set_option maxHeartbeats 40000000 in
theorem rmX (l : Launch) (Z : State) (w0 : Array Value) (hw : ∀ d ∈ tables_1, d.before w0 Z = true) (ws : List Jvm.Cond) (r a : Addr) (q n b res : Int32) (hqn : ¬ q = n) (hres : (b &&& (255 : Int32)) = res) (h0 : Heap) (n0 : Nat) (Z0 : n0 ≤ h0.size) (nr : n0 ≤ r) (E0 : Exa Z h0 r "com/example/sakuin/sakuin/storage/KeyEncoding$Reader") (GK : Fld Z h0 r "com/example/sakuin/sakuin/storage/KeyEncoding$Reader" "key" "[B" (.ref a)) (GP : Fld Z h0 r "com/example/sakuin/sakuin/storage/KeyEncoding$Reader" "position" "I" (.int q)) (cl : Cell) (A0 : Arr Z h0 a cl .byte) (hl : cl.slots.size.toInt32 = n) (hne : a ≠ r) (hin : ¬ (q < 0 ∨ cl.slots.size ≤ q.toNatClampNeg)) (hat : cl.slots[q.toNatClampNeg]? = some (.int b)) : Pact l Z (⟨"com/example/sakuin/sakuin/storage/KeyEncoding$Reader", "next", "()I"⟩ : MethodName) prog_69_method_7_code 1 (some .int) ws ({ frames := 0, cells := 0, slots := 0, locals := 0 } : Room) #[.ref r] h0 (own_QW Z r a (q + (1 : Int32)) (some (.int res)) h0 n0) := by
  refine Pact.intro (plainFor_of_name pnR) ?_
  intro p e s m below meth c T0 X0 hx hby hml hret hlk hown hnm hZ e0
  refine Go.at (efE m r) ?_
  have N0 := Fr.nil n0
  have KP0 : Keep h0 h0 [r] := Keep.refl _ _
  refine Go.on (g' := (mkF m 1 _ [(.ref r)])) (fun t_ k_ => XS.aloadN X0.here hx rfl (hb hby d6_0) rfl rfl k_) ?_
  obtain ⟨T1, X1, e1, st1⟩ := getF X0 hx hZ hown (host := "") (Or.inl (hw _ (List.mem_of_getElem? (i := 17) rfl))) Via.refl e0 GP (g := (mkF m 1 #[.val (.ref r)] [(.ref r)])) rfl rfl (hb hby d6_1)
  refine Go.on (g' := (mkF m 4 _ [(.int q)])) (st1) ?_
  refine Go.on (g' := (mkF m 5 _ [(.ref r), (.int q)])) (fun t_ k_ => XS.aloadN X1.here hx rfl (hb hby d6_4) rfl rfl k_) ?_
  obtain ⟨T2, X2, e2, st2⟩ := getF X1 hx hZ hown (host := "") (Or.inl (hw _ (List.mem_of_getElem? (i := 10) rfl))) Via.refl e1 GK (g := (mkF m 5 #[.val (.ref r)] [(.ref r), (.int q)])) rfl rfl (hb hby d6_5)
  refine Go.on (g' := (mkF m 8 _ [(.ref a), (.int q)])) (st2) ?_
  refine Go.on (T' := T2) (g' := (mkF m 9 _ [(.int n), (.int q)])) (fun t_ k_ => X2.arraylength hx (by rw [e2]; exact A0.1) (State.isArrayOf_alike hZ.alike A0.2.1) (g := (mkF m 8 #[.val (.ref r)] [(.ref a), (.int q)])) rfl rfl (hb hby d6_8) t_ (by rw [hl]; exact k_)) ?_
  refine Go.icmp X2 hx hby d6_9 (pcT := 17) (pcF := 12) (by decide) (by decide) rfl (fun q => ?_) (fun q => absurd q (fun z => hqn (iNe.2 z)))
  clear q
  show Go p e below _ _ (mkF m 17 _ [])
  refine Go.on (g' := (mkF m 18 _ [(.ref r)])) (fun t_ k_ => XS.aloadN X2.here hx rfl (hb hby d6_17) rfl rfl k_) ?_
  obtain ⟨T3, X3, e3, st3⟩ := getF X2 hx hZ hown (host := "") (Or.inl (hw _ (List.mem_of_getElem? (i := 10) rfl))) Via.refl e2 GK (g := (mkF m 18 #[.val (.ref r)] [(.ref r)])) rfl rfl (hb hby d6_18)
  refine Go.on (g' := (mkF m 21 _ [(.ref a)])) (st3) ?_
  refine Go.on (g' := (mkF m 22 _ [(.ref r), (.ref a)])) (fun t_ k_ => XS.aloadN X3.here hx rfl (hb hby d6_21) rfl rfl k_) ?_
  refine Go.on (g' := (mkF m 23 _ [(.ref r), (.ref r), (.ref a)])) (fun t_ k_ => XS.dup X3.here hx rfl (hb hby d6_22) rfl rfl k_) ?_
  obtain ⟨T4, X4, e4, st4⟩ := getF X3 hx hZ hown (host := "") (Or.inl (hw _ (List.mem_of_getElem? (i := 17) rfl))) Via.refl e3 GP (g := (mkF m 23 #[.val (.ref r)] [(.ref r), (.ref r), (.ref a)])) rfl rfl (hb hby d6_23)
  refine Go.on (g' := (mkF m 26 _ [(.int q), (.ref r), (.ref a)])) (st4) ?_
  refine Go.on (g' := (mkF m 27 _ [(.int q), (.ref r), (.int q), (.ref a)])) (fun t_ k_ => XT.dupX1 X4.here hx rfl (hb hby d6_26) rfl rfl rfl k_) ?_
  refine Go.on (g' := (mkF m 28 _ [(.int (1 : Int32)), (.int q), (.ref r), (.int q), (.ref a)])) (fun t_ k_ => XS.iconst X4.here hx rfl (hb hby d6_27) k_) ?_
  refine Go.on (g' := (mkF m 29 _ [(.int (q + (1 : Int32))), (.ref r), (.int q), (.ref a)])) (fun t_ k_ => XS.iadd X4.here hx rfl (hb hby d6_28) rfl k_) ?_
  obtain ⟨T5, h5, X5, e5, W5, st5⟩ := putF X4 hx hZ hown (host := "") (Or.inl (hw _ (List.mem_of_getElem? (i := 17) rfl))) Via.refl e4 GP E0 (Or.inl (hw _ (List.mem_of_getElem? (i := 18) rfl))) (hw _ (List.mem_of_getElem? (i := 2) rfl)) (ty := .int) (by decide) rfl rfl (g := (mkF m 29 #[.val (.ref r)] [(.int (q + (1 : Int32))), (.ref r), (.int q), (.ref a)])) rfl rfl (hb hby d6_29)
  have N5 := Fr.snoc X5 N0 nr
  have Z5 : n0 ≤ h5.size := by rw [W5.size]; exact Z0
  have exa_r_5 := E0.wr W5
  have fld_r_key_5 := GK.other W5 (Or.inr (slot_ne (Or.inr (hw _ (List.mem_of_getElem? (i := 11) rfl))) (Or.inl (hw _ (List.mem_of_getElem? (i := 18) rfl))) (by decide) (by decide : parseFieldDescriptor "[B" = some (.array .byte)) (by decide : parseFieldDescriptor "I" = some .int)))
  have KP_5 := KP0.wr W5 (Or.inl (List.mem_of_getElem? (i := 0) rfl))
  have arr_a_5 := A0.other W5 hne
  have fld_r_position_5 := GP.same W5
  refine Go.on (g' := (mkF m 32 _ [(.int q), (.ref a)])) (st5) ?_
  refine Go.on (g' := (mkF m 33 _ [(.int b)])) (X5.baloadBytes hx (j := q) (v := (.int b)) (by rw [e5]; exact arr_a_5.1) (State.isArrayOf_alike hZ.alike arr_a_5.2.1) arr_a_5.2.2 hin hat (g := (mkF m 32 #[.val (.ref r)] [(.int q), (.ref a)])) rfl rfl (hb hby d6_32)) ?_
  refine Go.on (g' := (mkF m 36 _ [(.int (255 : Int32)), (.int b)])) (fun t_ k_ => XS.sipush X5.here hx rfl (hb hby d6_33) k_) ?_
  refine Go.on (g' := (mkF m 37 _ [(.int (b &&& (255 : Int32)))])) (fun t_ k_ => XS.iand X5.here hx rfl (hb hby d6_36) rfl k_) ?_
  exact Go.retI X5 hx hlk hret hby d6_37 rfl (by simp) (by decide) (by decide) (by rw [e5]; exact ⟨by rw [hres], N5, KP_5, exa_r_5, fld_r_key_5, fld_r_position_5⟩)
theorem d5_0 : decode prog_69_method_6_code 0 = .ok (.aload_n 0, 1) := by decide +kernel
theorem d5_1 : decode prog_69_method_6_code 1 = .ok (.invokevirtual 77, 3) := by decide +kernel
theorem d5_4 : decode prog_69_method_6_code 4 = .ok (.istore_n 1, 1) := by decide +kernel
theorem d5_5 : decode prog_69_method_6_code 5 = .ok (.iload_n 1, 1) := by decide +kernel
theorem d5_6 : decode prog_69_method_6_code 6 = .ok (.iconst 2, 1) := by decide +kernel
theorem d5_7 : decode prog_69_method_6_code 7 = .ok (.if_icmp .ne 7, 3) := by decide +kernel
theorem d5_10 : decode prog_69_method_6_code 10 = .ok (.getstatic 92, 3) := by decide +kernel
theorem d5_13 : decode prog_69_method_6_code 13 = .ok (.areturn, 1) := by decide +kernel
set_option maxRecDepth 65536 in
set_option maxHeartbeats 40000000 in
theorem rmN (l : Launch) (Z : State) (w0 : Array Value) (hw : ∀ d ∈ tables_1, d.before w0 Z = true) (ws : List Jvm.Cond) (r a : Addr) (q n b : Int32) (hqn : ¬ q = n) (hres : (b &&& (255 : Int32)) = 2) (h0 : Heap) (n0 : Nat) (Z0 : n0 ≤ h0.size) (nr : n0 ≤ r) (E0 : Exa Z h0 r "com/example/sakuin/sakuin/storage/KeyEncoding$Reader") (GK : Fld Z h0 r "com/example/sakuin/sakuin/storage/KeyEncoding$Reader" "key" "[B" (.ref a)) (GP : Fld Z h0 r "com/example/sakuin/sakuin/storage/KeyEncoding$Reader" "position" "I" (.int q)) (cl : Cell) (A0 : Arr Z h0 a cl .byte) (hl : cl.slots.size.toInt32 = n) (hne : a ≠ r) (hin : ¬ (q < 0 ∨ cl.slots.size ≤ q.toNatClampNeg)) (hat : cl.slots[q.toNatClampNeg]? = some (.int b)) (zd : Addr) (S0 : Sta Z Z.heap "java/math/BigDecimal" "ZERO" "Ljava/math/BigDecimal;" (.ref zd)) (O0 : Old Z n0 h0) : Pact l Z (⟨"com/example/sakuin/sakuin/storage/KeyEncoding$Reader", "number", "()Ljava/math/BigDecimal;"⟩ : MethodName) prog_69_method_6_code 10 (some (.object "java/math/BigDecimal")) ws ({ frames := 1, cells := 0, slots := 0, locals := 12 } : Room) #[.ref r] h0 (own_QW Z r a (q + (1 : Int32)) (some (.ref zd)) h0 n0) := by
  refine Pact.intro (plainFor_of_name pnR) ?_
  intro p e s m below meth c T0 X0 hx hby hml hret hlk hown hnm hZ e0
  refine Go.at (efN m r) ?_
  refine Go.on (g' := (mkF m 1 _ [(.ref r)])) (fun t_ k_ => XS.aloadN X0.here hx rfl (hb hby d5_0) rfl rfl k_) ?_
  refine Go.callP X0 hx hZ hby (by rw [hml]; rfl) (y := (⟨"com/example/sakuin/sakuin/storage/KeyEncoding$Reader", "next", "()I"⟩ : MethodName)) hown (hw _ (List.mem_of_getElem? (i := 29) rfl)) (hw _ (List.mem_of_getElem? (i := 2) rfl)) (hw _ (List.mem_of_getElem? (i := 31) rfl)) (hw _ (List.mem_of_getElem? (i := 30) rfl)) (hw _ (List.mem_of_getElem? (i := 32) rfl)) (hw _ (List.mem_of_getElem? (i := 3) rfl)) (by decide) (b := r) (argsL := []) (rest := []) (rmX l Z w0 hw [] r a q n b 2 hqn hres h0 n0 Z0 nr E0 GK GP cl A0 hl hne hin hat) e0 E0 0 (by decide) (by decide) (by decide) (by decide) rfl pdP rfl (Nat.le_of_eq rfl) d5_1 (pcF := 4) rfl ?_
  intro v1 T1 L1 X1 hQ1
  obtain ⟨rfl, M1, K1, E1, FK1, FP1⟩ := hQ1
  have O1 := O0.keep K1 (allS nr all0)
  have e1 : T1.heap = T1.heap := rfl
  show Go p e below _ _ (mkF m 4 _ [(.int (2 : Int32))])
  refine Go.on (g' := (mkF m 5 #[.val (.ref r), .val (.int (2 : Int32)), .unset, .unset, .unset, .unset, .unset, .unset, .unset, .unset] [])) (fun t_ k_ => XS.istoreN X1.here hx rfl (hb hby d5_4) rfl (l' := #[.val (.ref r), .val (.int (2 : Int32)), .unset, .unset, .unset, .unset, .unset, .unset, .unset, .unset]) rfl k_) ?_
  refine Go.on (g' := (mkF m 6 _ [(.int (2 : Int32))])) (fun t_ k_ => XS.iloadN X1.here hx rfl (hb hby d5_5) rfl k_) ?_
  refine Go.on (g' := (mkF m 7 _ [(.int (2 : Int32)), (.int (2 : Int32))])) (fun t_ k_ => XS.iconst X1.here hx rfl (hb hby d5_6) k_) ?_
  refine Go.icmp X1 hx hby d5_7 (pcT := 14) (pcF := 10) (by decide) (by decide) rfl (fun q => absurd q (by decide)) (fun q => ?_)
  clear q
  show Go p e below _ _ (mkF m 10 _ [])
  obtain ⟨T2, X2, e2, st2⟩ := getS (host := "") X1 hx hZ hown (hw _ (List.mem_of_getElem? (i := 33) rfl)) Via.refl e1 (S0.ext O1.2) (g := (mkF m 10 #[.val (.ref r), .val (.int (2 : Int32)), .unset, .unset, .unset, .unset, .unset, .unset, .unset, .unset] [])) rfl (hb hby d5_10)
  refine Go.on (g' := (mkF m 13 _ [(.ref zd)])) (st2) ?_
  exact Go.retA X2 hx hlk hret hby d5_13 rfl rfl (by decide) (by decide) (by rw [e2]; exact ⟨rfl, Fr.app (Fr.nil n0) M1, K1, E1, FK1, FP1⟩)
def own_Q0 (n0 : Nat) (v : Option Value) (h : Heap) (L : List Loc) : Prop := v = some (.int 1) ∧ Fr n0 L
set_option maxRecDepth 65536 in
set_option maxHeartbeats 40000000 in
theorem tl0 (l : Launch) (Z : State) (w0 : Array Value) (hw : ∀ d ∈ tables_1, d.before w0 Z = true) (ws : List Jvm.Cond) (zd : Addr) (S0 : Sta Z Z.heap "java/math/BigDecimal" "ZERO" "Ljava/math/BigDecimal;" (.ref zd)) (p0 p1 p2 : Int32) (p : Program) (e : Env) (s : State) (m : MethodId) (below : List Frame) (meth : Method) (c : Code) (T0 : State) (locs : List Loc) (X0 : Stand p l e room_1 s m #[.int p0, .int p1, .int p2] below meth c T0 locs 1 0) (hx : p.tables.exec = Jvm.exec) (hby : c.code = code) (hml : c.maxLocals = maxLocals) (hret : meth.sig.returnType = ret) (hlk : meth.locks = false) (hown : s.vm.findClass "com/example/sakuin/sakuin/storage/ReaderAtEndPinLaw" = some m.cls) (hZ : Z.Warmed39 s.vm) (h0 : Heap) (e0 : T0.heap = h0) (n0 : Nat) (Z0 : n0 ≤ h0.size) (N0 : Fr n0 locs) (O0 : Old Z n0 h0) (arr : Addr) (cl : Cell) (A0 : Arr Z h0 arr cl .byte) (hsz : cl.slots.size = 0)  : Go p e below (EndK s (own_Q0 n0) room_1.cells room_1.slots) T0 (mkF m 78 #[.val (.int p0), .val (.int p1), .val (.int p2), .val (.int (0 : Int32)), .val (.ref arr), .unset] []) := by
  have hl : cl.slots.size.toInt32 = (0 : Int32) := by rw [hsz]; rfl
  obtain ⟨T1, h1, X1, e1, E1, A1, D1, -, st1⟩ := newO X0 hx hZ hown (hw _ (List.mem_of_getElem? (i := 1) rfl)) (hw _ (List.mem_of_getElem? (i := 2) rfl)) (hw _ (List.mem_of_getElem? (i := 3) rfl)) e0 (g := (mkF m 78 #[.val (.int p0), .val (.int p1), .val (.int p2), .val (.int (0 : Int32)), .val (.ref arr), .unset] [])) rfl (hb hby at_78) (by decide) (by decide)
  obtain ⟨o1, go1⟩ : ∃ z, z = (h0).size := ⟨_, rfl⟩
  rw [← go1] at A1 D1 st1
  have no1 : n0 ≤ o1 := Nat.le_trans Z0 (Nat.le_of_eq go1.symm)
  have Z1 : n0 ≤ h1.size := Nat.le_trans Z0 E1.1
  have arr_arr_1 := A0.ext E1
  have OLD_1 := O0.ext E1
  have fld_o1_key_1 := D1 (Or.inr (hw _ (List.mem_of_getElem? (i := 11) rfl))) (ty := (.array .byte)) (by decide)
  have fld_o1_position_1 := D1 (Or.inl (hw _ (List.mem_of_getElem? (i := 18) rfl))) (ty := .int) (by decide)
  refine Go.on (g' := (mkF m 81 _ [(.ref o1)])) (st1) ?_
  have hne : arr ≠ o1 := by rw [go1]; exact Nat.ne_of_lt A0.lt
  refine Go.on (g' := (mkF m 82 _ [(.ref o1), (.ref o1)])) (fun t_ k_ => XS.dup X1.here hx rfl (hb hby at_81) rfl rfl k_) ?_
  refine Go.on (g' := (mkF m 84 _ [(.ref arr), (.ref o1), (.ref o1)])) (fun t_ k_ => XS.aload X1.here hx rfl (hb hby at_82) rfl rfl k_) ?_
  refine Go.callI X1 hx hZ hby (by rw [hml]; rfl) (y := (⟨"com/example/sakuin/sakuin/storage/KeyEncoding$Reader", "<init>", "([B)V"⟩ : MethodName)) rfl hown (hw _ (List.mem_of_getElem? (i := 4) rfl)) (hw _ (List.mem_of_getElem? (i := 5) rfl)) (hw _ (List.mem_of_getElem? (i := 6) rfl)) (hw _ (List.mem_of_getElem? (i := 3) rfl)) (by decide) (b := o1) (argsL := [(.ref arr)]) (rest := [(.ref o1)]) (rmI l Z w0 hw [] o1 arr h1 n0 Z1 no1 A1 fld_o1_key_1 fld_o1_position_1) e1 1 (by decide) (by decide) (by decide) (by decide) rfl pdI rfl (Nat.le_of_eq rfl) at_84 (pcF := 87) rfl ?_
  intro v2 T2 L2 X2 hQ2
  obtain ⟨rfl, M2, K2, EE2, FK2, FP2⟩ := hQ2
  have N2 := Fr.app N0 M2
  have Z2 : n0 ≤ T2.heap.size := Nat.le_trans Z1 K2.1
  have O2 := OLD_1.keep K2 (allS no1 all0)
  have AA2 := own_arr arr_arr_1 K2 hne
  have e2 : T2.heap = T2.heap := rfl
  show Go p e below _ _ (mkF m 87 _ [(.ref o1)])
  refine Go.on (g' := (mkF m 89 #[.val (.int p0), .val (.int p1), .val (.int p2), .val (.int (0 : Int32)), .val (.ref arr), .val (.ref o1)] [])) (fun t_ k_ => XS.astore X2.here hx rfl (hb hby at_87) rfl rfl (l' := #[.val (.int p0), .val (.int p1), .val (.int p2), .val (.int (0 : Int32)), .val (.ref arr), .val (.ref o1)]) rfl k_) ?_
  refine Go.on (g' := (mkF m 91 _ [(.ref o1)])) (fun t_ k_ => XS.aload X2.here hx rfl (hb hby at_89) rfl rfl k_) ?_
  refine Go.callV X2 hx hZ hby (by rw [hml]; rfl) (C := "com/example/sakuin/sakuin/storage/KeyEncoding$Reader") (y := (⟨"com/example/sakuin/sakuin/storage/KeyEncoding$Reader", "atEnd", "()Z"⟩ : MethodName)) hown (hw _ (List.mem_of_getElem? (i := 12) rfl)) (hw _ (List.mem_of_getElem? (i := 13) rfl)) (hw _ (List.mem_of_getElem? (i := 15) rfl)) (hw _ (List.mem_of_getElem? (i := 14) rfl)) (hw _ (List.mem_of_getElem? (i := 16) rfl)) (hw _ (List.mem_of_getElem? (i := 3) rfl)) (by decide) (b := o1) (argsL := []) (rest := []) (rmE l Z w0 hw [] o1 arr (0 : Int32) (0 : Int32) (1 : Int32) (by decide) T2.heap FK2 FP2 cl AA2 hl) e2 EE2 0 (by decide) (by decide) (by decide) (by decide) rfl pdE rfl (Nat.le_of_eq rfl) at_91 (pcF := 94) rfl ?_
  intro v3 T3 L3 X3 hQ3
  obtain ⟨rfl, rfl, e3⟩ := hQ3
  rw [List.append_nil] at X3
  show Go p e below _ _ (mkF m 94 _ [(.int (1 : Int32))])
  refine Go.on (g' := (mkF m 95 _ [(.int (0 : Int32)), (.int (1 : Int32))])) (fun t_ k_ => XS.iloadN X3.here hx rfl (hb hby at_94) rfl k_) ?_
  refine Go.ifc X3 hx hby at_95 (pcT := 102) (pcF := 98) (by decide) (by decide) rfl (fun q => absurd q (by decide)) (fun q => ?_)
  clear q
  show Go p e below _ _ (mkF m 98 _ [(.int (1 : Int32))])
  refine Go.on (g' := (mkF m 99 _ [(.int (1 : Int32)), (.int (1 : Int32))])) (fun t_ k_ => XS.iconst X3.here hx rfl (hb hby at_98) k_) ?_
  refine Go.on (g' := (mkF m 103 _ [(.int (1 : Int32)), (.int (1 : Int32))])) (fun t_ k_ => XS.goto X3.here hx rfl (pc0 := 99) (pc' := 103) rfl (hb hby at_99) (by decide) (by decide) k_) ?_
  refine Go.icmp X3 hx hby at_103 (pcT := 108) (pcF := 106) (by decide) (by decide) rfl (fun q => ?_) (fun q => absurd q (by decide))
  clear q
  show Go p e below _ _ (mkF m 108 _ [])
  refine Go.on (g' := (mkF m 110 _ [(.ref o1)])) (fun t_ k_ => XS.aload X3.here hx rfl (hb hby at_108) rfl rfl k_) ?_
  refine Go.callV X3 hx hZ hby (by rw [hml]; rfl) (C := "com/example/sakuin/sakuin/storage/KeyEncoding$Reader") (y := (⟨"com/example/sakuin/sakuin/storage/KeyEncoding$Reader", "atEnd", "()Z"⟩ : MethodName)) hown (hw _ (List.mem_of_getElem? (i := 12) rfl)) (hw _ (List.mem_of_getElem? (i := 13) rfl)) (hw _ (List.mem_of_getElem? (i := 15) rfl)) (hw _ (List.mem_of_getElem? (i := 14) rfl)) (hw _ (List.mem_of_getElem? (i := 16) rfl)) (hw _ (List.mem_of_getElem? (i := 3) rfl)) (by decide) (b := o1) (argsL := []) (rest := []) (rmE l Z w0 hw [] o1 arr (0 : Int32) (0 : Int32) (1 : Int32) (by decide) T2.heap FK2 FP2 cl AA2 hl) e3 EE2 0 (by decide) (by decide) (by decide) (by decide) rfl pdE rfl (Nat.le_of_eq rfl) at_110 (pcF := 113) rfl ?_
  intro v4 T4 L4 X4 hQ4
  obtain ⟨rfl, rfl, e4⟩ := hQ4
  rw [List.append_nil] at X4
  show Go p e below _ _ (mkF m 113 _ [(.int (1 : Int32))])
  refine Go.on (g' := (mkF m 114 _ [(.int (0 : Int32)), (.int (1 : Int32))])) (fun t_ k_ => XS.iloadN X4.here hx rfl (hb hby at_113) rfl k_) ?_
  refine Go.ifc X4 hx hby at_114 (pcT := 121) (pcF := 117) (by decide) (by decide) rfl (fun q => absurd q (by decide)) (fun q => ?_)
  clear q
  show Go p e below _ _ (mkF m 117 _ [(.int (1 : Int32))])
  refine Go.on (g' := (mkF m 118 _ [(.int (1 : Int32)), (.int (1 : Int32))])) (fun t_ k_ => XS.iconst X4.here hx rfl (hb hby at_117) k_) ?_
  refine Go.on (g' := (mkF m 122 _ [(.int (1 : Int32)), (.int (1 : Int32))])) (fun t_ k_ => XS.goto X4.here hx rfl (pc0 := 118) (pc' := 122) rfl (hb hby at_118) (by decide) (by decide) k_) ?_
  refine Go.icmp X4 hx hby at_122 (pcT := 127) (pcF := 125) (by decide) (by decide) rfl (fun q => ?_) (fun q => absurd q (by decide))
  clear q
  show Go p e below _ _ (mkF m 127 _ [])
  refine Go.on (g' := (mkF m 129 _ [(.ref o1)])) (fun t_ k_ => XS.aload X4.here hx rfl (hb hby at_127) rfl rfl k_) ?_
  refine Go.callV X4 hx hZ hby (by rw [hml]; rfl) (C := "com/example/sakuin/sakuin/storage/KeyEncoding$Reader") (y := (⟨"com/example/sakuin/sakuin/storage/KeyEncoding$Reader", "position", "()I"⟩ : MethodName)) hown (hw _ (List.mem_of_getElem? (i := 19) rfl)) (hw _ (List.mem_of_getElem? (i := 20) rfl)) (hw _ (List.mem_of_getElem? (i := 22) rfl)) (hw _ (List.mem_of_getElem? (i := 21) rfl)) (hw _ (List.mem_of_getElem? (i := 23) rfl)) (hw _ (List.mem_of_getElem? (i := 3) rfl)) (by decide) (b := o1) (argsL := []) (rest := []) (rmP l Z w0 hw [] o1 (0 : Int32) T2.heap FP2) e4 EE2 0 (by decide) (by decide) (by decide) (by decide) rfl pdP rfl (Nat.le_of_eq rfl) at_129 (pcF := 132) rfl ?_
  intro v5 T5 L5 X5 hQ5
  obtain ⟨rfl, rfl, e5⟩ := hQ5
  rw [List.append_nil] at X5
  show Go p e below _ _ (mkF m 132 _ [(.int (0 : Int32))])
  refine Go.ifc X5 hx hby at_132 (pcT := 137) (pcF := 135) (by decide) (by decide) rfl (fun q => ?_) (fun q => absurd q (by decide))
  clear q
  show Go p e below _ _ (mkF m 137 _ [])
  refine Go.on (g' := (mkF m 138 _ [(.int (0 : Int32))])) (fun t_ k_ => XS.iloadN X5.here hx rfl (hb hby at_137) rfl k_) ?_
  refine Go.ifc X5 hx hby at_138 (pcT := 149) (pcF := 141) (by decide) (by decide) rfl (fun q => ?_) (fun q => absurd q (by decide))
  clear q
  show Go p e below _ _ (mkF m 149 _ [])
  refine Go.on (g' := (mkF m 150 _ [(.int (1 : Int32))])) (fun t_ k_ => XS.iconst X5.here hx rfl (hb hby at_149) k_) ?_
  exact Go.retI X5 hx hlk hret hby at_150 rfl (by simp) (by decide) (by decide) ⟨rfl, N2⟩
set_option maxRecDepth 65536 in
set_option maxHeartbeats 40000000 in
theorem tl1 (l : Launch) (Z : State) (w0 : Array Value) (hw : ∀ d ∈ tables_1, d.before w0 Z = true) (ws : List Jvm.Cond) (zd : Addr) (S0 : Sta Z Z.heap "java/math/BigDecimal" "ZERO" "Ljava/math/BigDecimal;" (.ref zd)) (p0 p1 p2 : Int32) (p : Program) (e : Env) (s : State) (m : MethodId) (below : List Frame) (meth : Method) (c : Code) (T0 : State) (locs : List Loc) (X0 : Stand p l e room_1 s m #[.int p0, .int p1, .int p2] below meth c T0 locs 1 1) (hx : p.tables.exec = Jvm.exec) (hby : c.code = code) (hml : c.maxLocals = maxLocals) (hret : meth.sig.returnType = ret) (hlk : meth.locks = false) (hown : s.vm.findClass "com/example/sakuin/sakuin/storage/ReaderAtEndPinLaw" = some m.cls) (hZ : Z.Warmed39 s.vm) (h0 : Heap) (e0 : T0.heap = h0) (n0 : Nat) (Z0 : n0 ≤ h0.size) (N0 : Fr n0 locs) (O0 : Old Z n0 h0) (arr : Addr) (cl : Cell) (A0 : Arr Z h0 arr cl .byte) (hsz : cl.slots.size = 1) (k0 : Int32) (hk0 : cl.slots[(0 : Int32).toNatClampNeg]? = some (.int k0)) : Go p e below (EndK s (own_Q0 n0) room_1.cells room_1.slots) T0 (mkF m 78 #[.val (.int p0), .val (.int p1), .val (.int p2), .val (.int (1 : Int32)), .val (.ref arr), .unset] []) := by
  have hl : cl.slots.size.toInt32 = (1 : Int32) := by rw [hsz]; rfl
  obtain ⟨T1, h1, X1, e1, E1, A1, D1, -, st1⟩ := newO X0 hx hZ hown (hw _ (List.mem_of_getElem? (i := 1) rfl)) (hw _ (List.mem_of_getElem? (i := 2) rfl)) (hw _ (List.mem_of_getElem? (i := 3) rfl)) e0 (g := (mkF m 78 #[.val (.int p0), .val (.int p1), .val (.int p2), .val (.int (1 : Int32)), .val (.ref arr), .unset] [])) rfl (hb hby at_78) (by decide) (by decide)
  obtain ⟨o1, go1⟩ : ∃ z, z = (h0).size := ⟨_, rfl⟩
  rw [← go1] at A1 D1 st1
  have no1 : n0 ≤ o1 := Nat.le_trans Z0 (Nat.le_of_eq go1.symm)
  have Z1 : n0 ≤ h1.size := Nat.le_trans Z0 E1.1
  have arr_arr_1 := A0.ext E1
  have OLD_1 := O0.ext E1
  have fld_o1_key_1 := D1 (Or.inr (hw _ (List.mem_of_getElem? (i := 11) rfl))) (ty := (.array .byte)) (by decide)
  have fld_o1_position_1 := D1 (Or.inl (hw _ (List.mem_of_getElem? (i := 18) rfl))) (ty := .int) (by decide)
  refine Go.on (g' := (mkF m 81 _ [(.ref o1)])) (st1) ?_
  have hne : arr ≠ o1 := by rw [go1]; exact Nat.ne_of_lt A0.lt
  refine Go.on (g' := (mkF m 82 _ [(.ref o1), (.ref o1)])) (fun t_ k_ => XS.dup X1.here hx rfl (hb hby at_81) rfl rfl k_) ?_
  refine Go.on (g' := (mkF m 84 _ [(.ref arr), (.ref o1), (.ref o1)])) (fun t_ k_ => XS.aload X1.here hx rfl (hb hby at_82) rfl rfl k_) ?_
  refine Go.callI X1 hx hZ hby (by rw [hml]; rfl) (y := (⟨"com/example/sakuin/sakuin/storage/KeyEncoding$Reader", "<init>", "([B)V"⟩ : MethodName)) rfl hown (hw _ (List.mem_of_getElem? (i := 4) rfl)) (hw _ (List.mem_of_getElem? (i := 5) rfl)) (hw _ (List.mem_of_getElem? (i := 6) rfl)) (hw _ (List.mem_of_getElem? (i := 3) rfl)) (by decide) (b := o1) (argsL := [(.ref arr)]) (rest := [(.ref o1)]) (rmI l Z w0 hw [] o1 arr h1 n0 Z1 no1 A1 fld_o1_key_1 fld_o1_position_1) e1 1 (by decide) (by decide) (by decide) (by decide) rfl pdI rfl (Nat.le_of_eq rfl) at_84 (pcF := 87) rfl ?_
  intro v2 T2 L2 X2 hQ2
  obtain ⟨rfl, M2, K2, EE2, FK2, FP2⟩ := hQ2
  have N2 := Fr.app N0 M2
  have Z2 : n0 ≤ T2.heap.size := Nat.le_trans Z1 K2.1
  have O2 := OLD_1.keep K2 (allS no1 all0)
  have AA2 := own_arr arr_arr_1 K2 hne
  have e2 : T2.heap = T2.heap := rfl
  show Go p e below _ _ (mkF m 87 _ [(.ref o1)])
  refine Go.on (g' := (mkF m 89 #[.val (.int p0), .val (.int p1), .val (.int p2), .val (.int (1 : Int32)), .val (.ref arr), .val (.ref o1)] [])) (fun t_ k_ => XS.astore X2.here hx rfl (hb hby at_87) rfl rfl (l' := #[.val (.int p0), .val (.int p1), .val (.int p2), .val (.int (1 : Int32)), .val (.ref arr), .val (.ref o1)]) rfl k_) ?_
  refine Go.on (g' := (mkF m 91 _ [(.ref o1)])) (fun t_ k_ => XS.aload X2.here hx rfl (hb hby at_89) rfl rfl k_) ?_
  refine Go.callV X2 hx hZ hby (by rw [hml]; rfl) (C := "com/example/sakuin/sakuin/storage/KeyEncoding$Reader") (y := (⟨"com/example/sakuin/sakuin/storage/KeyEncoding$Reader", "atEnd", "()Z"⟩ : MethodName)) hown (hw _ (List.mem_of_getElem? (i := 12) rfl)) (hw _ (List.mem_of_getElem? (i := 13) rfl)) (hw _ (List.mem_of_getElem? (i := 15) rfl)) (hw _ (List.mem_of_getElem? (i := 14) rfl)) (hw _ (List.mem_of_getElem? (i := 16) rfl)) (hw _ (List.mem_of_getElem? (i := 3) rfl)) (by decide) (b := o1) (argsL := []) (rest := []) (rmE l Z w0 hw [] o1 arr (0 : Int32) (1 : Int32) (0 : Int32) (by decide) T2.heap FK2 FP2 cl AA2 hl) e2 EE2 0 (by decide) (by decide) (by decide) (by decide) rfl pdE rfl (Nat.le_of_eq rfl) at_91 (pcF := 94) rfl ?_
  intro v3 T3 L3 X3 hQ3
  obtain ⟨rfl, rfl, e3⟩ := hQ3
  rw [List.append_nil] at X3
  show Go p e below _ _ (mkF m 94 _ [(.int (0 : Int32))])
  refine Go.on (g' := (mkF m 95 _ [(.int (1 : Int32)), (.int (0 : Int32))])) (fun t_ k_ => XS.iloadN X3.here hx rfl (hb hby at_94) rfl k_) ?_
  refine Go.ifc X3 hx hby at_95 (pcT := 102) (pcF := 98) (by decide) (by decide) rfl (fun q => ?_) (fun q => absurd q (by decide))
  clear q
  show Go p e below _ _ (mkF m 102 _ [(.int (0 : Int32))])
  refine Go.on (g' := (mkF m 103 _ [(.int (0 : Int32)), (.int (0 : Int32))])) (fun t_ k_ => XS.iconst X3.here hx rfl (hb hby at_102) k_) ?_
  refine Go.icmp X3 hx hby at_103 (pcT := 108) (pcF := 106) (by decide) (by decide) rfl (fun q => ?_) (fun q => absurd q (by decide))
  clear q
  show Go p e below _ _ (mkF m 108 _ [])
  refine Go.on (g' := (mkF m 110 _ [(.ref o1)])) (fun t_ k_ => XS.aload X3.here hx rfl (hb hby at_108) rfl rfl k_) ?_
  refine Go.callV X3 hx hZ hby (by rw [hml]; rfl) (C := "com/example/sakuin/sakuin/storage/KeyEncoding$Reader") (y := (⟨"com/example/sakuin/sakuin/storage/KeyEncoding$Reader", "atEnd", "()Z"⟩ : MethodName)) hown (hw _ (List.mem_of_getElem? (i := 12) rfl)) (hw _ (List.mem_of_getElem? (i := 13) rfl)) (hw _ (List.mem_of_getElem? (i := 15) rfl)) (hw _ (List.mem_of_getElem? (i := 14) rfl)) (hw _ (List.mem_of_getElem? (i := 16) rfl)) (hw _ (List.mem_of_getElem? (i := 3) rfl)) (by decide) (b := o1) (argsL := []) (rest := []) (rmE l Z w0 hw [] o1 arr (0 : Int32) (1 : Int32) (0 : Int32) (by decide) T2.heap FK2 FP2 cl AA2 hl) e3 EE2 0 (by decide) (by decide) (by decide) (by decide) rfl pdE rfl (Nat.le_of_eq rfl) at_110 (pcF := 113) rfl ?_
  intro v4 T4 L4 X4 hQ4
  obtain ⟨rfl, rfl, e4⟩ := hQ4
  rw [List.append_nil] at X4
  show Go p e below _ _ (mkF m 113 _ [(.int (0 : Int32))])
  refine Go.on (g' := (mkF m 114 _ [(.int (1 : Int32)), (.int (0 : Int32))])) (fun t_ k_ => XS.iloadN X4.here hx rfl (hb hby at_113) rfl k_) ?_
  refine Go.ifc X4 hx hby at_114 (pcT := 121) (pcF := 117) (by decide) (by decide) rfl (fun q => ?_) (fun q => absurd q (by decide))
  clear q
  show Go p e below _ _ (mkF m 121 _ [(.int (0 : Int32))])
  refine Go.on (g' := (mkF m 122 _ [(.int (0 : Int32)), (.int (0 : Int32))])) (fun t_ k_ => XS.iconst X4.here hx rfl (hb hby at_121) k_) ?_
  refine Go.icmp X4 hx hby at_122 (pcT := 127) (pcF := 125) (by decide) (by decide) rfl (fun q => ?_) (fun q => absurd q (by decide))
  clear q
  show Go p e below _ _ (mkF m 127 _ [])
  refine Go.on (g' := (mkF m 129 _ [(.ref o1)])) (fun t_ k_ => XS.aload X4.here hx rfl (hb hby at_127) rfl rfl k_) ?_
  refine Go.callV X4 hx hZ hby (by rw [hml]; rfl) (C := "com/example/sakuin/sakuin/storage/KeyEncoding$Reader") (y := (⟨"com/example/sakuin/sakuin/storage/KeyEncoding$Reader", "position", "()I"⟩ : MethodName)) hown (hw _ (List.mem_of_getElem? (i := 19) rfl)) (hw _ (List.mem_of_getElem? (i := 20) rfl)) (hw _ (List.mem_of_getElem? (i := 22) rfl)) (hw _ (List.mem_of_getElem? (i := 21) rfl)) (hw _ (List.mem_of_getElem? (i := 23) rfl)) (hw _ (List.mem_of_getElem? (i := 3) rfl)) (by decide) (b := o1) (argsL := []) (rest := []) (rmP l Z w0 hw [] o1 (0 : Int32) T2.heap FP2) e4 EE2 0 (by decide) (by decide) (by decide) (by decide) rfl pdP rfl (Nat.le_of_eq rfl) at_129 (pcF := 132) rfl ?_
  intro v5 T5 L5 X5 hQ5
  obtain ⟨rfl, rfl, e5⟩ := hQ5
  rw [List.append_nil] at X5
  show Go p e below _ _ (mkF m 132 _ [(.int (0 : Int32))])
  refine Go.ifc X5 hx hby at_132 (pcT := 137) (pcF := 135) (by decide) (by decide) rfl (fun q => ?_) (fun q => absurd q (by decide))
  clear q
  show Go p e below _ _ (mkF m 137 _ [])
  refine Go.on (g' := (mkF m 138 _ [(.int (1 : Int32))])) (fun t_ k_ => XS.iloadN X5.here hx rfl (hb hby at_137) rfl k_) ?_
  refine Go.ifc X5 hx hby at_138 (pcT := 149) (pcF := 141) (by decide) (by decide) rfl (fun q => absurd q (by decide)) (fun q => ?_)
  clear q
  show Go p e below _ _ (mkF m 141 _ [])
  refine Go.on (g' := (mkF m 143 _ [(.ref arr)])) (fun t_ k_ => XS.aload X5.here hx rfl (hb hby at_141) rfl rfl k_) ?_
  refine Go.on (g' := (mkF m 144 _ [(.int (0 : Int32)), (.ref arr)])) (fun t_ k_ => XS.iconst X5.here hx rfl (hb hby at_143) k_) ?_
  refine Go.on (g' := (mkF m 145 _ [(.int k0)])) (X5.baloadBytes hx (j := (0 : Int32)) (v := (.int k0)) (by rw [e5]; exact AA2.1) (State.isArrayOf_alike hZ.alike AA2.2.1) AA2.2.2 (by rw [hsz]; decide) hk0 (g := (mkF m 144 #[.val (.int p0), .val (.int p1), .val (.int p2), .val (.int (1 : Int32)), .val (.ref arr), .val (.ref o1)] [(.int (0 : Int32)), (.ref arr)])) rfl rfl (hb hby at_144)) ?_
  refine Go.on (g' := (mkF m 146 _ [(.int (2 : Int32)), (.int k0)])) (fun t_ k_ => XS.iconst X5.here hx rfl (hb hby at_145) k_) ?_
  refine Go.icmp X5 hx hby at_146 (pcT := 151) (pcF := 149) (by decide) (by decide) rfl (fun q => ?_) (fun q => ?_)
  · have q1 := iEq.1 q
    clear q
    show Go p e below _ _ (mkF m 151 _ [])
    refine Go.on (g' := (mkF m 153 _ [(.ref o1)])) (fun t_ k_ => XS.aload X5.here hx rfl (hb hby at_151) rfl rfl k_) ?_
    refine Go.callV X5 hx hZ hby (by rw [hml]; rfl) (C := "com/example/sakuin/sakuin/storage/KeyEncoding$Reader") (y := (⟨"com/example/sakuin/sakuin/storage/KeyEncoding$Reader", "number", "()Ljava/math/BigDecimal;"⟩ : MethodName)) hown (hw _ (List.mem_of_getElem? (i := 24) rfl)) (hw _ (List.mem_of_getElem? (i := 25) rfl)) (hw _ (List.mem_of_getElem? (i := 27) rfl)) (hw _ (List.mem_of_getElem? (i := 26) rfl)) (hw _ (List.mem_of_getElem? (i := 28) rfl)) (hw _ (List.mem_of_getElem? (i := 3) rfl)) (by decide) (b := o1) (argsL := []) (rest := []) (rmN l Z w0 hw [] o1 arr (0 : Int32) (1 : Int32) 2 (by decide) (by decide) T2.heap n0 Z2 no1 EE2 FK2 FP2 cl AA2 hl hne (by rw [hsz]; decide) (by have z := hk0; rw [q1] at z; exact z) zd S0 O2) e5 EE2 0 (by decide) (by decide) (by decide) (by decide) rfl pdN rfl (Nat.le_of_eq rfl) at_153 (pcF := 156) rfl ?_
    intro v6 T6 L6 X6 hQ6
    obtain ⟨rfl, M6, K6, EE6, FK6, FP6⟩ := hQ6
    have N6 := Fr.app N2 M6
    have Z6 : n0 ≤ T6.heap.size := Nat.le_trans Z2 K6.1
    have O6 := O2.keep K6 (allS no1 all0)
    have AA6 := own_arr AA2 K6 hne
    have e6 : T6.heap = T6.heap := rfl
    show Go p e below _ _ (mkF m 156 _ [(.ref zd)])
    refine Go.on (g' := (mkF m 157 _ [])) (fun t_ k_ => XT.pop X6.here hx rfl (hb hby at_156) rfl rfl k_) ?_
    refine Go.on (g' := (mkF m 159 _ [(.ref o1)])) (fun t_ k_ => XS.aload X6.here hx rfl (hb hby at_157) rfl rfl k_) ?_
    refine Go.callV X6 hx hZ hby (by rw [hml]; rfl) (C := "com/example/sakuin/sakuin/storage/KeyEncoding$Reader") (y := (⟨"com/example/sakuin/sakuin/storage/KeyEncoding$Reader", "position", "()I"⟩ : MethodName)) hown (hw _ (List.mem_of_getElem? (i := 19) rfl)) (hw _ (List.mem_of_getElem? (i := 20) rfl)) (hw _ (List.mem_of_getElem? (i := 22) rfl)) (hw _ (List.mem_of_getElem? (i := 21) rfl)) (hw _ (List.mem_of_getElem? (i := 23) rfl)) (hw _ (List.mem_of_getElem? (i := 3) rfl)) (by decide) (b := o1) (argsL := []) (rest := []) (rmP l Z w0 hw [] o1 (1 : Int32) T6.heap FP6) e6 EE6 0 (by decide) (by decide) (by decide) (by decide) rfl pdP rfl (Nat.le_of_eq rfl) at_159 (pcF := 162) rfl ?_
    intro v7 T7 L7 X7 hQ7
    obtain ⟨rfl, rfl, e7⟩ := hQ7
    rw [List.append_nil] at X7
    show Go p e below _ _ (mkF m 162 _ [(.int (1 : Int32))])
    refine Go.on (g' := (mkF m 163 _ [(.int (1 : Int32)), (.int (1 : Int32))])) (fun t_ k_ => XS.iconst X7.here hx rfl (hb hby at_162) k_) ?_
    refine Go.icmp X7 hx hby at_163 (pcT := 168) (pcF := 166) (by decide) (by decide) rfl (fun q => ?_) (fun q => absurd q (by decide))
    clear q
    show Go p e below _ _ (mkF m 168 _ [])
    refine Go.on (g' := (mkF m 170 _ [(.ref o1)])) (fun t_ k_ => XS.aload X7.here hx rfl (hb hby at_168) rfl rfl k_) ?_
    refine Go.callV X7 hx hZ hby (by rw [hml]; rfl) (C := "com/example/sakuin/sakuin/storage/KeyEncoding$Reader") (y := (⟨"com/example/sakuin/sakuin/storage/KeyEncoding$Reader", "atEnd", "()Z"⟩ : MethodName)) hown (hw _ (List.mem_of_getElem? (i := 12) rfl)) (hw _ (List.mem_of_getElem? (i := 13) rfl)) (hw _ (List.mem_of_getElem? (i := 15) rfl)) (hw _ (List.mem_of_getElem? (i := 14) rfl)) (hw _ (List.mem_of_getElem? (i := 16) rfl)) (hw _ (List.mem_of_getElem? (i := 3) rfl)) (by decide) (b := o1) (argsL := []) (rest := []) (rmE l Z w0 hw [] o1 arr (1 : Int32) (1 : Int32) (1 : Int32) (by decide) T6.heap FK6 FP6 cl AA6 hl) e7 EE6 0 (by decide) (by decide) (by decide) (by decide) rfl pdE rfl (Nat.le_of_eq rfl) at_170 (pcF := 173) rfl ?_
    intro v8 T8 L8 X8 hQ8
    obtain ⟨rfl, rfl, e8⟩ := hQ8
    rw [List.append_nil] at X8
    show Go p e below _ _ (mkF m 173 _ [(.int (1 : Int32))])
    refine Go.on (g' := (mkF m 174 _ [(.int (1 : Int32)), (.int (1 : Int32))])) (fun t_ k_ => XS.iloadN X8.here hx rfl (hb hby at_173) rfl k_) ?_
    refine Go.on (g' := (mkF m 175 _ [(.int (1 : Int32)), (.int (1 : Int32)), (.int (1 : Int32))])) (fun t_ k_ => XS.iconst X8.here hx rfl (hb hby at_174) k_) ?_
    refine Go.icmp X8 hx hby at_175 (pcT := 182) (pcF := 178) (by decide) (by decide) rfl (fun q => absurd q (by decide)) (fun q => ?_)
    clear q
    show Go p e below _ _ (mkF m 178 _ [(.int (1 : Int32))])
    refine Go.on (g' := (mkF m 179 _ [(.int (1 : Int32)), (.int (1 : Int32))])) (fun t_ k_ => XS.iconst X8.here hx rfl (hb hby at_178) k_) ?_
    refine Go.on (g' := (mkF m 183 _ [(.int (1 : Int32)), (.int (1 : Int32))])) (fun t_ k_ => XS.goto X8.here hx rfl (pc0 := 179) (pc' := 183) rfl (hb hby at_179) (by decide) (by decide) k_) ?_
    refine Go.icmp X8 hx hby at_183 (pcT := 188) (pcF := 186) (by decide) (by decide) rfl (fun q => ?_) (fun q => absurd q (by decide))
    clear q
    show Go p e below _ _ (mkF m 188 _ [])
    refine Go.on (g' := (mkF m 189 _ [(.int (1 : Int32))])) (fun t_ k_ => XS.iloadN X8.here hx rfl (hb hby at_188) rfl k_) ?_
    refine Go.on (g' := (mkF m 190 _ [(.int (1 : Int32)), (.int (1 : Int32))])) (fun t_ k_ => XS.iconst X8.here hx rfl (hb hby at_189) k_) ?_
    refine Go.icmp X8 hx hby at_190 (pcT := 201) (pcF := 193) (by decide) (by decide) rfl (fun q => ?_) (fun q => absurd q (by decide))
    clear q
    show Go p e below _ _ (mkF m 201 _ [])
    refine Go.on (g' := (mkF m 202 _ [(.int (1 : Int32))])) (fun t_ k_ => XS.iconst X8.here hx rfl (hb hby at_201) k_) ?_
    exact Go.retI X8 hx hlk hret hby at_202 rfl (by simp) (by decide) (by decide) ⟨rfl, N6⟩
  · have q1 := iEq.2 q
    clear q
    show Go p e below _ _ (mkF m 149 _ [])
    refine Go.on (g' := (mkF m 150 _ [(.int (1 : Int32))])) (fun t_ k_ => XS.iconst X5.here hx rfl (hb hby at_149) k_) ?_
    exact Go.retI X5 hx hlk hret hby at_150 rfl (by simp) (by decide) (by decide) ⟨rfl, N2⟩
set_option maxRecDepth 65536 in
set_option maxHeartbeats 40000000 in
theorem tl2 (l : Launch) (Z : State) (w0 : Array Value) (hw : ∀ d ∈ tables_1, d.before w0 Z = true) (ws : List Jvm.Cond) (zd : Addr) (S0 : Sta Z Z.heap "java/math/BigDecimal" "ZERO" "Ljava/math/BigDecimal;" (.ref zd)) (p0 p1 p2 : Int32) (p : Program) (e : Env) (s : State) (m : MethodId) (below : List Frame) (meth : Method) (c : Code) (T0 : State) (locs : List Loc) (X0 : Stand p l e room_1 s m #[.int p0, .int p1, .int p2] below meth c T0 locs 1 2) (hx : p.tables.exec = Jvm.exec) (hby : c.code = code) (hml : c.maxLocals = maxLocals) (hret : meth.sig.returnType = ret) (hlk : meth.locks = false) (hown : s.vm.findClass "com/example/sakuin/sakuin/storage/ReaderAtEndPinLaw" = some m.cls) (hZ : Z.Warmed39 s.vm) (h0 : Heap) (e0 : T0.heap = h0) (n0 : Nat) (Z0 : n0 ≤ h0.size) (N0 : Fr n0 locs) (O0 : Old Z n0 h0) (arr : Addr) (cl : Cell) (A0 : Arr Z h0 arr cl .byte) (hsz : cl.slots.size = 2) (k0 : Int32) (hk0 : cl.slots[(0 : Int32).toNatClampNeg]? = some (.int k0)) (k1 : Int32) (hk1 : cl.slots[(1 : Int32).toNatClampNeg]? = some (.int k1)) : Go p e below (EndK s (own_Q0 n0) room_1.cells room_1.slots) T0 (mkF m 78 #[.val (.int p0), .val (.int p1), .val (.int p2), .val (.int (2 : Int32)), .val (.ref arr), .unset] []) := by
  have hl : cl.slots.size.toInt32 = (2 : Int32) := by rw [hsz]; rfl
  obtain ⟨T1, h1, X1, e1, E1, A1, D1, -, st1⟩ := newO X0 hx hZ hown (hw _ (List.mem_of_getElem? (i := 1) rfl)) (hw _ (List.mem_of_getElem? (i := 2) rfl)) (hw _ (List.mem_of_getElem? (i := 3) rfl)) e0 (g := (mkF m 78 #[.val (.int p0), .val (.int p1), .val (.int p2), .val (.int (2 : Int32)), .val (.ref arr), .unset] [])) rfl (hb hby at_78) (by decide) (by decide)
  obtain ⟨o1, go1⟩ : ∃ z, z = (h0).size := ⟨_, rfl⟩
  rw [← go1] at A1 D1 st1
  have no1 : n0 ≤ o1 := Nat.le_trans Z0 (Nat.le_of_eq go1.symm)
  have Z1 : n0 ≤ h1.size := Nat.le_trans Z0 E1.1
  have arr_arr_1 := A0.ext E1
  have OLD_1 := O0.ext E1
  have fld_o1_key_1 := D1 (Or.inr (hw _ (List.mem_of_getElem? (i := 11) rfl))) (ty := (.array .byte)) (by decide)
  have fld_o1_position_1 := D1 (Or.inl (hw _ (List.mem_of_getElem? (i := 18) rfl))) (ty := .int) (by decide)
  refine Go.on (g' := (mkF m 81 _ [(.ref o1)])) (st1) ?_
  have hne : arr ≠ o1 := by rw [go1]; exact Nat.ne_of_lt A0.lt
  refine Go.on (g' := (mkF m 82 _ [(.ref o1), (.ref o1)])) (fun t_ k_ => XS.dup X1.here hx rfl (hb hby at_81) rfl rfl k_) ?_
  refine Go.on (g' := (mkF m 84 _ [(.ref arr), (.ref o1), (.ref o1)])) (fun t_ k_ => XS.aload X1.here hx rfl (hb hby at_82) rfl rfl k_) ?_
  refine Go.callI X1 hx hZ hby (by rw [hml]; rfl) (y := (⟨"com/example/sakuin/sakuin/storage/KeyEncoding$Reader", "<init>", "([B)V"⟩ : MethodName)) rfl hown (hw _ (List.mem_of_getElem? (i := 4) rfl)) (hw _ (List.mem_of_getElem? (i := 5) rfl)) (hw _ (List.mem_of_getElem? (i := 6) rfl)) (hw _ (List.mem_of_getElem? (i := 3) rfl)) (by decide) (b := o1) (argsL := [(.ref arr)]) (rest := [(.ref o1)]) (rmI l Z w0 hw [] o1 arr h1 n0 Z1 no1 A1 fld_o1_key_1 fld_o1_position_1) e1 1 (by decide) (by decide) (by decide) (by decide) rfl pdI rfl (Nat.le_of_eq rfl) at_84 (pcF := 87) rfl ?_
  intro v2 T2 L2 X2 hQ2
  obtain ⟨rfl, M2, K2, EE2, FK2, FP2⟩ := hQ2
  have N2 := Fr.app N0 M2
  have Z2 : n0 ≤ T2.heap.size := Nat.le_trans Z1 K2.1
  have O2 := OLD_1.keep K2 (allS no1 all0)
  have AA2 := own_arr arr_arr_1 K2 hne
  have e2 : T2.heap = T2.heap := rfl
  show Go p e below _ _ (mkF m 87 _ [(.ref o1)])
  refine Go.on (g' := (mkF m 89 #[.val (.int p0), .val (.int p1), .val (.int p2), .val (.int (2 : Int32)), .val (.ref arr), .val (.ref o1)] [])) (fun t_ k_ => XS.astore X2.here hx rfl (hb hby at_87) rfl rfl (l' := #[.val (.int p0), .val (.int p1), .val (.int p2), .val (.int (2 : Int32)), .val (.ref arr), .val (.ref o1)]) rfl k_) ?_
  refine Go.on (g' := (mkF m 91 _ [(.ref o1)])) (fun t_ k_ => XS.aload X2.here hx rfl (hb hby at_89) rfl rfl k_) ?_
  refine Go.callV X2 hx hZ hby (by rw [hml]; rfl) (C := "com/example/sakuin/sakuin/storage/KeyEncoding$Reader") (y := (⟨"com/example/sakuin/sakuin/storage/KeyEncoding$Reader", "atEnd", "()Z"⟩ : MethodName)) hown (hw _ (List.mem_of_getElem? (i := 12) rfl)) (hw _ (List.mem_of_getElem? (i := 13) rfl)) (hw _ (List.mem_of_getElem? (i := 15) rfl)) (hw _ (List.mem_of_getElem? (i := 14) rfl)) (hw _ (List.mem_of_getElem? (i := 16) rfl)) (hw _ (List.mem_of_getElem? (i := 3) rfl)) (by decide) (b := o1) (argsL := []) (rest := []) (rmE l Z w0 hw [] o1 arr (0 : Int32) (2 : Int32) (0 : Int32) (by decide) T2.heap FK2 FP2 cl AA2 hl) e2 EE2 0 (by decide) (by decide) (by decide) (by decide) rfl pdE rfl (Nat.le_of_eq rfl) at_91 (pcF := 94) rfl ?_
  intro v3 T3 L3 X3 hQ3
  obtain ⟨rfl, rfl, e3⟩ := hQ3
  rw [List.append_nil] at X3
  show Go p e below _ _ (mkF m 94 _ [(.int (0 : Int32))])
  refine Go.on (g' := (mkF m 95 _ [(.int (2 : Int32)), (.int (0 : Int32))])) (fun t_ k_ => XS.iloadN X3.here hx rfl (hb hby at_94) rfl k_) ?_
  refine Go.ifc X3 hx hby at_95 (pcT := 102) (pcF := 98) (by decide) (by decide) rfl (fun q => ?_) (fun q => absurd q (by decide))
  clear q
  show Go p e below _ _ (mkF m 102 _ [(.int (0 : Int32))])
  refine Go.on (g' := (mkF m 103 _ [(.int (0 : Int32)), (.int (0 : Int32))])) (fun t_ k_ => XS.iconst X3.here hx rfl (hb hby at_102) k_) ?_
  refine Go.icmp X3 hx hby at_103 (pcT := 108) (pcF := 106) (by decide) (by decide) rfl (fun q => ?_) (fun q => absurd q (by decide))
  clear q
  show Go p e below _ _ (mkF m 108 _ [])
  refine Go.on (g' := (mkF m 110 _ [(.ref o1)])) (fun t_ k_ => XS.aload X3.here hx rfl (hb hby at_108) rfl rfl k_) ?_
  refine Go.callV X3 hx hZ hby (by rw [hml]; rfl) (C := "com/example/sakuin/sakuin/storage/KeyEncoding$Reader") (y := (⟨"com/example/sakuin/sakuin/storage/KeyEncoding$Reader", "atEnd", "()Z"⟩ : MethodName)) hown (hw _ (List.mem_of_getElem? (i := 12) rfl)) (hw _ (List.mem_of_getElem? (i := 13) rfl)) (hw _ (List.mem_of_getElem? (i := 15) rfl)) (hw _ (List.mem_of_getElem? (i := 14) rfl)) (hw _ (List.mem_of_getElem? (i := 16) rfl)) (hw _ (List.mem_of_getElem? (i := 3) rfl)) (by decide) (b := o1) (argsL := []) (rest := []) (rmE l Z w0 hw [] o1 arr (0 : Int32) (2 : Int32) (0 : Int32) (by decide) T2.heap FK2 FP2 cl AA2 hl) e3 EE2 0 (by decide) (by decide) (by decide) (by decide) rfl pdE rfl (Nat.le_of_eq rfl) at_110 (pcF := 113) rfl ?_
  intro v4 T4 L4 X4 hQ4
  obtain ⟨rfl, rfl, e4⟩ := hQ4
  rw [List.append_nil] at X4
  show Go p e below _ _ (mkF m 113 _ [(.int (0 : Int32))])
  refine Go.on (g' := (mkF m 114 _ [(.int (2 : Int32)), (.int (0 : Int32))])) (fun t_ k_ => XS.iloadN X4.here hx rfl (hb hby at_113) rfl k_) ?_
  refine Go.ifc X4 hx hby at_114 (pcT := 121) (pcF := 117) (by decide) (by decide) rfl (fun q => ?_) (fun q => absurd q (by decide))
  clear q
  show Go p e below _ _ (mkF m 121 _ [(.int (0 : Int32))])
  refine Go.on (g' := (mkF m 122 _ [(.int (0 : Int32)), (.int (0 : Int32))])) (fun t_ k_ => XS.iconst X4.here hx rfl (hb hby at_121) k_) ?_
  refine Go.icmp X4 hx hby at_122 (pcT := 127) (pcF := 125) (by decide) (by decide) rfl (fun q => ?_) (fun q => absurd q (by decide))
  clear q
  show Go p e below _ _ (mkF m 127 _ [])
  refine Go.on (g' := (mkF m 129 _ [(.ref o1)])) (fun t_ k_ => XS.aload X4.here hx rfl (hb hby at_127) rfl rfl k_) ?_
  refine Go.callV X4 hx hZ hby (by rw [hml]; rfl) (C := "com/example/sakuin/sakuin/storage/KeyEncoding$Reader") (y := (⟨"com/example/sakuin/sakuin/storage/KeyEncoding$Reader", "position", "()I"⟩ : MethodName)) hown (hw _ (List.mem_of_getElem? (i := 19) rfl)) (hw _ (List.mem_of_getElem? (i := 20) rfl)) (hw _ (List.mem_of_getElem? (i := 22) rfl)) (hw _ (List.mem_of_getElem? (i := 21) rfl)) (hw _ (List.mem_of_getElem? (i := 23) rfl)) (hw _ (List.mem_of_getElem? (i := 3) rfl)) (by decide) (b := o1) (argsL := []) (rest := []) (rmP l Z w0 hw [] o1 (0 : Int32) T2.heap FP2) e4 EE2 0 (by decide) (by decide) (by decide) (by decide) rfl pdP rfl (Nat.le_of_eq rfl) at_129 (pcF := 132) rfl ?_
  intro v5 T5 L5 X5 hQ5
  obtain ⟨rfl, rfl, e5⟩ := hQ5
  rw [List.append_nil] at X5
  show Go p e below _ _ (mkF m 132 _ [(.int (0 : Int32))])
  refine Go.ifc X5 hx hby at_132 (pcT := 137) (pcF := 135) (by decide) (by decide) rfl (fun q => ?_) (fun q => absurd q (by decide))
  clear q
  show Go p e below _ _ (mkF m 137 _ [])
  refine Go.on (g' := (mkF m 138 _ [(.int (2 : Int32))])) (fun t_ k_ => XS.iloadN X5.here hx rfl (hb hby at_137) rfl k_) ?_
  refine Go.ifc X5 hx hby at_138 (pcT := 149) (pcF := 141) (by decide) (by decide) rfl (fun q => absurd q (by decide)) (fun q => ?_)
  clear q
  show Go p e below _ _ (mkF m 141 _ [])
  refine Go.on (g' := (mkF m 143 _ [(.ref arr)])) (fun t_ k_ => XS.aload X5.here hx rfl (hb hby at_141) rfl rfl k_) ?_
  refine Go.on (g' := (mkF m 144 _ [(.int (0 : Int32)), (.ref arr)])) (fun t_ k_ => XS.iconst X5.here hx rfl (hb hby at_143) k_) ?_
  refine Go.on (g' := (mkF m 145 _ [(.int k0)])) (X5.baloadBytes hx (j := (0 : Int32)) (v := (.int k0)) (by rw [e5]; exact AA2.1) (State.isArrayOf_alike hZ.alike AA2.2.1) AA2.2.2 (by rw [hsz]; decide) hk0 (g := (mkF m 144 #[.val (.int p0), .val (.int p1), .val (.int p2), .val (.int (2 : Int32)), .val (.ref arr), .val (.ref o1)] [(.int (0 : Int32)), (.ref arr)])) rfl rfl (hb hby at_144)) ?_
  refine Go.on (g' := (mkF m 146 _ [(.int (2 : Int32)), (.int k0)])) (fun t_ k_ => XS.iconst X5.here hx rfl (hb hby at_145) k_) ?_
  refine Go.icmp X5 hx hby at_146 (pcT := 151) (pcF := 149) (by decide) (by decide) rfl (fun q => ?_) (fun q => ?_)
  · have q1 := iEq.1 q
    clear q
    show Go p e below _ _ (mkF m 151 _ [])
    refine Go.on (g' := (mkF m 153 _ [(.ref o1)])) (fun t_ k_ => XS.aload X5.here hx rfl (hb hby at_151) rfl rfl k_) ?_
    refine Go.callV X5 hx hZ hby (by rw [hml]; rfl) (C := "com/example/sakuin/sakuin/storage/KeyEncoding$Reader") (y := (⟨"com/example/sakuin/sakuin/storage/KeyEncoding$Reader", "number", "()Ljava/math/BigDecimal;"⟩ : MethodName)) hown (hw _ (List.mem_of_getElem? (i := 24) rfl)) (hw _ (List.mem_of_getElem? (i := 25) rfl)) (hw _ (List.mem_of_getElem? (i := 27) rfl)) (hw _ (List.mem_of_getElem? (i := 26) rfl)) (hw _ (List.mem_of_getElem? (i := 28) rfl)) (hw _ (List.mem_of_getElem? (i := 3) rfl)) (by decide) (b := o1) (argsL := []) (rest := []) (rmN l Z w0 hw [] o1 arr (0 : Int32) (2 : Int32) 2 (by decide) (by decide) T2.heap n0 Z2 no1 EE2 FK2 FP2 cl AA2 hl hne (by rw [hsz]; decide) (by have z := hk0; rw [q1] at z; exact z) zd S0 O2) e5 EE2 0 (by decide) (by decide) (by decide) (by decide) rfl pdN rfl (Nat.le_of_eq rfl) at_153 (pcF := 156) rfl ?_
    intro v6 T6 L6 X6 hQ6
    obtain ⟨rfl, M6, K6, EE6, FK6, FP6⟩ := hQ6
    have N6 := Fr.app N2 M6
    have Z6 : n0 ≤ T6.heap.size := Nat.le_trans Z2 K6.1
    have O6 := O2.keep K6 (allS no1 all0)
    have AA6 := own_arr AA2 K6 hne
    have e6 : T6.heap = T6.heap := rfl
    show Go p e below _ _ (mkF m 156 _ [(.ref zd)])
    refine Go.on (g' := (mkF m 157 _ [])) (fun t_ k_ => XT.pop X6.here hx rfl (hb hby at_156) rfl rfl k_) ?_
    refine Go.on (g' := (mkF m 159 _ [(.ref o1)])) (fun t_ k_ => XS.aload X6.here hx rfl (hb hby at_157) rfl rfl k_) ?_
    refine Go.callV X6 hx hZ hby (by rw [hml]; rfl) (C := "com/example/sakuin/sakuin/storage/KeyEncoding$Reader") (y := (⟨"com/example/sakuin/sakuin/storage/KeyEncoding$Reader", "position", "()I"⟩ : MethodName)) hown (hw _ (List.mem_of_getElem? (i := 19) rfl)) (hw _ (List.mem_of_getElem? (i := 20) rfl)) (hw _ (List.mem_of_getElem? (i := 22) rfl)) (hw _ (List.mem_of_getElem? (i := 21) rfl)) (hw _ (List.mem_of_getElem? (i := 23) rfl)) (hw _ (List.mem_of_getElem? (i := 3) rfl)) (by decide) (b := o1) (argsL := []) (rest := []) (rmP l Z w0 hw [] o1 (1 : Int32) T6.heap FP6) e6 EE6 0 (by decide) (by decide) (by decide) (by decide) rfl pdP rfl (Nat.le_of_eq rfl) at_159 (pcF := 162) rfl ?_
    intro v7 T7 L7 X7 hQ7
    obtain ⟨rfl, rfl, e7⟩ := hQ7
    rw [List.append_nil] at X7
    show Go p e below _ _ (mkF m 162 _ [(.int (1 : Int32))])
    refine Go.on (g' := (mkF m 163 _ [(.int (1 : Int32)), (.int (1 : Int32))])) (fun t_ k_ => XS.iconst X7.here hx rfl (hb hby at_162) k_) ?_
    refine Go.icmp X7 hx hby at_163 (pcT := 168) (pcF := 166) (by decide) (by decide) rfl (fun q => ?_) (fun q => absurd q (by decide))
    clear q
    show Go p e below _ _ (mkF m 168 _ [])
    refine Go.on (g' := (mkF m 170 _ [(.ref o1)])) (fun t_ k_ => XS.aload X7.here hx rfl (hb hby at_168) rfl rfl k_) ?_
    refine Go.callV X7 hx hZ hby (by rw [hml]; rfl) (C := "com/example/sakuin/sakuin/storage/KeyEncoding$Reader") (y := (⟨"com/example/sakuin/sakuin/storage/KeyEncoding$Reader", "atEnd", "()Z"⟩ : MethodName)) hown (hw _ (List.mem_of_getElem? (i := 12) rfl)) (hw _ (List.mem_of_getElem? (i := 13) rfl)) (hw _ (List.mem_of_getElem? (i := 15) rfl)) (hw _ (List.mem_of_getElem? (i := 14) rfl)) (hw _ (List.mem_of_getElem? (i := 16) rfl)) (hw _ (List.mem_of_getElem? (i := 3) rfl)) (by decide) (b := o1) (argsL := []) (rest := []) (rmE l Z w0 hw [] o1 arr (1 : Int32) (2 : Int32) (0 : Int32) (by decide) T6.heap FK6 FP6 cl AA6 hl) e7 EE6 0 (by decide) (by decide) (by decide) (by decide) rfl pdE rfl (Nat.le_of_eq rfl) at_170 (pcF := 173) rfl ?_
    intro v8 T8 L8 X8 hQ8
    obtain ⟨rfl, rfl, e8⟩ := hQ8
    rw [List.append_nil] at X8
    show Go p e below _ _ (mkF m 173 _ [(.int (0 : Int32))])
    refine Go.on (g' := (mkF m 174 _ [(.int (2 : Int32)), (.int (0 : Int32))])) (fun t_ k_ => XS.iloadN X8.here hx rfl (hb hby at_173) rfl k_) ?_
    refine Go.on (g' := (mkF m 175 _ [(.int (1 : Int32)), (.int (2 : Int32)), (.int (0 : Int32))])) (fun t_ k_ => XS.iconst X8.here hx rfl (hb hby at_174) k_) ?_
    refine Go.icmp X8 hx hby at_175 (pcT := 182) (pcF := 178) (by decide) (by decide) rfl (fun q => ?_) (fun q => absurd q (by decide))
    clear q
    show Go p e below _ _ (mkF m 182 _ [(.int (0 : Int32))])
    refine Go.on (g' := (mkF m 183 _ [(.int (0 : Int32)), (.int (0 : Int32))])) (fun t_ k_ => XS.iconst X8.here hx rfl (hb hby at_182) k_) ?_
    refine Go.icmp X8 hx hby at_183 (pcT := 188) (pcF := 186) (by decide) (by decide) rfl (fun q => ?_) (fun q => absurd q (by decide))
    clear q
    show Go p e below _ _ (mkF m 188 _ [])
    refine Go.on (g' := (mkF m 189 _ [(.int (2 : Int32))])) (fun t_ k_ => XS.iloadN X8.here hx rfl (hb hby at_188) rfl k_) ?_
    refine Go.on (g' := (mkF m 190 _ [(.int (1 : Int32)), (.int (2 : Int32))])) (fun t_ k_ => XS.iconst X8.here hx rfl (hb hby at_189) k_) ?_
    refine Go.icmp X8 hx hby at_190 (pcT := 201) (pcF := 193) (by decide) (by decide) rfl (fun q => absurd q (by decide)) (fun q => ?_)
    clear q
    show Go p e below _ _ (mkF m 193 _ [])
    refine Go.on (g' := (mkF m 195 _ [(.ref arr)])) (fun t_ k_ => XS.aload X8.here hx rfl (hb hby at_193) rfl rfl k_) ?_
    refine Go.on (g' := (mkF m 196 _ [(.int (1 : Int32)), (.ref arr)])) (fun t_ k_ => XS.iconst X8.here hx rfl (hb hby at_195) k_) ?_
    refine Go.on (g' := (mkF m 197 _ [(.int k1)])) (X8.baloadBytes hx (j := (1 : Int32)) (v := (.int k1)) (by rw [e8]; exact AA6.1) (State.isArrayOf_alike hZ.alike AA6.2.1) AA6.2.2 (by rw [hsz]; decide) hk1 (g := (mkF m 196 #[.val (.int p0), .val (.int p1), .val (.int p2), .val (.int (2 : Int32)), .val (.ref arr), .val (.ref o1)] [(.int (1 : Int32)), (.ref arr)])) rfl rfl (hb hby at_196)) ?_
    refine Go.on (g' := (mkF m 198 _ [(.int (2 : Int32)), (.int k1)])) (fun t_ k_ => XS.iconst X8.here hx rfl (hb hby at_197) k_) ?_
    refine Go.icmp X8 hx hby at_198 (pcT := 203) (pcF := 201) (by decide) (by decide) rfl (fun q => ?_) (fun q => ?_)
    · have q2 := iEq.1 q
      clear q
      show Go p e below _ _ (mkF m 203 _ [])
      refine Go.on (g' := (mkF m 205 _ [(.ref o1)])) (fun t_ k_ => XS.aload X8.here hx rfl (hb hby at_203) rfl rfl k_) ?_
      refine Go.callV X8 hx hZ hby (by rw [hml]; rfl) (C := "com/example/sakuin/sakuin/storage/KeyEncoding$Reader") (y := (⟨"com/example/sakuin/sakuin/storage/KeyEncoding$Reader", "number", "()Ljava/math/BigDecimal;"⟩ : MethodName)) hown (hw _ (List.mem_of_getElem? (i := 24) rfl)) (hw _ (List.mem_of_getElem? (i := 25) rfl)) (hw _ (List.mem_of_getElem? (i := 27) rfl)) (hw _ (List.mem_of_getElem? (i := 26) rfl)) (hw _ (List.mem_of_getElem? (i := 28) rfl)) (hw _ (List.mem_of_getElem? (i := 3) rfl)) (by decide) (b := o1) (argsL := []) (rest := []) (rmN l Z w0 hw [] o1 arr (1 : Int32) (2 : Int32) 2 (by decide) (by decide) T6.heap n0 Z6 no1 EE6 FK6 FP6 cl AA6 hl hne (by rw [hsz]; decide) (by have z := hk1; rw [q2] at z; exact z) zd S0 O6) e8 EE6 0 (by decide) (by decide) (by decide) (by decide) rfl pdN rfl (Nat.le_of_eq rfl) at_205 (pcF := 208) rfl ?_
      intro v9 T9 L9 X9 hQ9
      obtain ⟨rfl, M9, K9, EE9, FK9, FP9⟩ := hQ9
      have N9 := Fr.app N6 M9
      have Z9 : n0 ≤ T9.heap.size := Nat.le_trans Z6 K9.1
      have O9 := O6.keep K9 (allS no1 all0)
      have AA9 := own_arr AA6 K9 hne
      have e9 : T9.heap = T9.heap := rfl
      show Go p e below _ _ (mkF m 208 _ [(.ref zd)])
      refine Go.on (g' := (mkF m 209 _ [])) (fun t_ k_ => XT.pop X9.here hx rfl (hb hby at_208) rfl rfl k_) ?_
      refine Go.on (g' := (mkF m 211 _ [(.ref o1)])) (fun t_ k_ => XS.aload X9.here hx rfl (hb hby at_209) rfl rfl k_) ?_
      refine Go.callV X9 hx hZ hby (by rw [hml]; rfl) (C := "com/example/sakuin/sakuin/storage/KeyEncoding$Reader") (y := (⟨"com/example/sakuin/sakuin/storage/KeyEncoding$Reader", "position", "()I"⟩ : MethodName)) hown (hw _ (List.mem_of_getElem? (i := 19) rfl)) (hw _ (List.mem_of_getElem? (i := 20) rfl)) (hw _ (List.mem_of_getElem? (i := 22) rfl)) (hw _ (List.mem_of_getElem? (i := 21) rfl)) (hw _ (List.mem_of_getElem? (i := 23) rfl)) (hw _ (List.mem_of_getElem? (i := 3) rfl)) (by decide) (b := o1) (argsL := []) (rest := []) (rmP l Z w0 hw [] o1 (2 : Int32) T9.heap FP9) e9 EE9 0 (by decide) (by decide) (by decide) (by decide) rfl pdP rfl (Nat.le_of_eq rfl) at_211 (pcF := 214) rfl ?_
      intro v10 T10 L10 X10 hQ10
      obtain ⟨rfl, rfl, e10⟩ := hQ10
      rw [List.append_nil] at X10
      show Go p e below _ _ (mkF m 214 _ [(.int (2 : Int32))])
      refine Go.on (g' := (mkF m 215 _ [(.int (2 : Int32)), (.int (2 : Int32))])) (fun t_ k_ => XS.iconst X10.here hx rfl (hb hby at_214) k_) ?_
      refine Go.icmp X10 hx hby at_215 (pcT := 220) (pcF := 218) (by decide) (by decide) rfl (fun q => ?_) (fun q => absurd q (by decide))
      clear q
      show Go p e below _ _ (mkF m 220 _ [])
      refine Go.on (g' := (mkF m 222 _ [(.ref o1)])) (fun t_ k_ => XS.aload X10.here hx rfl (hb hby at_220) rfl rfl k_) ?_
      refine Go.callV X10 hx hZ hby (by rw [hml]; rfl) (C := "com/example/sakuin/sakuin/storage/KeyEncoding$Reader") (y := (⟨"com/example/sakuin/sakuin/storage/KeyEncoding$Reader", "atEnd", "()Z"⟩ : MethodName)) hown (hw _ (List.mem_of_getElem? (i := 12) rfl)) (hw _ (List.mem_of_getElem? (i := 13) rfl)) (hw _ (List.mem_of_getElem? (i := 15) rfl)) (hw _ (List.mem_of_getElem? (i := 14) rfl)) (hw _ (List.mem_of_getElem? (i := 16) rfl)) (hw _ (List.mem_of_getElem? (i := 3) rfl)) (by decide) (b := o1) (argsL := []) (rest := []) (rmE l Z w0 hw [] o1 arr (2 : Int32) (2 : Int32) (1 : Int32) (by decide) T9.heap FK9 FP9 cl AA9 hl) e10 EE9 0 (by decide) (by decide) (by decide) (by decide) rfl pdE rfl (Nat.le_of_eq rfl) at_222 (pcF := 225) rfl ?_
      intro v11 T11 L11 X11 hQ11
      obtain ⟨rfl, rfl, e11⟩ := hQ11
      rw [List.append_nil] at X11
      show Go p e below _ _ (mkF m 225 _ [(.int (1 : Int32))])
      refine Go.on (g' := (mkF m 226 _ [(.int (2 : Int32)), (.int (1 : Int32))])) (fun t_ k_ => XS.iloadN X11.here hx rfl (hb hby at_225) rfl k_) ?_
      refine Go.on (g' := (mkF m 227 _ [(.int (2 : Int32)), (.int (2 : Int32)), (.int (1 : Int32))])) (fun t_ k_ => XS.iconst X11.here hx rfl (hb hby at_226) k_) ?_
      refine Go.icmp X11 hx hby at_227 (pcT := 234) (pcF := 230) (by decide) (by decide) rfl (fun q => absurd q (by decide)) (fun q => ?_)
      clear q
      show Go p e below _ _ (mkF m 230 _ [(.int (1 : Int32))])
      refine Go.on (g' := (mkF m 231 _ [(.int (1 : Int32)), (.int (1 : Int32))])) (fun t_ k_ => XS.iconst X11.here hx rfl (hb hby at_230) k_) ?_
      refine Go.on (g' := (mkF m 235 _ [(.int (1 : Int32)), (.int (1 : Int32))])) (fun t_ k_ => XS.goto X11.here hx rfl (pc0 := 231) (pc' := 235) rfl (hb hby at_231) (by decide) (by decide) k_) ?_
      refine Go.icmp X11 hx hby at_235 (pcT := 242) (pcF := 238) (by decide) (by decide) rfl (fun q => absurd q (by decide)) (fun q => ?_)
      clear q
      show Go p e below _ _ (mkF m 238 _ [])
      refine Go.on (g' := (mkF m 239 _ [(.int (1 : Int32))])) (fun t_ k_ => XS.iconst X11.here hx rfl (hb hby at_238) k_) ?_
      refine Go.on (g' := (mkF m 243 _ [(.int (1 : Int32))])) (fun t_ k_ => XS.goto X11.here hx rfl (pc0 := 239) (pc' := 243) rfl (hb hby at_239) (by decide) (by decide) k_) ?_
      exact Go.retI X11 hx hlk hret hby at_243 rfl (by simp) (by decide) (by decide) ⟨rfl, N9⟩
    · have q2 := iEq.2 q
      clear q
      show Go p e below _ _ (mkF m 201 _ [])
      refine Go.on (g' := (mkF m 202 _ [(.int (1 : Int32))])) (fun t_ k_ => XS.iconst X8.here hx rfl (hb hby at_201) k_) ?_
      exact Go.retI X8 hx hlk hret hby at_202 rfl (by simp) (by decide) (by decide) ⟨rfl, N6⟩
  · have q1 := iEq.2 q
    clear q
    show Go p e below _ _ (mkF m 149 _ [])
    refine Go.on (g' := (mkF m 150 _ [(.int (1 : Int32))])) (fun t_ k_ => XS.iconst X5.here hx rfl (hb hby at_149) k_) ?_
    exact Go.retI X5 hx hlk hret hby at_150 rfl (by simp) (by decide) (by decide) ⟨rfl, N2⟩
set_option maxRecDepth 65536 in
set_option maxHeartbeats 40000000 in
theorem tl3 (l : Launch) (Z : State) (w0 : Array Value) (hw : ∀ d ∈ tables_1, d.before w0 Z = true) (ws : List Jvm.Cond) (zd : Addr) (S0 : Sta Z Z.heap "java/math/BigDecimal" "ZERO" "Ljava/math/BigDecimal;" (.ref zd)) (p0 p1 p2 : Int32) (p : Program) (e : Env) (s : State) (m : MethodId) (below : List Frame) (meth : Method) (c : Code) (T0 : State) (locs : List Loc) (X0 : Stand p l e room_1 s m #[.int p0, .int p1, .int p2] below meth c T0 locs 1 3) (hx : p.tables.exec = Jvm.exec) (hby : c.code = code) (hml : c.maxLocals = maxLocals) (hret : meth.sig.returnType = ret) (hlk : meth.locks = false) (hown : s.vm.findClass "com/example/sakuin/sakuin/storage/ReaderAtEndPinLaw" = some m.cls) (hZ : Z.Warmed39 s.vm) (h0 : Heap) (e0 : T0.heap = h0) (n0 : Nat) (Z0 : n0 ≤ h0.size) (N0 : Fr n0 locs) (O0 : Old Z n0 h0) (arr : Addr) (cl : Cell) (A0 : Arr Z h0 arr cl .byte) (hsz : cl.slots.size = 3) (k0 : Int32) (hk0 : cl.slots[(0 : Int32).toNatClampNeg]? = some (.int k0)) (k1 : Int32) (hk1 : cl.slots[(1 : Int32).toNatClampNeg]? = some (.int k1)) : Go p e below (EndK s (own_Q0 n0) room_1.cells room_1.slots) T0 (mkF m 78 #[.val (.int p0), .val (.int p1), .val (.int p2), .val (.int (3 : Int32)), .val (.ref arr), .unset] []) := by
  have hl : cl.slots.size.toInt32 = (3 : Int32) := by rw [hsz]; rfl
  obtain ⟨T1, h1, X1, e1, E1, A1, D1, -, st1⟩ := newO X0 hx hZ hown (hw _ (List.mem_of_getElem? (i := 1) rfl)) (hw _ (List.mem_of_getElem? (i := 2) rfl)) (hw _ (List.mem_of_getElem? (i := 3) rfl)) e0 (g := (mkF m 78 #[.val (.int p0), .val (.int p1), .val (.int p2), .val (.int (3 : Int32)), .val (.ref arr), .unset] [])) rfl (hb hby at_78) (by decide) (by decide)
  obtain ⟨o1, go1⟩ : ∃ z, z = (h0).size := ⟨_, rfl⟩
  rw [← go1] at A1 D1 st1
  have no1 : n0 ≤ o1 := Nat.le_trans Z0 (Nat.le_of_eq go1.symm)
  have Z1 : n0 ≤ h1.size := Nat.le_trans Z0 E1.1
  have arr_arr_1 := A0.ext E1
  have OLD_1 := O0.ext E1
  have fld_o1_key_1 := D1 (Or.inr (hw _ (List.mem_of_getElem? (i := 11) rfl))) (ty := (.array .byte)) (by decide)
  have fld_o1_position_1 := D1 (Or.inl (hw _ (List.mem_of_getElem? (i := 18) rfl))) (ty := .int) (by decide)
  refine Go.on (g' := (mkF m 81 _ [(.ref o1)])) (st1) ?_
  have hne : arr ≠ o1 := by rw [go1]; exact Nat.ne_of_lt A0.lt
  refine Go.on (g' := (mkF m 82 _ [(.ref o1), (.ref o1)])) (fun t_ k_ => XS.dup X1.here hx rfl (hb hby at_81) rfl rfl k_) ?_
  refine Go.on (g' := (mkF m 84 _ [(.ref arr), (.ref o1), (.ref o1)])) (fun t_ k_ => XS.aload X1.here hx rfl (hb hby at_82) rfl rfl k_) ?_
  refine Go.callI X1 hx hZ hby (by rw [hml]; rfl) (y := (⟨"com/example/sakuin/sakuin/storage/KeyEncoding$Reader", "<init>", "([B)V"⟩ : MethodName)) rfl hown (hw _ (List.mem_of_getElem? (i := 4) rfl)) (hw _ (List.mem_of_getElem? (i := 5) rfl)) (hw _ (List.mem_of_getElem? (i := 6) rfl)) (hw _ (List.mem_of_getElem? (i := 3) rfl)) (by decide) (b := o1) (argsL := [(.ref arr)]) (rest := [(.ref o1)]) (rmI l Z w0 hw [] o1 arr h1 n0 Z1 no1 A1 fld_o1_key_1 fld_o1_position_1) e1 1 (by decide) (by decide) (by decide) (by decide) rfl pdI rfl (Nat.le_of_eq rfl) at_84 (pcF := 87) rfl ?_
  intro v2 T2 L2 X2 hQ2
  obtain ⟨rfl, M2, K2, EE2, FK2, FP2⟩ := hQ2
  have N2 := Fr.app N0 M2
  have Z2 : n0 ≤ T2.heap.size := Nat.le_trans Z1 K2.1
  have O2 := OLD_1.keep K2 (allS no1 all0)
  have AA2 := own_arr arr_arr_1 K2 hne
  have e2 : T2.heap = T2.heap := rfl
  show Go p e below _ _ (mkF m 87 _ [(.ref o1)])
  refine Go.on (g' := (mkF m 89 #[.val (.int p0), .val (.int p1), .val (.int p2), .val (.int (3 : Int32)), .val (.ref arr), .val (.ref o1)] [])) (fun t_ k_ => XS.astore X2.here hx rfl (hb hby at_87) rfl rfl (l' := #[.val (.int p0), .val (.int p1), .val (.int p2), .val (.int (3 : Int32)), .val (.ref arr), .val (.ref o1)]) rfl k_) ?_
  refine Go.on (g' := (mkF m 91 _ [(.ref o1)])) (fun t_ k_ => XS.aload X2.here hx rfl (hb hby at_89) rfl rfl k_) ?_
  refine Go.callV X2 hx hZ hby (by rw [hml]; rfl) (C := "com/example/sakuin/sakuin/storage/KeyEncoding$Reader") (y := (⟨"com/example/sakuin/sakuin/storage/KeyEncoding$Reader", "atEnd", "()Z"⟩ : MethodName)) hown (hw _ (List.mem_of_getElem? (i := 12) rfl)) (hw _ (List.mem_of_getElem? (i := 13) rfl)) (hw _ (List.mem_of_getElem? (i := 15) rfl)) (hw _ (List.mem_of_getElem? (i := 14) rfl)) (hw _ (List.mem_of_getElem? (i := 16) rfl)) (hw _ (List.mem_of_getElem? (i := 3) rfl)) (by decide) (b := o1) (argsL := []) (rest := []) (rmE l Z w0 hw [] o1 arr (0 : Int32) (3 : Int32) (0 : Int32) (by decide) T2.heap FK2 FP2 cl AA2 hl) e2 EE2 0 (by decide) (by decide) (by decide) (by decide) rfl pdE rfl (Nat.le_of_eq rfl) at_91 (pcF := 94) rfl ?_
  intro v3 T3 L3 X3 hQ3
  obtain ⟨rfl, rfl, e3⟩ := hQ3
  rw [List.append_nil] at X3
  show Go p e below _ _ (mkF m 94 _ [(.int (0 : Int32))])
  refine Go.on (g' := (mkF m 95 _ [(.int (3 : Int32)), (.int (0 : Int32))])) (fun t_ k_ => XS.iloadN X3.here hx rfl (hb hby at_94) rfl k_) ?_
  refine Go.ifc X3 hx hby at_95 (pcT := 102) (pcF := 98) (by decide) (by decide) rfl (fun q => ?_) (fun q => absurd q (by decide))
  clear q
  show Go p e below _ _ (mkF m 102 _ [(.int (0 : Int32))])
  refine Go.on (g' := (mkF m 103 _ [(.int (0 : Int32)), (.int (0 : Int32))])) (fun t_ k_ => XS.iconst X3.here hx rfl (hb hby at_102) k_) ?_
  refine Go.icmp X3 hx hby at_103 (pcT := 108) (pcF := 106) (by decide) (by decide) rfl (fun q => ?_) (fun q => absurd q (by decide))
  clear q
  show Go p e below _ _ (mkF m 108 _ [])
  refine Go.on (g' := (mkF m 110 _ [(.ref o1)])) (fun t_ k_ => XS.aload X3.here hx rfl (hb hby at_108) rfl rfl k_) ?_
  refine Go.callV X3 hx hZ hby (by rw [hml]; rfl) (C := "com/example/sakuin/sakuin/storage/KeyEncoding$Reader") (y := (⟨"com/example/sakuin/sakuin/storage/KeyEncoding$Reader", "atEnd", "()Z"⟩ : MethodName)) hown (hw _ (List.mem_of_getElem? (i := 12) rfl)) (hw _ (List.mem_of_getElem? (i := 13) rfl)) (hw _ (List.mem_of_getElem? (i := 15) rfl)) (hw _ (List.mem_of_getElem? (i := 14) rfl)) (hw _ (List.mem_of_getElem? (i := 16) rfl)) (hw _ (List.mem_of_getElem? (i := 3) rfl)) (by decide) (b := o1) (argsL := []) (rest := []) (rmE l Z w0 hw [] o1 arr (0 : Int32) (3 : Int32) (0 : Int32) (by decide) T2.heap FK2 FP2 cl AA2 hl) e3 EE2 0 (by decide) (by decide) (by decide) (by decide) rfl pdE rfl (Nat.le_of_eq rfl) at_110 (pcF := 113) rfl ?_
  intro v4 T4 L4 X4 hQ4
  obtain ⟨rfl, rfl, e4⟩ := hQ4
  rw [List.append_nil] at X4
  show Go p e below _ _ (mkF m 113 _ [(.int (0 : Int32))])
  refine Go.on (g' := (mkF m 114 _ [(.int (3 : Int32)), (.int (0 : Int32))])) (fun t_ k_ => XS.iloadN X4.here hx rfl (hb hby at_113) rfl k_) ?_
  refine Go.ifc X4 hx hby at_114 (pcT := 121) (pcF := 117) (by decide) (by decide) rfl (fun q => ?_) (fun q => absurd q (by decide))
  clear q
  show Go p e below _ _ (mkF m 121 _ [(.int (0 : Int32))])
  refine Go.on (g' := (mkF m 122 _ [(.int (0 : Int32)), (.int (0 : Int32))])) (fun t_ k_ => XS.iconst X4.here hx rfl (hb hby at_121) k_) ?_
  refine Go.icmp X4 hx hby at_122 (pcT := 127) (pcF := 125) (by decide) (by decide) rfl (fun q => ?_) (fun q => absurd q (by decide))
  clear q
  show Go p e below _ _ (mkF m 127 _ [])
  refine Go.on (g' := (mkF m 129 _ [(.ref o1)])) (fun t_ k_ => XS.aload X4.here hx rfl (hb hby at_127) rfl rfl k_) ?_
  refine Go.callV X4 hx hZ hby (by rw [hml]; rfl) (C := "com/example/sakuin/sakuin/storage/KeyEncoding$Reader") (y := (⟨"com/example/sakuin/sakuin/storage/KeyEncoding$Reader", "position", "()I"⟩ : MethodName)) hown (hw _ (List.mem_of_getElem? (i := 19) rfl)) (hw _ (List.mem_of_getElem? (i := 20) rfl)) (hw _ (List.mem_of_getElem? (i := 22) rfl)) (hw _ (List.mem_of_getElem? (i := 21) rfl)) (hw _ (List.mem_of_getElem? (i := 23) rfl)) (hw _ (List.mem_of_getElem? (i := 3) rfl)) (by decide) (b := o1) (argsL := []) (rest := []) (rmP l Z w0 hw [] o1 (0 : Int32) T2.heap FP2) e4 EE2 0 (by decide) (by decide) (by decide) (by decide) rfl pdP rfl (Nat.le_of_eq rfl) at_129 (pcF := 132) rfl ?_
  intro v5 T5 L5 X5 hQ5
  obtain ⟨rfl, rfl, e5⟩ := hQ5
  rw [List.append_nil] at X5
  show Go p e below _ _ (mkF m 132 _ [(.int (0 : Int32))])
  refine Go.ifc X5 hx hby at_132 (pcT := 137) (pcF := 135) (by decide) (by decide) rfl (fun q => ?_) (fun q => absurd q (by decide))
  clear q
  show Go p e below _ _ (mkF m 137 _ [])
  refine Go.on (g' := (mkF m 138 _ [(.int (3 : Int32))])) (fun t_ k_ => XS.iloadN X5.here hx rfl (hb hby at_137) rfl k_) ?_
  refine Go.ifc X5 hx hby at_138 (pcT := 149) (pcF := 141) (by decide) (by decide) rfl (fun q => absurd q (by decide)) (fun q => ?_)
  clear q
  show Go p e below _ _ (mkF m 141 _ [])
  refine Go.on (g' := (mkF m 143 _ [(.ref arr)])) (fun t_ k_ => XS.aload X5.here hx rfl (hb hby at_141) rfl rfl k_) ?_
  refine Go.on (g' := (mkF m 144 _ [(.int (0 : Int32)), (.ref arr)])) (fun t_ k_ => XS.iconst X5.here hx rfl (hb hby at_143) k_) ?_
  refine Go.on (g' := (mkF m 145 _ [(.int k0)])) (X5.baloadBytes hx (j := (0 : Int32)) (v := (.int k0)) (by rw [e5]; exact AA2.1) (State.isArrayOf_alike hZ.alike AA2.2.1) AA2.2.2 (by rw [hsz]; decide) hk0 (g := (mkF m 144 #[.val (.int p0), .val (.int p1), .val (.int p2), .val (.int (3 : Int32)), .val (.ref arr), .val (.ref o1)] [(.int (0 : Int32)), (.ref arr)])) rfl rfl (hb hby at_144)) ?_
  refine Go.on (g' := (mkF m 146 _ [(.int (2 : Int32)), (.int k0)])) (fun t_ k_ => XS.iconst X5.here hx rfl (hb hby at_145) k_) ?_
  refine Go.icmp X5 hx hby at_146 (pcT := 151) (pcF := 149) (by decide) (by decide) rfl (fun q => ?_) (fun q => ?_)
  · have q1 := iEq.1 q
    clear q
    show Go p e below _ _ (mkF m 151 _ [])
    refine Go.on (g' := (mkF m 153 _ [(.ref o1)])) (fun t_ k_ => XS.aload X5.here hx rfl (hb hby at_151) rfl rfl k_) ?_
    refine Go.callV X5 hx hZ hby (by rw [hml]; rfl) (C := "com/example/sakuin/sakuin/storage/KeyEncoding$Reader") (y := (⟨"com/example/sakuin/sakuin/storage/KeyEncoding$Reader", "number", "()Ljava/math/BigDecimal;"⟩ : MethodName)) hown (hw _ (List.mem_of_getElem? (i := 24) rfl)) (hw _ (List.mem_of_getElem? (i := 25) rfl)) (hw _ (List.mem_of_getElem? (i := 27) rfl)) (hw _ (List.mem_of_getElem? (i := 26) rfl)) (hw _ (List.mem_of_getElem? (i := 28) rfl)) (hw _ (List.mem_of_getElem? (i := 3) rfl)) (by decide) (b := o1) (argsL := []) (rest := []) (rmN l Z w0 hw [] o1 arr (0 : Int32) (3 : Int32) 2 (by decide) (by decide) T2.heap n0 Z2 no1 EE2 FK2 FP2 cl AA2 hl hne (by rw [hsz]; decide) (by have z := hk0; rw [q1] at z; exact z) zd S0 O2) e5 EE2 0 (by decide) (by decide) (by decide) (by decide) rfl pdN rfl (Nat.le_of_eq rfl) at_153 (pcF := 156) rfl ?_
    intro v6 T6 L6 X6 hQ6
    obtain ⟨rfl, M6, K6, EE6, FK6, FP6⟩ := hQ6
    have N6 := Fr.app N2 M6
    have Z6 : n0 ≤ T6.heap.size := Nat.le_trans Z2 K6.1
    have O6 := O2.keep K6 (allS no1 all0)
    have AA6 := own_arr AA2 K6 hne
    have e6 : T6.heap = T6.heap := rfl
    show Go p e below _ _ (mkF m 156 _ [(.ref zd)])
    refine Go.on (g' := (mkF m 157 _ [])) (fun t_ k_ => XT.pop X6.here hx rfl (hb hby at_156) rfl rfl k_) ?_
    refine Go.on (g' := (mkF m 159 _ [(.ref o1)])) (fun t_ k_ => XS.aload X6.here hx rfl (hb hby at_157) rfl rfl k_) ?_
    refine Go.callV X6 hx hZ hby (by rw [hml]; rfl) (C := "com/example/sakuin/sakuin/storage/KeyEncoding$Reader") (y := (⟨"com/example/sakuin/sakuin/storage/KeyEncoding$Reader", "position", "()I"⟩ : MethodName)) hown (hw _ (List.mem_of_getElem? (i := 19) rfl)) (hw _ (List.mem_of_getElem? (i := 20) rfl)) (hw _ (List.mem_of_getElem? (i := 22) rfl)) (hw _ (List.mem_of_getElem? (i := 21) rfl)) (hw _ (List.mem_of_getElem? (i := 23) rfl)) (hw _ (List.mem_of_getElem? (i := 3) rfl)) (by decide) (b := o1) (argsL := []) (rest := []) (rmP l Z w0 hw [] o1 (1 : Int32) T6.heap FP6) e6 EE6 0 (by decide) (by decide) (by decide) (by decide) rfl pdP rfl (Nat.le_of_eq rfl) at_159 (pcF := 162) rfl ?_
    intro v7 T7 L7 X7 hQ7
    obtain ⟨rfl, rfl, e7⟩ := hQ7
    rw [List.append_nil] at X7
    show Go p e below _ _ (mkF m 162 _ [(.int (1 : Int32))])
    refine Go.on (g' := (mkF m 163 _ [(.int (1 : Int32)), (.int (1 : Int32))])) (fun t_ k_ => XS.iconst X7.here hx rfl (hb hby at_162) k_) ?_
    refine Go.icmp X7 hx hby at_163 (pcT := 168) (pcF := 166) (by decide) (by decide) rfl (fun q => ?_) (fun q => absurd q (by decide))
    clear q
    show Go p e below _ _ (mkF m 168 _ [])
    refine Go.on (g' := (mkF m 170 _ [(.ref o1)])) (fun t_ k_ => XS.aload X7.here hx rfl (hb hby at_168) rfl rfl k_) ?_
    refine Go.callV X7 hx hZ hby (by rw [hml]; rfl) (C := "com/example/sakuin/sakuin/storage/KeyEncoding$Reader") (y := (⟨"com/example/sakuin/sakuin/storage/KeyEncoding$Reader", "atEnd", "()Z"⟩ : MethodName)) hown (hw _ (List.mem_of_getElem? (i := 12) rfl)) (hw _ (List.mem_of_getElem? (i := 13) rfl)) (hw _ (List.mem_of_getElem? (i := 15) rfl)) (hw _ (List.mem_of_getElem? (i := 14) rfl)) (hw _ (List.mem_of_getElem? (i := 16) rfl)) (hw _ (List.mem_of_getElem? (i := 3) rfl)) (by decide) (b := o1) (argsL := []) (rest := []) (rmE l Z w0 hw [] o1 arr (1 : Int32) (3 : Int32) (0 : Int32) (by decide) T6.heap FK6 FP6 cl AA6 hl) e7 EE6 0 (by decide) (by decide) (by decide) (by decide) rfl pdE rfl (Nat.le_of_eq rfl) at_170 (pcF := 173) rfl ?_
    intro v8 T8 L8 X8 hQ8
    obtain ⟨rfl, rfl, e8⟩ := hQ8
    rw [List.append_nil] at X8
    show Go p e below _ _ (mkF m 173 _ [(.int (0 : Int32))])
    refine Go.on (g' := (mkF m 174 _ [(.int (3 : Int32)), (.int (0 : Int32))])) (fun t_ k_ => XS.iloadN X8.here hx rfl (hb hby at_173) rfl k_) ?_
    refine Go.on (g' := (mkF m 175 _ [(.int (1 : Int32)), (.int (3 : Int32)), (.int (0 : Int32))])) (fun t_ k_ => XS.iconst X8.here hx rfl (hb hby at_174) k_) ?_
    refine Go.icmp X8 hx hby at_175 (pcT := 182) (pcF := 178) (by decide) (by decide) rfl (fun q => ?_) (fun q => absurd q (by decide))
    clear q
    show Go p e below _ _ (mkF m 182 _ [(.int (0 : Int32))])
    refine Go.on (g' := (mkF m 183 _ [(.int (0 : Int32)), (.int (0 : Int32))])) (fun t_ k_ => XS.iconst X8.here hx rfl (hb hby at_182) k_) ?_
    refine Go.icmp X8 hx hby at_183 (pcT := 188) (pcF := 186) (by decide) (by decide) rfl (fun q => ?_) (fun q => absurd q (by decide))
    clear q
    show Go p e below _ _ (mkF m 188 _ [])
    refine Go.on (g' := (mkF m 189 _ [(.int (3 : Int32))])) (fun t_ k_ => XS.iloadN X8.here hx rfl (hb hby at_188) rfl k_) ?_
    refine Go.on (g' := (mkF m 190 _ [(.int (1 : Int32)), (.int (3 : Int32))])) (fun t_ k_ => XS.iconst X8.here hx rfl (hb hby at_189) k_) ?_
    refine Go.icmp X8 hx hby at_190 (pcT := 201) (pcF := 193) (by decide) (by decide) rfl (fun q => absurd q (by decide)) (fun q => ?_)
    clear q
    show Go p e below _ _ (mkF m 193 _ [])
    refine Go.on (g' := (mkF m 195 _ [(.ref arr)])) (fun t_ k_ => XS.aload X8.here hx rfl (hb hby at_193) rfl rfl k_) ?_
    refine Go.on (g' := (mkF m 196 _ [(.int (1 : Int32)), (.ref arr)])) (fun t_ k_ => XS.iconst X8.here hx rfl (hb hby at_195) k_) ?_
    refine Go.on (g' := (mkF m 197 _ [(.int k1)])) (X8.baloadBytes hx (j := (1 : Int32)) (v := (.int k1)) (by rw [e8]; exact AA6.1) (State.isArrayOf_alike hZ.alike AA6.2.1) AA6.2.2 (by rw [hsz]; decide) hk1 (g := (mkF m 196 #[.val (.int p0), .val (.int p1), .val (.int p2), .val (.int (3 : Int32)), .val (.ref arr), .val (.ref o1)] [(.int (1 : Int32)), (.ref arr)])) rfl rfl (hb hby at_196)) ?_
    refine Go.on (g' := (mkF m 198 _ [(.int (2 : Int32)), (.int k1)])) (fun t_ k_ => XS.iconst X8.here hx rfl (hb hby at_197) k_) ?_
    refine Go.icmp X8 hx hby at_198 (pcT := 203) (pcF := 201) (by decide) (by decide) rfl (fun q => ?_) (fun q => ?_)
    · have q2 := iEq.1 q
      clear q
      show Go p e below _ _ (mkF m 203 _ [])
      refine Go.on (g' := (mkF m 205 _ [(.ref o1)])) (fun t_ k_ => XS.aload X8.here hx rfl (hb hby at_203) rfl rfl k_) ?_
      refine Go.callV X8 hx hZ hby (by rw [hml]; rfl) (C := "com/example/sakuin/sakuin/storage/KeyEncoding$Reader") (y := (⟨"com/example/sakuin/sakuin/storage/KeyEncoding$Reader", "number", "()Ljava/math/BigDecimal;"⟩ : MethodName)) hown (hw _ (List.mem_of_getElem? (i := 24) rfl)) (hw _ (List.mem_of_getElem? (i := 25) rfl)) (hw _ (List.mem_of_getElem? (i := 27) rfl)) (hw _ (List.mem_of_getElem? (i := 26) rfl)) (hw _ (List.mem_of_getElem? (i := 28) rfl)) (hw _ (List.mem_of_getElem? (i := 3) rfl)) (by decide) (b := o1) (argsL := []) (rest := []) (rmN l Z w0 hw [] o1 arr (1 : Int32) (3 : Int32) 2 (by decide) (by decide) T6.heap n0 Z6 no1 EE6 FK6 FP6 cl AA6 hl hne (by rw [hsz]; decide) (by have z := hk1; rw [q2] at z; exact z) zd S0 O6) e8 EE6 0 (by decide) (by decide) (by decide) (by decide) rfl pdN rfl (Nat.le_of_eq rfl) at_205 (pcF := 208) rfl ?_
      intro v9 T9 L9 X9 hQ9
      obtain ⟨rfl, M9, K9, EE9, FK9, FP9⟩ := hQ9
      have N9 := Fr.app N6 M9
      have Z9 : n0 ≤ T9.heap.size := Nat.le_trans Z6 K9.1
      have O9 := O6.keep K9 (allS no1 all0)
      have AA9 := own_arr AA6 K9 hne
      have e9 : T9.heap = T9.heap := rfl
      show Go p e below _ _ (mkF m 208 _ [(.ref zd)])
      refine Go.on (g' := (mkF m 209 _ [])) (fun t_ k_ => XT.pop X9.here hx rfl (hb hby at_208) rfl rfl k_) ?_
      refine Go.on (g' := (mkF m 211 _ [(.ref o1)])) (fun t_ k_ => XS.aload X9.here hx rfl (hb hby at_209) rfl rfl k_) ?_
      refine Go.callV X9 hx hZ hby (by rw [hml]; rfl) (C := "com/example/sakuin/sakuin/storage/KeyEncoding$Reader") (y := (⟨"com/example/sakuin/sakuin/storage/KeyEncoding$Reader", "position", "()I"⟩ : MethodName)) hown (hw _ (List.mem_of_getElem? (i := 19) rfl)) (hw _ (List.mem_of_getElem? (i := 20) rfl)) (hw _ (List.mem_of_getElem? (i := 22) rfl)) (hw _ (List.mem_of_getElem? (i := 21) rfl)) (hw _ (List.mem_of_getElem? (i := 23) rfl)) (hw _ (List.mem_of_getElem? (i := 3) rfl)) (by decide) (b := o1) (argsL := []) (rest := []) (rmP l Z w0 hw [] o1 (2 : Int32) T9.heap FP9) e9 EE9 0 (by decide) (by decide) (by decide) (by decide) rfl pdP rfl (Nat.le_of_eq rfl) at_211 (pcF := 214) rfl ?_
      intro v10 T10 L10 X10 hQ10
      obtain ⟨rfl, rfl, e10⟩ := hQ10
      rw [List.append_nil] at X10
      show Go p e below _ _ (mkF m 214 _ [(.int (2 : Int32))])
      refine Go.on (g' := (mkF m 215 _ [(.int (2 : Int32)), (.int (2 : Int32))])) (fun t_ k_ => XS.iconst X10.here hx rfl (hb hby at_214) k_) ?_
      refine Go.icmp X10 hx hby at_215 (pcT := 220) (pcF := 218) (by decide) (by decide) rfl (fun q => ?_) (fun q => absurd q (by decide))
      clear q
      show Go p e below _ _ (mkF m 220 _ [])
      refine Go.on (g' := (mkF m 222 _ [(.ref o1)])) (fun t_ k_ => XS.aload X10.here hx rfl (hb hby at_220) rfl rfl k_) ?_
      refine Go.callV X10 hx hZ hby (by rw [hml]; rfl) (C := "com/example/sakuin/sakuin/storage/KeyEncoding$Reader") (y := (⟨"com/example/sakuin/sakuin/storage/KeyEncoding$Reader", "atEnd", "()Z"⟩ : MethodName)) hown (hw _ (List.mem_of_getElem? (i := 12) rfl)) (hw _ (List.mem_of_getElem? (i := 13) rfl)) (hw _ (List.mem_of_getElem? (i := 15) rfl)) (hw _ (List.mem_of_getElem? (i := 14) rfl)) (hw _ (List.mem_of_getElem? (i := 16) rfl)) (hw _ (List.mem_of_getElem? (i := 3) rfl)) (by decide) (b := o1) (argsL := []) (rest := []) (rmE l Z w0 hw [] o1 arr (2 : Int32) (3 : Int32) (0 : Int32) (by decide) T9.heap FK9 FP9 cl AA9 hl) e10 EE9 0 (by decide) (by decide) (by decide) (by decide) rfl pdE rfl (Nat.le_of_eq rfl) at_222 (pcF := 225) rfl ?_
      intro v11 T11 L11 X11 hQ11
      obtain ⟨rfl, rfl, e11⟩ := hQ11
      rw [List.append_nil] at X11
      show Go p e below _ _ (mkF m 225 _ [(.int (0 : Int32))])
      refine Go.on (g' := (mkF m 226 _ [(.int (3 : Int32)), (.int (0 : Int32))])) (fun t_ k_ => XS.iloadN X11.here hx rfl (hb hby at_225) rfl k_) ?_
      refine Go.on (g' := (mkF m 227 _ [(.int (2 : Int32)), (.int (3 : Int32)), (.int (0 : Int32))])) (fun t_ k_ => XS.iconst X11.here hx rfl (hb hby at_226) k_) ?_
      refine Go.icmp X11 hx hby at_227 (pcT := 234) (pcF := 230) (by decide) (by decide) rfl (fun q => ?_) (fun q => absurd q (by decide))
      clear q
      show Go p e below _ _ (mkF m 234 _ [(.int (0 : Int32))])
      refine Go.on (g' := (mkF m 235 _ [(.int (0 : Int32)), (.int (0 : Int32))])) (fun t_ k_ => XS.iconst X11.here hx rfl (hb hby at_234) k_) ?_
      refine Go.icmp X11 hx hby at_235 (pcT := 242) (pcF := 238) (by decide) (by decide) rfl (fun q => absurd q (by decide)) (fun q => ?_)
      clear q
      show Go p e below _ _ (mkF m 238 _ [])
      refine Go.on (g' := (mkF m 239 _ [(.int (1 : Int32))])) (fun t_ k_ => XS.iconst X11.here hx rfl (hb hby at_238) k_) ?_
      refine Go.on (g' := (mkF m 243 _ [(.int (1 : Int32))])) (fun t_ k_ => XS.goto X11.here hx rfl (pc0 := 239) (pc' := 243) rfl (hb hby at_239) (by decide) (by decide) k_) ?_
      exact Go.retI X11 hx hlk hret hby at_243 rfl (by simp) (by decide) (by decide) ⟨rfl, N9⟩
    · have q2 := iEq.2 q
      clear q
      show Go p e below _ _ (mkF m 201 _ [])
      refine Go.on (g' := (mkF m 202 _ [(.int (1 : Int32))])) (fun t_ k_ => XS.iconst X8.here hx rfl (hb hby at_201) k_) ?_
      exact Go.retI X8 hx hlk hret hby at_202 rfl (by simp) (by decide) (by decide) ⟨rfl, N6⟩
  · have q1 := iEq.2 q
    clear q
    show Go p e below _ _ (mkF m 149 _ [])
    refine Go.on (g' := (mkF m 150 _ [(.int (1 : Int32))])) (fun t_ k_ => XS.iconst X5.here hx rfl (hb hby at_149) k_) ?_
    exact Go.retI X5 hx hlk hret hby at_150 rfl (by simp) (by decide) (by decide) ⟨rfl, N2⟩
set_option maxRecDepth 65536 in
set_option maxHeartbeats 40000000 in
theorem rmLaw (l : Launch) (Z : State) (w0 : Array Value) (hw : ∀ d ∈ tables_1, d.before w0 Z = true) (ws : List Jvm.Cond) (p0 p1 p2 : Int32) (h0 : Heap) (n0 : Nat) (Z0 : n0 ≤ h0.size) (zd : Addr) (S0 : Sta Z Z.heap "java/math/BigDecimal" "ZERO" "Ljava/math/BigDecimal;" (.ref zd)) (O0 : Old Z n0 h0) : Pact l Z x code maxLocals ret ws room_1 #[.int p0, .int p1, .int p2] h0 (own_Q0 n0) := by
  refine Pact.intro (plainFor_of_name pnLaw) ?_
  intro p e s m below meth c T0 X0 hx hby hml hret hlk hown hnm hZ e0
  refine Go.at (ef0 m p0 p1 p2) ?_
  have hown : s.vm.findClass "com/example/sakuin/sakuin/storage/ReaderAtEndPinLaw" = some m.cls := hown
  have N0 := Fr.nil n0
  refine Go.on (g' := (mkF m 1 _ [(.int p0)])) (fun t_ k_ => XS.iloadN X0.here hx rfl (hb hby at_0) rfl k_) ?_
  refine Go.on (g' := (mkF m 2 _ [(.int (3 : Int32)), (.int p0)])) (fun t_ k_ => XS.iconst X0.here hx rfl (hb hby at_1) k_) ?_
  refine Go.on (g' := (mkF m 3 _ [(.int (p0 &&& (3 : Int32)))])) (fun t_ k_ => XS.iand X0.here hx rfl (hb hby at_2) rfl k_) ?_
  refine Go.on (g' := (mkF m 4 #[.val (.int p0), .val (.int p1), .val (.int p2), .val (.int (p0 &&& (3 : Int32))), .unset, .unset] [])) (fun t_ k_ => XS.istoreN X0.here hx rfl (hb hby at_3) rfl (l' := #[.val (.int p0), .val (.int p1), .val (.int p2), .val (.int (p0 &&& (3 : Int32))), .unset, .unset]) rfl k_) ?_
  obtain ⟨nn, hnn⟩ : ∃ z : Int32, z = (p0 &&& (3 : Int32)) := ⟨_, rfl⟩
  rw [← hnn]
  have hr := own_rng p0
  rw [← hnn] at hr
  clear hnn
  rcases own_cases nn hr with rfl | rfl | rfl | rfl
  · show Go p e below _ _ (mkF m 4 #[.val (.int p0), .val (.int p1), .val (.int p2), .val (.int (0 : Int32)), .unset, .unset] [])
    refine Go.on (g' := (mkF m 5 _ [(.int (0 : Int32))])) (fun t_ k_ => XS.iloadN X0.here hx rfl (hb hby at_4) rfl k_) ?_
    obtain ⟨T1, h1, cA1, X1, e1, E1, A1, st1⟩ := newP X0 hx hZ (hw _ (List.mem_of_getElem? (i := 0) rfl)) e0 (g := (mkF m 5 #[.val (.int p0), .val (.int p1), .val (.int p2), .val (.int (0 : Int32)), .unset, .unset] [(.int (0 : Int32))])) rfl (hb hby at_5) (n := (0 : Int32)) rfl (by decide) (cap := 0) (by decide) (by decide) (by decide) (by decide)
    obtain ⟨o1, go1⟩ : ∃ z, z = (h0).size := ⟨_, rfl⟩
    rw [← go1] at A1 st1
    have no1 : n0 ≤ o1 := Nat.le_trans Z0 (Nat.le_of_eq go1.symm)
    have Z1 : n0 ≤ h1.size := Nat.le_trans Z0 E1.1
    have OLD_1 := O0.ext E1
    refine Go.on (g' := (mkF m 7 _ [(.ref o1)])) (st1) ?_
    refine Go.on (g' := (mkF m 9 #[.val (.int p0), .val (.int p1), .val (.int p2), .val (.int (0 : Int32)), .val (.ref o1), .unset] [])) (fun t_ k_ => XS.astore X1.here hx rfl (hb hby at_7) rfl rfl (l' := #[.val (.int p0), .val (.int p1), .val (.int p2), .val (.int (0 : Int32)), .val (.ref o1), .unset]) rfl k_) ?_
    refine Go.on (g' := (mkF m 10 _ [(.int (0 : Int32))])) (fun t_ k_ => XS.iloadN X1.here hx rfl (hb hby at_9) rfl k_) ?_
    refine Go.ifc X1 hx hby at_10 (pcT := 19) (pcF := 13) (by decide) (by decide) rfl (fun q => ?_) (fun q => absurd q (by decide))
    clear q
    show Go p e below _ _ (mkF m 19 _ [])
    refine Go.on (g' := (mkF m 20 _ [(.int (0 : Int32))])) (fun t_ k_ => XS.iloadN X1.here hx rfl (hb hby at_19) rfl k_) ?_
    refine Go.on (g' := (mkF m 21 _ [(.int (1 : Int32)), (.int (0 : Int32))])) (fun t_ k_ => XS.iconst X1.here hx rfl (hb hby at_20) k_) ?_
    refine Go.icmp X1 hx hby at_21 (pcT := 33) (pcF := 24) (by decide) (by decide) rfl (fun q => ?_) (fun q => absurd q (by decide))
    clear q
    show Go p e below _ _ (mkF m 33 _ [])
    refine Go.on (g' := (mkF m 34 _ [(.int (0 : Int32))])) (fun t_ k_ => XS.iloadN X1.here hx rfl (hb hby at_33) rfl k_) ?_
    refine Go.on (g' := (mkF m 35 _ [(.int (2 : Int32)), (.int (0 : Int32))])) (fun t_ k_ => XS.iconst X1.here hx rfl (hb hby at_34) k_) ?_
    refine Go.icmp X1 hx hby at_35 (pcT := 47) (pcF := 38) (by decide) (by decide) rfl (fun q => ?_) (fun q => absurd q (by decide))
    clear q
    show Go p e below _ _ (mkF m 47 _ [])
    refine Go.on (g' := (mkF m 48 _ [(.int (0 : Int32))])) (fun t_ k_ => XS.iloadN X1.here hx rfl (hb hby at_47) rfl k_) ?_
    refine Go.ifc X1 hx hby at_48 (pcT := 62) (pcF := 51) (by decide) (by decide) rfl (fun q => ?_) (fun q => absurd q (by decide))
    clear q
    show Go p e below _ _ (mkF m 62 _ [])
    refine Go.on (g' := (mkF m 63 _ [(.int (0 : Int32))])) (fun t_ k_ => XS.iloadN X1.here hx rfl (hb hby at_62) rfl k_) ?_
    refine Go.on (g' := (mkF m 64 _ [(.int (1 : Int32)), (.int (0 : Int32))])) (fun t_ k_ => XS.iconst X1.here hx rfl (hb hby at_63) k_) ?_
    refine Go.icmp X1 hx hby at_64 (pcT := 78) (pcF := 67) (by decide) (by decide) rfl (fun q => ?_) (fun q => absurd q (by decide))
    clear q
    show Go p e below _ _ (mkF m 78 _ [])
    exact tl0 l Z w0 hw [] zd S0 p0 p1 p2 p e s m below meth c T1 _ X1 hx hby hml hret hlk hown hZ _ e1 n0 Z1 N0 OLD_1 o1 _ A1 (by simp only [sz_set, sz_new]; decide) 
  · show Go p e below _ _ (mkF m 4 #[.val (.int p0), .val (.int p1), .val (.int p2), .val (.int (1 : Int32)), .unset, .unset] [])
    refine Go.on (g' := (mkF m 5 _ [(.int (1 : Int32))])) (fun t_ k_ => XS.iloadN X0.here hx rfl (hb hby at_4) rfl k_) ?_
    obtain ⟨T2, h2, cA2, X2, e2, E2, A2, st2⟩ := newP X0 hx hZ (hw _ (List.mem_of_getElem? (i := 0) rfl)) e0 (g := (mkF m 5 #[.val (.int p0), .val (.int p1), .val (.int p2), .val (.int (1 : Int32)), .unset, .unset] [(.int (1 : Int32))])) rfl (hb hby at_5) (n := (1 : Int32)) rfl (by decide) (cap := 1) (by decide) (by decide) (by decide) (by decide)
    obtain ⟨o2, go2⟩ : ∃ z, z = (h0).size := ⟨_, rfl⟩
    rw [← go2] at A2 st2
    have no2 : n0 ≤ o2 := Nat.le_trans Z0 (Nat.le_of_eq go2.symm)
    have Z2 : n0 ≤ h2.size := Nat.le_trans Z0 E2.1
    have OLD_2 := O0.ext E2
    refine Go.on (g' := (mkF m 7 _ [(.ref o2)])) (st2) ?_
    refine Go.on (g' := (mkF m 9 #[.val (.int p0), .val (.int p1), .val (.int p2), .val (.int (1 : Int32)), .val (.ref o2), .unset] [])) (fun t_ k_ => XS.astore X2.here hx rfl (hb hby at_7) rfl rfl (l' := #[.val (.int p0), .val (.int p1), .val (.int p2), .val (.int (1 : Int32)), .val (.ref o2), .unset]) rfl k_) ?_
    refine Go.on (g' := (mkF m 10 _ [(.int (1 : Int32))])) (fun t_ k_ => XS.iloadN X2.here hx rfl (hb hby at_9) rfl k_) ?_
    refine Go.ifc X2 hx hby at_10 (pcT := 19) (pcF := 13) (by decide) (by decide) rfl (fun q => absurd q (by decide)) (fun q => ?_)
    clear q
    show Go p e below _ _ (mkF m 13 _ [])
    refine Go.on (g' := (mkF m 15 _ [(.ref o2)])) (fun t_ k_ => XS.aload X2.here hx rfl (hb hby at_13) rfl rfl k_) ?_
    refine Go.on (g' := (mkF m 16 _ [(.int (0 : Int32)), (.ref o2)])) (fun t_ k_ => XS.iconst X2.here hx rfl (hb hby at_15) k_) ?_
    refine Go.on (g' := (mkF m 17 _ [(.int p1), (.int (0 : Int32)), (.ref o2)])) (fun t_ k_ => XS.iloadN X2.here hx rfl (hb hby at_16) rfl k_) ?_
    refine Go.on (g' := (mkF m 18 _ [(.int (p1.toInt8.toInt32)), (.int (0 : Int32)), (.ref o2)])) (fun t_ k_ => XT.i2b X2.here hx rfl (hb hby at_17) rfl k_) ?_
    obtain ⟨T3, h3, X3, e3, W3, st3⟩ := stB X2 hx hZ e2 A2 (j := (0 : Int32)) (by simp only [sz_set, sz_new]; decide) (g := (mkF m 18 #[.val (.int p0), .val (.int p1), .val (.int p2), .val (.int (1 : Int32)), .val (.ref o2), .unset] [(.int (p1.toInt8.toInt32)), (.int (0 : Int32)), (.ref o2)])) rfl rfl (hb hby at_18)
    have N3 := Fr.snoc X3 N0 no2
    have Z3 : n0 ≤ h3.size := by rw [W3.size]; exact Z2
    have OLD_3 := OLD_2.wr W3 no2
    have A3 := A2.same W3
    refine Go.on (g' := (mkF m 19 _ [])) (st3) ?_
    refine Go.on (g' := (mkF m 20 _ [(.int (1 : Int32))])) (fun t_ k_ => XS.iloadN X3.here hx rfl (hb hby at_19) rfl k_) ?_
    refine Go.on (g' := (mkF m 21 _ [(.int (1 : Int32)), (.int (1 : Int32))])) (fun t_ k_ => XS.iconst X3.here hx rfl (hb hby at_20) k_) ?_
    refine Go.icmp X3 hx hby at_21 (pcT := 33) (pcF := 24) (by decide) (by decide) rfl (fun q => ?_) (fun q => absurd q (by decide))
    clear q
    show Go p e below _ _ (mkF m 33 _ [])
    refine Go.on (g' := (mkF m 34 _ [(.int (1 : Int32))])) (fun t_ k_ => XS.iloadN X3.here hx rfl (hb hby at_33) rfl k_) ?_
    refine Go.on (g' := (mkF m 35 _ [(.int (2 : Int32)), (.int (1 : Int32))])) (fun t_ k_ => XS.iconst X3.here hx rfl (hb hby at_34) k_) ?_
    refine Go.icmp X3 hx hby at_35 (pcT := 47) (pcF := 38) (by decide) (by decide) rfl (fun q => ?_) (fun q => absurd q (by decide))
    clear q
    show Go p e below _ _ (mkF m 47 _ [])
    refine Go.on (g' := (mkF m 48 _ [(.int (1 : Int32))])) (fun t_ k_ => XS.iloadN X3.here hx rfl (hb hby at_47) rfl k_) ?_
    refine Go.ifc X3 hx hby at_48 (pcT := 62) (pcF := 51) (by decide) (by decide) rfl (fun q => absurd q (by decide)) (fun q => ?_)
    clear q
    show Go p e below _ _ (mkF m 51 _ [])
    refine Go.on (g' := (mkF m 52 _ [(.int p2)])) (fun t_ k_ => XS.iloadN X3.here hx rfl (hb hby at_51) rfl k_) ?_
    refine Go.on (g' := (mkF m 53 _ [(.int (1 : Int32)), (.int p2)])) (fun t_ k_ => XS.iconst X3.here hx rfl (hb hby at_52) k_) ?_
    refine Go.on (g' := (mkF m 54 _ [(.int (p2 &&& (1 : Int32)))])) (fun t_ k_ => XS.iand X3.here hx rfl (hb hby at_53) rfl k_) ?_
    refine Go.ifc X3 hx hby at_54 (pcT := 62) (pcF := 57) (by decide) (by decide) rfl (fun q => ?_) (fun q => ?_)
    · have q1 := iEq.1 q
      clear q
      show Go p e below _ _ (mkF m 62 _ [])
      refine Go.on (g' := (mkF m 63 _ [(.int (1 : Int32))])) (fun t_ k_ => XS.iloadN X3.here hx rfl (hb hby at_62) rfl k_) ?_
      refine Go.on (g' := (mkF m 64 _ [(.int (1 : Int32)), (.int (1 : Int32))])) (fun t_ k_ => XS.iconst X3.here hx rfl (hb hby at_63) k_) ?_
      refine Go.icmp X3 hx hby at_64 (pcT := 78) (pcF := 67) (by decide) (by decide) rfl (fun q => ?_) (fun q => absurd q (by decide))
      clear q
      show Go p e below _ _ (mkF m 78 _ [])
      exact tl1 l Z w0 hw [] zd S0 p0 p1 p2 p e s m below meth c T3 _ X3 hx hby hml hret hlk hown hZ _ e3 n0 Z3 N3 OLD_3 o2 _ A3 (by simp only [sz_set, sz_new]; decide) _ rfl
    · have q1 := iEq.2 q
      clear q
      show Go p e below _ _ (mkF m 57 _ [])
      refine Go.on (g' := (mkF m 59 _ [(.ref o2)])) (fun t_ k_ => XS.aload X3.here hx rfl (hb hby at_57) rfl rfl k_) ?_
      refine Go.on (g' := (mkF m 60 _ [(.int (0 : Int32)), (.ref o2)])) (fun t_ k_ => XS.iconst X3.here hx rfl (hb hby at_59) k_) ?_
      refine Go.on (g' := (mkF m 61 _ [(.int (2 : Int32)), (.int (0 : Int32)), (.ref o2)])) (fun t_ k_ => XS.iconst X3.here hx rfl (hb hby at_60) k_) ?_
      obtain ⟨T4, h4, X4, e4, W4, st4⟩ := stB X3 hx hZ e3 A3 (j := (0 : Int32)) (by simp only [sz_set, sz_new]; decide) (g := (mkF m 61 #[.val (.int p0), .val (.int p1), .val (.int p2), .val (.int (1 : Int32)), .val (.ref o2), .unset] [(.int (2 : Int32)), (.int (0 : Int32)), (.ref o2)])) rfl rfl (hb hby at_61)
      have N4 := Fr.snoc X4 N3 no2
      have Z4 : n0 ≤ h4.size := by rw [W4.size]; exact Z3
      have OLD_4 := OLD_3.wr W4 no2
      have A4 := A3.same W4
      refine Go.on (g' := (mkF m 62 _ [])) (st4) ?_
      refine Go.on (g' := (mkF m 63 _ [(.int (1 : Int32))])) (fun t_ k_ => XS.iloadN X4.here hx rfl (hb hby at_62) rfl k_) ?_
      refine Go.on (g' := (mkF m 64 _ [(.int (1 : Int32)), (.int (1 : Int32))])) (fun t_ k_ => XS.iconst X4.here hx rfl (hb hby at_63) k_) ?_
      refine Go.icmp X4 hx hby at_64 (pcT := 78) (pcF := 67) (by decide) (by decide) rfl (fun q => ?_) (fun q => absurd q (by decide))
      clear q
      show Go p e below _ _ (mkF m 78 _ [])
      exact tl1 l Z w0 hw [] zd S0 p0 p1 p2 p e s m below meth c T4 _ X4 hx hby hml hret hlk hown hZ _ e4 n0 Z4 N4 OLD_4 o2 _ A4 (by simp only [sz_set, sz_new]; decide) _ rfl
  · show Go p e below _ _ (mkF m 4 #[.val (.int p0), .val (.int p1), .val (.int p2), .val (.int (2 : Int32)), .unset, .unset] [])
    refine Go.on (g' := (mkF m 5 _ [(.int (2 : Int32))])) (fun t_ k_ => XS.iloadN X0.here hx rfl (hb hby at_4) rfl k_) ?_
    obtain ⟨T5, h5, cA5, X5, e5, E5, A5, st5⟩ := newP X0 hx hZ (hw _ (List.mem_of_getElem? (i := 0) rfl)) e0 (g := (mkF m 5 #[.val (.int p0), .val (.int p1), .val (.int p2), .val (.int (2 : Int32)), .unset, .unset] [(.int (2 : Int32))])) rfl (hb hby at_5) (n := (2 : Int32)) rfl (by decide) (cap := 2) (by decide) (by decide) (by decide) (by decide)
    obtain ⟨o5, go5⟩ : ∃ z, z = (h0).size := ⟨_, rfl⟩
    rw [← go5] at A5 st5
    have no5 : n0 ≤ o5 := Nat.le_trans Z0 (Nat.le_of_eq go5.symm)
    have Z5 : n0 ≤ h5.size := Nat.le_trans Z0 E5.1
    have OLD_5 := O0.ext E5
    refine Go.on (g' := (mkF m 7 _ [(.ref o5)])) (st5) ?_
    refine Go.on (g' := (mkF m 9 #[.val (.int p0), .val (.int p1), .val (.int p2), .val (.int (2 : Int32)), .val (.ref o5), .unset] [])) (fun t_ k_ => XS.astore X5.here hx rfl (hb hby at_7) rfl rfl (l' := #[.val (.int p0), .val (.int p1), .val (.int p2), .val (.int (2 : Int32)), .val (.ref o5), .unset]) rfl k_) ?_
    refine Go.on (g' := (mkF m 10 _ [(.int (2 : Int32))])) (fun t_ k_ => XS.iloadN X5.here hx rfl (hb hby at_9) rfl k_) ?_
    refine Go.ifc X5 hx hby at_10 (pcT := 19) (pcF := 13) (by decide) (by decide) rfl (fun q => absurd q (by decide)) (fun q => ?_)
    clear q
    show Go p e below _ _ (mkF m 13 _ [])
    refine Go.on (g' := (mkF m 15 _ [(.ref o5)])) (fun t_ k_ => XS.aload X5.here hx rfl (hb hby at_13) rfl rfl k_) ?_
    refine Go.on (g' := (mkF m 16 _ [(.int (0 : Int32)), (.ref o5)])) (fun t_ k_ => XS.iconst X5.here hx rfl (hb hby at_15) k_) ?_
    refine Go.on (g' := (mkF m 17 _ [(.int p1), (.int (0 : Int32)), (.ref o5)])) (fun t_ k_ => XS.iloadN X5.here hx rfl (hb hby at_16) rfl k_) ?_
    refine Go.on (g' := (mkF m 18 _ [(.int (p1.toInt8.toInt32)), (.int (0 : Int32)), (.ref o5)])) (fun t_ k_ => XT.i2b X5.here hx rfl (hb hby at_17) rfl k_) ?_
    obtain ⟨T6, h6, X6, e6, W6, st6⟩ := stB X5 hx hZ e5 A5 (j := (0 : Int32)) (by simp only [sz_set, sz_new]; decide) (g := (mkF m 18 #[.val (.int p0), .val (.int p1), .val (.int p2), .val (.int (2 : Int32)), .val (.ref o5), .unset] [(.int (p1.toInt8.toInt32)), (.int (0 : Int32)), (.ref o5)])) rfl rfl (hb hby at_18)
    have N6 := Fr.snoc X6 N0 no5
    have Z6 : n0 ≤ h6.size := by rw [W6.size]; exact Z5
    have OLD_6 := OLD_5.wr W6 no5
    have A6 := A5.same W6
    refine Go.on (g' := (mkF m 19 _ [])) (st6) ?_
    refine Go.on (g' := (mkF m 20 _ [(.int (2 : Int32))])) (fun t_ k_ => XS.iloadN X6.here hx rfl (hb hby at_19) rfl k_) ?_
    refine Go.on (g' := (mkF m 21 _ [(.int (1 : Int32)), (.int (2 : Int32))])) (fun t_ k_ => XS.iconst X6.here hx rfl (hb hby at_20) k_) ?_
    refine Go.icmp X6 hx hby at_21 (pcT := 33) (pcF := 24) (by decide) (by decide) rfl (fun q => absurd q (by decide)) (fun q => ?_)
    clear q
    show Go p e below _ _ (mkF m 24 _ [])
    refine Go.on (g' := (mkF m 26 _ [(.ref o5)])) (fun t_ k_ => XS.aload X6.here hx rfl (hb hby at_24) rfl rfl k_) ?_
    refine Go.on (g' := (mkF m 27 _ [(.int (1 : Int32)), (.ref o5)])) (fun t_ k_ => XS.iconst X6.here hx rfl (hb hby at_26) k_) ?_
    refine Go.on (g' := (mkF m 28 _ [(.int p1), (.int (1 : Int32)), (.ref o5)])) (fun t_ k_ => XS.iloadN X6.here hx rfl (hb hby at_27) rfl k_) ?_
    refine Go.on (g' := (mkF m 30 _ [(.int (8 : Int32)), (.int p1), (.int (1 : Int32)), (.ref o5)])) (fun t_ k_ => XS.bipush X6.here hx rfl (hb hby at_28) k_) ?_
    refine Go.on (g' := (mkF m 31 _ [(.int (p1 >>> ((8 : Int32) &&& 31))), (.int (1 : Int32)), (.ref o5)])) (fun t_ k_ => XT.ishr X6.here hx rfl (hb hby at_30) rfl k_) ?_
    refine Go.on (g' := (mkF m 32 _ [(.int ((p1 >>> ((8 : Int32) &&& 31)).toInt8.toInt32)), (.int (1 : Int32)), (.ref o5)])) (fun t_ k_ => XT.i2b X6.here hx rfl (hb hby at_31) rfl k_) ?_
    obtain ⟨T7, h7, X7, e7, W7, st7⟩ := stB X6 hx hZ e6 A6 (j := (1 : Int32)) (by simp only [sz_set, sz_new]; decide) (g := (mkF m 32 #[.val (.int p0), .val (.int p1), .val (.int p2), .val (.int (2 : Int32)), .val (.ref o5), .unset] [(.int ((p1 >>> ((8 : Int32) &&& 31)).toInt8.toInt32)), (.int (1 : Int32)), (.ref o5)])) rfl rfl (hb hby at_32)
    have N7 := Fr.snoc X7 N6 no5
    have Z7 : n0 ≤ h7.size := by rw [W7.size]; exact Z6
    have OLD_7 := OLD_6.wr W7 no5
    have A7 := A6.same W7
    refine Go.on (g' := (mkF m 33 _ [])) (st7) ?_
    refine Go.on (g' := (mkF m 34 _ [(.int (2 : Int32))])) (fun t_ k_ => XS.iloadN X7.here hx rfl (hb hby at_33) rfl k_) ?_
    refine Go.on (g' := (mkF m 35 _ [(.int (2 : Int32)), (.int (2 : Int32))])) (fun t_ k_ => XS.iconst X7.here hx rfl (hb hby at_34) k_) ?_
    refine Go.icmp X7 hx hby at_35 (pcT := 47) (pcF := 38) (by decide) (by decide) rfl (fun q => ?_) (fun q => absurd q (by decide))
    clear q
    show Go p e below _ _ (mkF m 47 _ [])
    refine Go.on (g' := (mkF m 48 _ [(.int (2 : Int32))])) (fun t_ k_ => XS.iloadN X7.here hx rfl (hb hby at_47) rfl k_) ?_
    refine Go.ifc X7 hx hby at_48 (pcT := 62) (pcF := 51) (by decide) (by decide) rfl (fun q => absurd q (by decide)) (fun q => ?_)
    clear q
    show Go p e below _ _ (mkF m 51 _ [])
    refine Go.on (g' := (mkF m 52 _ [(.int p2)])) (fun t_ k_ => XS.iloadN X7.here hx rfl (hb hby at_51) rfl k_) ?_
    refine Go.on (g' := (mkF m 53 _ [(.int (1 : Int32)), (.int p2)])) (fun t_ k_ => XS.iconst X7.here hx rfl (hb hby at_52) k_) ?_
    refine Go.on (g' := (mkF m 54 _ [(.int (p2 &&& (1 : Int32)))])) (fun t_ k_ => XS.iand X7.here hx rfl (hb hby at_53) rfl k_) ?_
    refine Go.ifc X7 hx hby at_54 (pcT := 62) (pcF := 57) (by decide) (by decide) rfl (fun q => ?_) (fun q => ?_)
    · have q2 := iEq.1 q
      clear q
      show Go p e below _ _ (mkF m 62 _ [])
      refine Go.on (g' := (mkF m 63 _ [(.int (2 : Int32))])) (fun t_ k_ => XS.iloadN X7.here hx rfl (hb hby at_62) rfl k_) ?_
      refine Go.on (g' := (mkF m 64 _ [(.int (1 : Int32)), (.int (2 : Int32))])) (fun t_ k_ => XS.iconst X7.here hx rfl (hb hby at_63) k_) ?_
      refine Go.icmp X7 hx hby at_64 (pcT := 78) (pcF := 67) (by decide) (by decide) rfl (fun q => absurd q (by decide)) (fun q => ?_)
      clear q
      show Go p e below _ _ (mkF m 67 _ [])
      refine Go.on (g' := (mkF m 68 _ [(.int p2)])) (fun t_ k_ => XS.iloadN X7.here hx rfl (hb hby at_67) rfl k_) ?_
      refine Go.on (g' := (mkF m 69 _ [(.int (2 : Int32)), (.int p2)])) (fun t_ k_ => XS.iconst X7.here hx rfl (hb hby at_68) k_) ?_
      refine Go.on (g' := (mkF m 70 _ [(.int (p2 &&& (2 : Int32)))])) (fun t_ k_ => XS.iand X7.here hx rfl (hb hby at_69) rfl k_) ?_
      refine Go.ifc X7 hx hby at_70 (pcT := 78) (pcF := 73) (by decide) (by decide) rfl (fun q => ?_) (fun q => ?_)
      · have q3 := iEq.1 q
        clear q
        show Go p e below _ _ (mkF m 78 _ [])
        exact tl2 l Z w0 hw [] zd S0 p0 p1 p2 p e s m below meth c T7 _ X7 hx hby hml hret hlk hown hZ _ e7 n0 Z7 N7 OLD_7 o5 _ A7 (by simp only [sz_set, sz_new]; decide) _ rfl _ rfl
      · have q3 := iEq.2 q
        clear q
        show Go p e below _ _ (mkF m 73 _ [])
        refine Go.on (g' := (mkF m 75 _ [(.ref o5)])) (fun t_ k_ => XS.aload X7.here hx rfl (hb hby at_73) rfl rfl k_) ?_
        refine Go.on (g' := (mkF m 76 _ [(.int (1 : Int32)), (.ref o5)])) (fun t_ k_ => XS.iconst X7.here hx rfl (hb hby at_75) k_) ?_
        refine Go.on (g' := (mkF m 77 _ [(.int (2 : Int32)), (.int (1 : Int32)), (.ref o5)])) (fun t_ k_ => XS.iconst X7.here hx rfl (hb hby at_76) k_) ?_
        obtain ⟨T8, h8, X8, e8, W8, st8⟩ := stB X7 hx hZ e7 A7 (j := (1 : Int32)) (by simp only [sz_set, sz_new]; decide) (g := (mkF m 77 #[.val (.int p0), .val (.int p1), .val (.int p2), .val (.int (2 : Int32)), .val (.ref o5), .unset] [(.int (2 : Int32)), (.int (1 : Int32)), (.ref o5)])) rfl rfl (hb hby at_77)
        have N8 := Fr.snoc X8 N7 no5
        have Z8 : n0 ≤ h8.size := by rw [W8.size]; exact Z7
        have OLD_8 := OLD_7.wr W8 no5
        have A8 := A7.same W8
        refine Go.on (g' := (mkF m 78 _ [])) (st8) ?_
        exact tl2 l Z w0 hw [] zd S0 p0 p1 p2 p e s m below meth c T8 _ X8 hx hby hml hret hlk hown hZ _ e8 n0 Z8 N8 OLD_8 o5 _ A8 (by simp only [sz_set, sz_new]; decide) _ rfl _ rfl
    · have q2 := iEq.2 q
      clear q
      show Go p e below _ _ (mkF m 57 _ [])
      refine Go.on (g' := (mkF m 59 _ [(.ref o5)])) (fun t_ k_ => XS.aload X7.here hx rfl (hb hby at_57) rfl rfl k_) ?_
      refine Go.on (g' := (mkF m 60 _ [(.int (0 : Int32)), (.ref o5)])) (fun t_ k_ => XS.iconst X7.here hx rfl (hb hby at_59) k_) ?_
      refine Go.on (g' := (mkF m 61 _ [(.int (2 : Int32)), (.int (0 : Int32)), (.ref o5)])) (fun t_ k_ => XS.iconst X7.here hx rfl (hb hby at_60) k_) ?_
      obtain ⟨T9, h9, X9, e9, W9, st9⟩ := stB X7 hx hZ e7 A7 (j := (0 : Int32)) (by simp only [sz_set, sz_new]; decide) (g := (mkF m 61 #[.val (.int p0), .val (.int p1), .val (.int p2), .val (.int (2 : Int32)), .val (.ref o5), .unset] [(.int (2 : Int32)), (.int (0 : Int32)), (.ref o5)])) rfl rfl (hb hby at_61)
      have N9 := Fr.snoc X9 N7 no5
      have Z9 : n0 ≤ h9.size := by rw [W9.size]; exact Z7
      have OLD_9 := OLD_7.wr W9 no5
      have A9 := A7.same W9
      refine Go.on (g' := (mkF m 62 _ [])) (st9) ?_
      refine Go.on (g' := (mkF m 63 _ [(.int (2 : Int32))])) (fun t_ k_ => XS.iloadN X9.here hx rfl (hb hby at_62) rfl k_) ?_
      refine Go.on (g' := (mkF m 64 _ [(.int (1 : Int32)), (.int (2 : Int32))])) (fun t_ k_ => XS.iconst X9.here hx rfl (hb hby at_63) k_) ?_
      refine Go.icmp X9 hx hby at_64 (pcT := 78) (pcF := 67) (by decide) (by decide) rfl (fun q => absurd q (by decide)) (fun q => ?_)
      clear q
      show Go p e below _ _ (mkF m 67 _ [])
      refine Go.on (g' := (mkF m 68 _ [(.int p2)])) (fun t_ k_ => XS.iloadN X9.here hx rfl (hb hby at_67) rfl k_) ?_
      refine Go.on (g' := (mkF m 69 _ [(.int (2 : Int32)), (.int p2)])) (fun t_ k_ => XS.iconst X9.here hx rfl (hb hby at_68) k_) ?_
      refine Go.on (g' := (mkF m 70 _ [(.int (p2 &&& (2 : Int32)))])) (fun t_ k_ => XS.iand X9.here hx rfl (hb hby at_69) rfl k_) ?_
      refine Go.ifc X9 hx hby at_70 (pcT := 78) (pcF := 73) (by decide) (by decide) rfl (fun q => ?_) (fun q => ?_)
      · have q4 := iEq.1 q
        clear q
        show Go p e below _ _ (mkF m 78 _ [])
        exact tl2 l Z w0 hw [] zd S0 p0 p1 p2 p e s m below meth c T9 _ X9 hx hby hml hret hlk hown hZ _ e9 n0 Z9 N9 OLD_9 o5 _ A9 (by simp only [sz_set, sz_new]; decide) _ rfl _ rfl
      · have q4 := iEq.2 q
        clear q
        show Go p e below _ _ (mkF m 73 _ [])
        refine Go.on (g' := (mkF m 75 _ [(.ref o5)])) (fun t_ k_ => XS.aload X9.here hx rfl (hb hby at_73) rfl rfl k_) ?_
        refine Go.on (g' := (mkF m 76 _ [(.int (1 : Int32)), (.ref o5)])) (fun t_ k_ => XS.iconst X9.here hx rfl (hb hby at_75) k_) ?_
        refine Go.on (g' := (mkF m 77 _ [(.int (2 : Int32)), (.int (1 : Int32)), (.ref o5)])) (fun t_ k_ => XS.iconst X9.here hx rfl (hb hby at_76) k_) ?_
        obtain ⟨T10, h10, X10, e10, W10, st10⟩ := stB X9 hx hZ e9 A9 (j := (1 : Int32)) (by simp only [sz_set, sz_new]; decide) (g := (mkF m 77 #[.val (.int p0), .val (.int p1), .val (.int p2), .val (.int (2 : Int32)), .val (.ref o5), .unset] [(.int (2 : Int32)), (.int (1 : Int32)), (.ref o5)])) rfl rfl (hb hby at_77)
        have N10 := Fr.snoc X10 N9 no5
        have Z10 : n0 ≤ h10.size := by rw [W10.size]; exact Z9
        have OLD_10 := OLD_9.wr W10 no5
        have A10 := A9.same W10
        refine Go.on (g' := (mkF m 78 _ [])) (st10) ?_
        exact tl2 l Z w0 hw [] zd S0 p0 p1 p2 p e s m below meth c T10 _ X10 hx hby hml hret hlk hown hZ _ e10 n0 Z10 N10 OLD_10 o5 _ A10 (by simp only [sz_set, sz_new]; decide) _ rfl _ rfl
  · show Go p e below _ _ (mkF m 4 #[.val (.int p0), .val (.int p1), .val (.int p2), .val (.int (3 : Int32)), .unset, .unset] [])
    refine Go.on (g' := (mkF m 5 _ [(.int (3 : Int32))])) (fun t_ k_ => XS.iloadN X0.here hx rfl (hb hby at_4) rfl k_) ?_
    obtain ⟨T11, h11, cA11, X11, e11, E11, A11, st11⟩ := newP X0 hx hZ (hw _ (List.mem_of_getElem? (i := 0) rfl)) e0 (g := (mkF m 5 #[.val (.int p0), .val (.int p1), .val (.int p2), .val (.int (3 : Int32)), .unset, .unset] [(.int (3 : Int32))])) rfl (hb hby at_5) (n := (3 : Int32)) rfl (by decide) (cap := 3) (by decide) (by decide) (by decide) (by decide)
    obtain ⟨o11, go11⟩ : ∃ z, z = (h0).size := ⟨_, rfl⟩
    rw [← go11] at A11 st11
    have no11 : n0 ≤ o11 := Nat.le_trans Z0 (Nat.le_of_eq go11.symm)
    have Z11 : n0 ≤ h11.size := Nat.le_trans Z0 E11.1
    have OLD_11 := O0.ext E11
    refine Go.on (g' := (mkF m 7 _ [(.ref o11)])) (st11) ?_
    refine Go.on (g' := (mkF m 9 #[.val (.int p0), .val (.int p1), .val (.int p2), .val (.int (3 : Int32)), .val (.ref o11), .unset] [])) (fun t_ k_ => XS.astore X11.here hx rfl (hb hby at_7) rfl rfl (l' := #[.val (.int p0), .val (.int p1), .val (.int p2), .val (.int (3 : Int32)), .val (.ref o11), .unset]) rfl k_) ?_
    refine Go.on (g' := (mkF m 10 _ [(.int (3 : Int32))])) (fun t_ k_ => XS.iloadN X11.here hx rfl (hb hby at_9) rfl k_) ?_
    refine Go.ifc X11 hx hby at_10 (pcT := 19) (pcF := 13) (by decide) (by decide) rfl (fun q => absurd q (by decide)) (fun q => ?_)
    clear q
    show Go p e below _ _ (mkF m 13 _ [])
    refine Go.on (g' := (mkF m 15 _ [(.ref o11)])) (fun t_ k_ => XS.aload X11.here hx rfl (hb hby at_13) rfl rfl k_) ?_
    refine Go.on (g' := (mkF m 16 _ [(.int (0 : Int32)), (.ref o11)])) (fun t_ k_ => XS.iconst X11.here hx rfl (hb hby at_15) k_) ?_
    refine Go.on (g' := (mkF m 17 _ [(.int p1), (.int (0 : Int32)), (.ref o11)])) (fun t_ k_ => XS.iloadN X11.here hx rfl (hb hby at_16) rfl k_) ?_
    refine Go.on (g' := (mkF m 18 _ [(.int (p1.toInt8.toInt32)), (.int (0 : Int32)), (.ref o11)])) (fun t_ k_ => XT.i2b X11.here hx rfl (hb hby at_17) rfl k_) ?_
    obtain ⟨T12, h12, X12, e12, W12, st12⟩ := stB X11 hx hZ e11 A11 (j := (0 : Int32)) (by simp only [sz_set, sz_new]; decide) (g := (mkF m 18 #[.val (.int p0), .val (.int p1), .val (.int p2), .val (.int (3 : Int32)), .val (.ref o11), .unset] [(.int (p1.toInt8.toInt32)), (.int (0 : Int32)), (.ref o11)])) rfl rfl (hb hby at_18)
    have N12 := Fr.snoc X12 N0 no11
    have Z12 : n0 ≤ h12.size := by rw [W12.size]; exact Z11
    have OLD_12 := OLD_11.wr W12 no11
    have A12 := A11.same W12
    refine Go.on (g' := (mkF m 19 _ [])) (st12) ?_
    refine Go.on (g' := (mkF m 20 _ [(.int (3 : Int32))])) (fun t_ k_ => XS.iloadN X12.here hx rfl (hb hby at_19) rfl k_) ?_
    refine Go.on (g' := (mkF m 21 _ [(.int (1 : Int32)), (.int (3 : Int32))])) (fun t_ k_ => XS.iconst X12.here hx rfl (hb hby at_20) k_) ?_
    refine Go.icmp X12 hx hby at_21 (pcT := 33) (pcF := 24) (by decide) (by decide) rfl (fun q => absurd q (by decide)) (fun q => ?_)
    clear q
    show Go p e below _ _ (mkF m 24 _ [])
    refine Go.on (g' := (mkF m 26 _ [(.ref o11)])) (fun t_ k_ => XS.aload X12.here hx rfl (hb hby at_24) rfl rfl k_) ?_
    refine Go.on (g' := (mkF m 27 _ [(.int (1 : Int32)), (.ref o11)])) (fun t_ k_ => XS.iconst X12.here hx rfl (hb hby at_26) k_) ?_
    refine Go.on (g' := (mkF m 28 _ [(.int p1), (.int (1 : Int32)), (.ref o11)])) (fun t_ k_ => XS.iloadN X12.here hx rfl (hb hby at_27) rfl k_) ?_
    refine Go.on (g' := (mkF m 30 _ [(.int (8 : Int32)), (.int p1), (.int (1 : Int32)), (.ref o11)])) (fun t_ k_ => XS.bipush X12.here hx rfl (hb hby at_28) k_) ?_
    refine Go.on (g' := (mkF m 31 _ [(.int (p1 >>> ((8 : Int32) &&& 31))), (.int (1 : Int32)), (.ref o11)])) (fun t_ k_ => XT.ishr X12.here hx rfl (hb hby at_30) rfl k_) ?_
    refine Go.on (g' := (mkF m 32 _ [(.int ((p1 >>> ((8 : Int32) &&& 31)).toInt8.toInt32)), (.int (1 : Int32)), (.ref o11)])) (fun t_ k_ => XT.i2b X12.here hx rfl (hb hby at_31) rfl k_) ?_
    obtain ⟨T13, h13, X13, e13, W13, st13⟩ := stB X12 hx hZ e12 A12 (j := (1 : Int32)) (by simp only [sz_set, sz_new]; decide) (g := (mkF m 32 #[.val (.int p0), .val (.int p1), .val (.int p2), .val (.int (3 : Int32)), .val (.ref o11), .unset] [(.int ((p1 >>> ((8 : Int32) &&& 31)).toInt8.toInt32)), (.int (1 : Int32)), (.ref o11)])) rfl rfl (hb hby at_32)
    have N13 := Fr.snoc X13 N12 no11
    have Z13 : n0 ≤ h13.size := by rw [W13.size]; exact Z12
    have OLD_13 := OLD_12.wr W13 no11
    have A13 := A12.same W13
    refine Go.on (g' := (mkF m 33 _ [])) (st13) ?_
    refine Go.on (g' := (mkF m 34 _ [(.int (3 : Int32))])) (fun t_ k_ => XS.iloadN X13.here hx rfl (hb hby at_33) rfl k_) ?_
    refine Go.on (g' := (mkF m 35 _ [(.int (2 : Int32)), (.int (3 : Int32))])) (fun t_ k_ => XS.iconst X13.here hx rfl (hb hby at_34) k_) ?_
    refine Go.icmp X13 hx hby at_35 (pcT := 47) (pcF := 38) (by decide) (by decide) rfl (fun q => absurd q (by decide)) (fun q => ?_)
    clear q
    show Go p e below _ _ (mkF m 38 _ [])
    refine Go.on (g' := (mkF m 40 _ [(.ref o11)])) (fun t_ k_ => XS.aload X13.here hx rfl (hb hby at_38) rfl rfl k_) ?_
    refine Go.on (g' := (mkF m 41 _ [(.int (2 : Int32)), (.ref o11)])) (fun t_ k_ => XS.iconst X13.here hx rfl (hb hby at_40) k_) ?_
    refine Go.on (g' := (mkF m 42 _ [(.int p1), (.int (2 : Int32)), (.ref o11)])) (fun t_ k_ => XS.iloadN X13.here hx rfl (hb hby at_41) rfl k_) ?_
    refine Go.on (g' := (mkF m 44 _ [(.int (16 : Int32)), (.int p1), (.int (2 : Int32)), (.ref o11)])) (fun t_ k_ => XS.bipush X13.here hx rfl (hb hby at_42) k_) ?_
    refine Go.on (g' := (mkF m 45 _ [(.int (p1 >>> ((16 : Int32) &&& 31))), (.int (2 : Int32)), (.ref o11)])) (fun t_ k_ => XT.ishr X13.here hx rfl (hb hby at_44) rfl k_) ?_
    refine Go.on (g' := (mkF m 46 _ [(.int ((p1 >>> ((16 : Int32) &&& 31)).toInt8.toInt32)), (.int (2 : Int32)), (.ref o11)])) (fun t_ k_ => XT.i2b X13.here hx rfl (hb hby at_45) rfl k_) ?_
    obtain ⟨T14, h14, X14, e14, W14, st14⟩ := stB X13 hx hZ e13 A13 (j := (2 : Int32)) (by simp only [sz_set, sz_new]; decide) (g := (mkF m 46 #[.val (.int p0), .val (.int p1), .val (.int p2), .val (.int (3 : Int32)), .val (.ref o11), .unset] [(.int ((p1 >>> ((16 : Int32) &&& 31)).toInt8.toInt32)), (.int (2 : Int32)), (.ref o11)])) rfl rfl (hb hby at_46)
    have N14 := Fr.snoc X14 N13 no11
    have Z14 : n0 ≤ h14.size := by rw [W14.size]; exact Z13
    have OLD_14 := OLD_13.wr W14 no11
    have A14 := A13.same W14
    refine Go.on (g' := (mkF m 47 _ [])) (st14) ?_
    refine Go.on (g' := (mkF m 48 _ [(.int (3 : Int32))])) (fun t_ k_ => XS.iloadN X14.here hx rfl (hb hby at_47) rfl k_) ?_
    refine Go.ifc X14 hx hby at_48 (pcT := 62) (pcF := 51) (by decide) (by decide) rfl (fun q => absurd q (by decide)) (fun q => ?_)
    clear q
    show Go p e below _ _ (mkF m 51 _ [])
    refine Go.on (g' := (mkF m 52 _ [(.int p2)])) (fun t_ k_ => XS.iloadN X14.here hx rfl (hb hby at_51) rfl k_) ?_
    refine Go.on (g' := (mkF m 53 _ [(.int (1 : Int32)), (.int p2)])) (fun t_ k_ => XS.iconst X14.here hx rfl (hb hby at_52) k_) ?_
    refine Go.on (g' := (mkF m 54 _ [(.int (p2 &&& (1 : Int32)))])) (fun t_ k_ => XS.iand X14.here hx rfl (hb hby at_53) rfl k_) ?_
    refine Go.ifc X14 hx hby at_54 (pcT := 62) (pcF := 57) (by decide) (by decide) rfl (fun q => ?_) (fun q => ?_)
    · have q5 := iEq.1 q
      clear q
      show Go p e below _ _ (mkF m 62 _ [])
      refine Go.on (g' := (mkF m 63 _ [(.int (3 : Int32))])) (fun t_ k_ => XS.iloadN X14.here hx rfl (hb hby at_62) rfl k_) ?_
      refine Go.on (g' := (mkF m 64 _ [(.int (1 : Int32)), (.int (3 : Int32))])) (fun t_ k_ => XS.iconst X14.here hx rfl (hb hby at_63) k_) ?_
      refine Go.icmp X14 hx hby at_64 (pcT := 78) (pcF := 67) (by decide) (by decide) rfl (fun q => absurd q (by decide)) (fun q => ?_)
      clear q
      show Go p e below _ _ (mkF m 67 _ [])
      refine Go.on (g' := (mkF m 68 _ [(.int p2)])) (fun t_ k_ => XS.iloadN X14.here hx rfl (hb hby at_67) rfl k_) ?_
      refine Go.on (g' := (mkF m 69 _ [(.int (2 : Int32)), (.int p2)])) (fun t_ k_ => XS.iconst X14.here hx rfl (hb hby at_68) k_) ?_
      refine Go.on (g' := (mkF m 70 _ [(.int (p2 &&& (2 : Int32)))])) (fun t_ k_ => XS.iand X14.here hx rfl (hb hby at_69) rfl k_) ?_
      refine Go.ifc X14 hx hby at_70 (pcT := 78) (pcF := 73) (by decide) (by decide) rfl (fun q => ?_) (fun q => ?_)
      · have q6 := iEq.1 q
        clear q
        show Go p e below _ _ (mkF m 78 _ [])
        exact tl3 l Z w0 hw [] zd S0 p0 p1 p2 p e s m below meth c T14 _ X14 hx hby hml hret hlk hown hZ _ e14 n0 Z14 N14 OLD_14 o11 _ A14 (by simp only [sz_set, sz_new]; decide) _ rfl _ rfl
      · have q6 := iEq.2 q
        clear q
        show Go p e below _ _ (mkF m 73 _ [])
        refine Go.on (g' := (mkF m 75 _ [(.ref o11)])) (fun t_ k_ => XS.aload X14.here hx rfl (hb hby at_73) rfl rfl k_) ?_
        refine Go.on (g' := (mkF m 76 _ [(.int (1 : Int32)), (.ref o11)])) (fun t_ k_ => XS.iconst X14.here hx rfl (hb hby at_75) k_) ?_
        refine Go.on (g' := (mkF m 77 _ [(.int (2 : Int32)), (.int (1 : Int32)), (.ref o11)])) (fun t_ k_ => XS.iconst X14.here hx rfl (hb hby at_76) k_) ?_
        obtain ⟨T15, h15, X15, e15, W15, st15⟩ := stB X14 hx hZ e14 A14 (j := (1 : Int32)) (by simp only [sz_set, sz_new]; decide) (g := (mkF m 77 #[.val (.int p0), .val (.int p1), .val (.int p2), .val (.int (3 : Int32)), .val (.ref o11), .unset] [(.int (2 : Int32)), (.int (1 : Int32)), (.ref o11)])) rfl rfl (hb hby at_77)
        have N15 := Fr.snoc X15 N14 no11
        have Z15 : n0 ≤ h15.size := by rw [W15.size]; exact Z14
        have OLD_15 := OLD_14.wr W15 no11
        have A15 := A14.same W15
        refine Go.on (g' := (mkF m 78 _ [])) (st15) ?_
        exact tl3 l Z w0 hw [] zd S0 p0 p1 p2 p e s m below meth c T15 _ X15 hx hby hml hret hlk hown hZ _ e15 n0 Z15 N15 OLD_15 o11 _ A15 (by simp only [sz_set, sz_new]; decide) _ rfl _ rfl
    · have q5 := iEq.2 q
      clear q
      show Go p e below _ _ (mkF m 57 _ [])
      refine Go.on (g' := (mkF m 59 _ [(.ref o11)])) (fun t_ k_ => XS.aload X14.here hx rfl (hb hby at_57) rfl rfl k_) ?_
      refine Go.on (g' := (mkF m 60 _ [(.int (0 : Int32)), (.ref o11)])) (fun t_ k_ => XS.iconst X14.here hx rfl (hb hby at_59) k_) ?_
      refine Go.on (g' := (mkF m 61 _ [(.int (2 : Int32)), (.int (0 : Int32)), (.ref o11)])) (fun t_ k_ => XS.iconst X14.here hx rfl (hb hby at_60) k_) ?_
      obtain ⟨T16, h16, X16, e16, W16, st16⟩ := stB X14 hx hZ e14 A14 (j := (0 : Int32)) (by simp only [sz_set, sz_new]; decide) (g := (mkF m 61 #[.val (.int p0), .val (.int p1), .val (.int p2), .val (.int (3 : Int32)), .val (.ref o11), .unset] [(.int (2 : Int32)), (.int (0 : Int32)), (.ref o11)])) rfl rfl (hb hby at_61)
      have N16 := Fr.snoc X16 N14 no11
      have Z16 : n0 ≤ h16.size := by rw [W16.size]; exact Z14
      have OLD_16 := OLD_14.wr W16 no11
      have A16 := A14.same W16
      refine Go.on (g' := (mkF m 62 _ [])) (st16) ?_
      refine Go.on (g' := (mkF m 63 _ [(.int (3 : Int32))])) (fun t_ k_ => XS.iloadN X16.here hx rfl (hb hby at_62) rfl k_) ?_
      refine Go.on (g' := (mkF m 64 _ [(.int (1 : Int32)), (.int (3 : Int32))])) (fun t_ k_ => XS.iconst X16.here hx rfl (hb hby at_63) k_) ?_
      refine Go.icmp X16 hx hby at_64 (pcT := 78) (pcF := 67) (by decide) (by decide) rfl (fun q => absurd q (by decide)) (fun q => ?_)
      clear q
      show Go p e below _ _ (mkF m 67 _ [])
      refine Go.on (g' := (mkF m 68 _ [(.int p2)])) (fun t_ k_ => XS.iloadN X16.here hx rfl (hb hby at_67) rfl k_) ?_
      refine Go.on (g' := (mkF m 69 _ [(.int (2 : Int32)), (.int p2)])) (fun t_ k_ => XS.iconst X16.here hx rfl (hb hby at_68) k_) ?_
      refine Go.on (g' := (mkF m 70 _ [(.int (p2 &&& (2 : Int32)))])) (fun t_ k_ => XS.iand X16.here hx rfl (hb hby at_69) rfl k_) ?_
      refine Go.ifc X16 hx hby at_70 (pcT := 78) (pcF := 73) (by decide) (by decide) rfl (fun q => ?_) (fun q => ?_)
      · have q7 := iEq.1 q
        clear q
        show Go p e below _ _ (mkF m 78 _ [])
        exact tl3 l Z w0 hw [] zd S0 p0 p1 p2 p e s m below meth c T16 _ X16 hx hby hml hret hlk hown hZ _ e16 n0 Z16 N16 OLD_16 o11 _ A16 (by simp only [sz_set, sz_new]; decide) _ rfl _ rfl
      · have q7 := iEq.2 q
        clear q
        show Go p e below _ _ (mkF m 73 _ [])
        refine Go.on (g' := (mkF m 75 _ [(.ref o11)])) (fun t_ k_ => XS.aload X16.here hx rfl (hb hby at_73) rfl rfl k_) ?_
        refine Go.on (g' := (mkF m 76 _ [(.int (1 : Int32)), (.ref o11)])) (fun t_ k_ => XS.iconst X16.here hx rfl (hb hby at_75) k_) ?_
        refine Go.on (g' := (mkF m 77 _ [(.int (2 : Int32)), (.int (1 : Int32)), (.ref o11)])) (fun t_ k_ => XS.iconst X16.here hx rfl (hb hby at_76) k_) ?_
        obtain ⟨T17, h17, X17, e17, W17, st17⟩ := stB X16 hx hZ e16 A16 (j := (1 : Int32)) (by simp only [sz_set, sz_new]; decide) (g := (mkF m 77 #[.val (.int p0), .val (.int p1), .val (.int p2), .val (.int (3 : Int32)), .val (.ref o11), .unset] [(.int (2 : Int32)), (.int (1 : Int32)), (.ref o11)])) rfl rfl (hb hby at_77)
        have N17 := Fr.snoc X17 N16 no11
        have Z17 : n0 ≤ h17.size := by rw [W17.size]; exact Z16
        have OLD_17 := OLD_16.wr W17 no11
        have A17 := A16.same W17
        refine Go.on (g' := (mkF m 78 _ [])) (st17) ?_
        exact tl3 l Z w0 hw [] zd S0 p0 p1 p2 p e s m below meth c T17 _ X17 hx hby hml hret hlk hown hZ _ e17 n0 Z17 N17 OLD_17 o11 _ A17 (by simp only [sz_set, sz_new]; decide) _ rfl _ rfl
set_option maxRecDepth 65536 in
set_option maxHeartbeats 40000000 in
theorem comes_1 {Post : Tables → Env → Array Value → State → Outcome → State → Prop} (hpost : ∀ tb e args s v u, (limb_1_1.after args s (.returned v) u = true ∧ limb_1_2.after args s (.returned v) u = true ∧ True) → FrameEnd s (.returned v) u (Jvm.fieldLocs frame_1_writes args s ++ Jvm.arrayLocs frame_1_arrays args s ++ Jvm.staticLocs frame_1_statics s) 16 128 → Post tb e args s (.returned v) u) :
    ArmFor flags0 classFile x code maxLocals ret World_1 tables_1 room_1 Calls_1 rest_1 Pre_1 Post := by
  intro l hfl _ _ p e ha hc hk s m args below hf hA hF happ hP
  obtain ⟨hcalls, hrest, hpre⟩ := hP
  obtain ⟨-, -, -, hnamed, -, -, -, hat⟩ := (Spec.applies_iff hf).mp happ
  obtain ⟨hg, hn⟩ := and_e (Cond.before_iff.mp (show (Jvm.Cond.and given_1 narrow_1).before args s = true from hpre))
  obtain ⟨hcount, hg⟩ := and_e hg
  obtain ⟨g0, hg⟩ := and_e hg
  obtain ⟨g1, hg⟩ := and_e hg
  have g2 := hg
  obtain ⟨w0, w1, w2, rfl⟩ : ∃ w0 w1 w2 : Value, args = #[w0, w1, w2] := by
    have hs : args.size = 3 := by simpa [Cond.value, given_1] using hcount
    obtain ⟨L⟩ := args
    match L, hs with
    | [w0, w1, w2], _ => exact ⟨w0, w1, w2, rfl⟩
  have hw := fun d (hd : d ∈ tables_1) => atoms_spec (ws := Jvm.Cond.code x code maxLocals ret :: tables_1) hat d (List.mem_cons_of_mem _ hd)
  obtain ⟨hsets, hown0⟩ := atoms_of _ (rest_1_c_eq ▸ (show rest_1_c.before _ s = true from hrest))
  have hfit : Fit s := fun {y c} hc i hi => by
    obtain ⟨ha, rfl⟩ := Array.getElem?_eq_some_iff.mp hc
    have q := List.all_eq_true.mp ((Array.all_eq_true_iff_forall_mem.mp hF) _ (Array.getElem_mem ha)) i (List.mem_range.mpr hi)
    simpa [Array.getElem?_eq_getElem hi] using q
  obtain ⟨i0, ev0⟩ := is_v g0
  obtain rfl : w0 = (.int i0) := Option.some.inj ev0
  obtain ⟨i1, ev1⟩ := is_v g1
  obtain rfl : w1 = (.int i1) := Option.some.inj ev1
  obtain ⟨i2, ev2⟩ := is_v g2
  obtain rfl : w2 = (.int i2) := Option.some.inj ev2
  obtain ⟨zd, vzd⟩ := exa_v (Cond.before_iff.mp (hsets _ (List.mem_of_getElem? (i := 4) rfl)))
  have S0 : Sta s s.heap "java/math/BigDecimal" "ZERO" "Ljava/math/BigDecimal;" (.ref zd) := Sta.start vzd (Or.inl (hsets _ (List.mem_of_getElem? (i := 1) rfl)))
  obtain ⟨n, o, h1, h2, h3, _, L, rfl, ⟨rfl, N⟩, hq⟩ := rmLaw l s _ hw tables_1 i0 i1 i2 s.heap s.heap.size (Nat.le_refl _) zd S0 (Old.start s) p e ha hc hk s m _ below hf ((Spec.applies_iff_loose hf).mp happ).1 ⟨rfl, State.Warmed39.refl s, rfl⟩ trivial
  refine ⟨n, _, h1, h2, h3, hpost _ _ _ _ _ _ ⟨Cond.after_iff.mpr rfl, Cond.after_iff.mpr (eq_i res_at (Term.int_eval (1)) rfl), trivial⟩ ⟨hq.1, hq.2.1, (hq.2.2.sift fun y hy => Or.inr (N y hy)).mono (by decide) (by decide)⟩⟩
theorem main_1_1 : Claimed_1_1 := comes_1 fun _ _ _ _ _ _ h hF => ⟨h.1, hF⟩
theorem main_1_2 : Claimed_1_2 := comes_1 fun _ _ _ _ _ _ h hF => ⟨h.2.1, hF⟩

end Jvm.Pilot.@@N@@
namespace Jvm.Pilot.@@N@@
open Jvm Jvm.ClassFile Sem Op Lib Jvm.Free Jvm.Stand Jvm.Pilot.@@N@@.Jvm.D
/-! MADE BY PROGRAM (witnessworld.py) out of the Statement's table words and the real class files: 13 classes; the members and pool entries that the words name. The judged class is class 1, her method 1. -/
namespace start1
open Jvm.ClassFile
def u (s : String) : CpInfo := .utf8 (stringToUtf16 s)
/-- a pool by its gaps: so many unusable entries, then the entry; so many at the end -/
def gap : Nat → List CpInfo → List CpInfo
  | 0, r => r
  | n + 1, r => .unusable :: gap n r
def poolList (es : List (Nat × CpInfo)) (last : Nat) : List CpInfo := es.foldr (fun e r => gap e.1 (e.2 :: r)) (gap last [])
def pool (es : List (Nat × CpInfo)) (last : Nat) : Array CpInfo := ⟨poolList es last⟩
def fileOf (pool : Array CpInfo) (this : Nat) (attrs : Array Attribute := #[]) (ms : Array MethodInfo := #[]) (fl : Nat := 33) (sup : Nat := 0) (ifs : Array Nat := #[]) (fds : Array FieldInfo := #[]) : ClassFile where
  minorVersion := 0
  majorVersion := 65
  constantPool := pool
  accessFlags := fl
  thisClass := this
  superClass := sup
  interfaces := ifs
  fields := fds
  methods := ms
  attributes := attrs
def plain (name : String) (sup : Option ClassId) : Class where
  name := name
  kind := .ordinary
  loader := none
  accessFlags := 33
  super := sup
  interfaces := #[]
  cf := none
  fields := #[]
  methods := #[]
  instanceTypes := #[]
  staticTypes := #[]
  resolved := #[]
  callSites := []
  init := .initialized
  statics := none
  mirror := none

def pool0 : Array CpInfo := pool [(5, u "<init>"), (0, u "()V"), (1, .class_ 10), (1, u "java/lang/Object")] 113

def k0c0 : Code := { maxStack := 0, maxLocals := 1, code := object_method_1_code, exceptionTable := #[], attributes := #[] }
def k0m0 : Method := { name := "<init>", desc := "()V", sig := { parameters := [], returnType := none }, accessFlags := 1, code := some k0c0 }
/-- java/lang/Object -/
def k0 : Class := { plain "java/lang/Object" none with
  accessFlags := 33
  interfaces := #[]
  cf := some (fileOf pool0 8 #[] #[{ accessFlags := 1, nameIndex := 5, descriptorIndex := 6, attributes := #[] }] 33 0 #[] #[])
  fields := #[]
  methods := #[k0m0]
  instanceTypes := #[]
  staticTypes := #[]
  resolved := Array.replicate 124 none
  statics := none }

def pool1 : Array CpInfo := pool [(2, .class_ 4), (1, u "java/lang/Object"), (0, u "<init>"), (0, u "()V"), (0, .class_ 8), (0, u "com/example/sakuin/sakuin/storage/KeyEncoding$Reader"), (0, .methodref 7 10), (0, .nameAndType 5 11), (0, u "([B)V"), (0, .methodref 7 13), (0, .nameAndType 14 15), (0, u "atEnd"), (0, u "()Z"), (0, .methodref 7 17), (0, .nameAndType 18 19), (0, u "position"), (0, u "()I"), (0, .methodref 7 21), (0, .nameAndType 22 23), (0, u "number"), (0, u "()Ljava/math/BigDecimal;"), (0, .class_ 25), (0, u "com/example/sakuin/sakuin/storage/ReaderAtEndPinLaw"), (2, u "law"), (0, u "(III)Z")] 9

def k1m0 : Method := { name := "<init>", desc := "()V", sig := { parameters := [], returnType := none }, accessFlags := 1, code := none }
def k1c1 : Code := { maxStack := 4, maxLocals := 6, code := code, exceptionTable := #[], attributes := #[] }
def k1m1 : Method := { name := "law", desc := "(III)Z", sig := { parameters := [.int, .int, .int], returnType := some .boolean }, accessFlags := 9, code := some k1c1 }
/-- com/example/sakuin/sakuin/storage/ReaderAtEndPinLaw -/
def k1 : Class := { plain "com/example/sakuin/sakuin/storage/ReaderAtEndPinLaw" (some 0) with
  accessFlags := 49
  interfaces := #[]
  cf := some (fileOf pool1 24 #[] #[{ accessFlags := 1, nameIndex := 5, descriptorIndex := 6, attributes := #[] }, { accessFlags := 9, nameIndex := 28, descriptorIndex := 29, attributes := #[] }] 49 2 #[] #[])
  fields := #[]
  methods := #[k1m0, k1m1]
  instanceTypes := #[]
  staticTypes := #[]
  resolved := Array.replicate 39 none
  statics := none }

def pool2 : Array CpInfo := pool [(1, .class_ 2), (0, u "com/example/sakuin/sakuin/storage/KeyEncoding"), (0, .methodref 4 5), (0, .class_ 6), (0, .nameAndType 7 8), (0, u "java/lang/Object"), (0, u "<init>"), (0, u "()V"), (0, .fieldref 10 11), (0, .class_ 12), (0, .nameAndType 13 14), (0, u "com/example/sakuin/sakuin/storage/KeyEncoding$Reader"), (0, u "key"), (0, u "[B"), (0, .fieldref 10 16), (0, .nameAndType 17 18), (0, u "position"), (0, u "I"), (58, .methodref 10 78), (0, .nameAndType 79 80), (0, u "next"), (0, u "()I"), (11, .fieldref 93 94), (0, .class_ 95), (0, .nameAndType 96 97), (0, u "java/math/BigDecimal"), (0, u "ZERO"), (0, u "Ljava/math/BigDecimal;"), (13, u "()Z"), (29, u "()Ljava/math/BigDecimal;"), (4, u "([B)V"), (2, u "atEnd"), (3, u "number")] 21

def k2c0 : Code := { maxStack := 2, maxLocals := 2, code := prog_69_method_1_code, exceptionTable := #[], attributes := #[] }
def k2m0 : Method := { name := "<init>", desc := "([B)V", sig := { parameters := [(.array .byte)], returnType := none }, accessFlags := 1, code := some k2c0 }
def k2c1 : Code := { maxStack := 2, maxLocals := 1, code := prog_69_method_2_code, exceptionTable := #[], attributes := #[] }
def k2m1 : Method := { name := "atEnd", desc := "()Z", sig := { parameters := [], returnType := some .boolean }, accessFlags := 1, code := some k2c1 }
def k2c2 : Code := { maxStack := 1, maxLocals := 1, code := prog_69_method_3_code, exceptionTable := #[], attributes := #[] }
def k2m2 : Method := { name := "position", desc := "()I", sig := { parameters := [], returnType := some .int }, accessFlags := 1, code := some k2c2 }
def k2c3 : Code := { maxStack := 5, maxLocals := 10, code := prog_69_method_6_code, exceptionTable := #[], attributes := #[] }
def k2m3 : Method := { name := "number", desc := "()Ljava/math/BigDecimal;", sig := { parameters := [], returnType := some (.object "java/math/BigDecimal") }, accessFlags := 1, code := some k2c3 }
def k2c4 : Code := { maxStack := 5, maxLocals := 1, code := prog_69_method_7_code, exceptionTable := #[], attributes := #[] }
def k2m4 : Method := { name := "next", desc := "()I", sig := { parameters := [], returnType := some .int }, accessFlags := 2, code := some k2c4 }
/-- com/example/sakuin/sakuin/storage/KeyEncoding$Reader -/
def k2 : Class := { plain "com/example/sakuin/sakuin/storage/KeyEncoding$Reader" (some 0) with
  accessFlags := 49
  interfaces := #[]
  cf := some (fileOf pool2 10 #[.nestHost 1] #[{ accessFlags := 1, nameIndex := 7, descriptorIndex := 146, attributes := #[] }, { accessFlags := 1, nameIndex := 149, descriptorIndex := 111, attributes := #[] }, { accessFlags := 1, nameIndex := 17, descriptorIndex := 80, attributes := #[] }, { accessFlags := 1, nameIndex := 153, descriptorIndex := 141, attributes := #[] }, { accessFlags := 2, nameIndex := 79, descriptorIndex := 80, attributes := #[] }] 49 4 #[] #[{ accessFlags := 18, nameIndex := 13, descriptorIndex := 14, attributes := #[] }, { accessFlags := 2, nameIndex := 17, descriptorIndex := 18, attributes := #[] }])
  fields := #[{ name := "key", type := (.array .byte), accessFlags := 18, slot := 0, constantValue := 0 }, { name := "position", type := .int, accessFlags := 2, slot := 1, constantValue := 0 }]
  methods := #[k2m0, k2m1, k2m2, k2m3, k2m4]
  instanceTypes := #[(.array .byte), .int]
  staticTypes := #[]
  resolved := Array.replicate 175 none
  statics := none }

def pool3 : Array CpInfo := pool [(1, .class_ 2), (0, u "java/io/Serializable"), (0, .class_ 4), (0, u "java/lang/Object")] 2

/-- java/io/Serializable -/
def k3 : Class := { plain "java/io/Serializable" (some 0) with
  accessFlags := 1537
  interfaces := #[]
  cf := some (fileOf pool3 1 #[] #[] 1537 3 #[] #[])
  fields := #[]
  methods := #[]
  instanceTypes := #[]
  staticTypes := #[]
  resolved := Array.replicate 7 none
  statics := none }

def pool4 : Array CpInfo := pool [(2, .class_ 4), (1, u "java/lang/Object"), (0, u "<init>"), (0, u "()V"), (1, .class_ 10), (1, u "java/lang/Number"), (2, .class_ 14), (0, u "java/io/Serializable"), (0, u "serialVersionUID"), (0, u "J")] 20

def k4m0 : Method := { name := "<init>", desc := "()V", sig := { parameters := [], returnType := none }, accessFlags := 1, code := none }
/-- java/lang/Number -/
def k4 : Class := { plain "java/lang/Number" (some 0) with
  accessFlags := 1057
  interfaces := #[3]
  cf := some (fileOf pool4 8 #[] #[{ accessFlags := 1, nameIndex := 5, descriptorIndex := 6, attributes := #[] }] 1057 2 #[13] #[{ accessFlags := 26, nameIndex := 15, descriptorIndex := 16, attributes := #[] }])
  fields := #[{ name := "serialVersionUID", type := .long, accessFlags := 26, slot := 0, constantValue := 0 }]
  methods := #[k4m0]
  instanceTypes := #[]
  staticTypes := #[.long]
  resolved := Array.replicate 37 none
  statics := none }

def pool5 : Array CpInfo := pool [(1, .class_ 2), (0, u "java/lang/Comparable"), (0, .class_ 4), (0, u "java/lang/Object")] 7

/-- java/lang/Comparable -/
def k5 : Class := { plain "java/lang/Comparable" (some 0) with
  accessFlags := 1537
  interfaces := #[]
  cf := some (fileOf pool5 1 #[] #[] 1537 3 #[] #[])
  fields := #[]
  methods := #[]
  instanceTypes := #[]
  staticTypes := #[]
  resolved := Array.replicate 12 none
  statics := none }

def pool6 : Array CpInfo := pool [(3, .class_ 4), (0, u "java/math/BigDecimal"), (7, .class_ 14), (1, u "java/lang/Number"), (4, u "scale"), (0, u "I"), (2, u "precision"), (2, u "intCompact"), (0, u "J"), (2, u "intVal"), (0, u "Ljava/math/BigInteger;"), (65, u "LONG_TEN_POWERS_TABLE"), (0, u "[J"), (88, u "ZERO"), (2, u "INFLATED_BIGINT"), (15, u "TWO"), (41, u "ZERO_THROUGH_TEN"), (0, u "[Ljava/math/BigDecimal;"), (2, u "ZERO_SCALED_BY"), (60, u "$assertionsDisabled"), (0, u "Z"), (163, u "ONE_TENTH"), (0, u "Ljava/math/BigDecimal;"), (5, u "TEN"), (14, .class_ 502), (1, u "java/math/BigDecimal$1"), (15, u "ONE_HALF"), (16, u "ONE"), (107, u "stringCache"), (0, u "Ljava/lang/String;"), (52, .class_ 699), (1, u "java/math/BigDecimal$LongOverflow"), (8, u "FLOAT_10_POW"), (0, u "[F"), (39, u "DOUBLE_10_POW"), (0, u "[D"), (19, .class_ 772), (1, u "java/math/BigDecimal$StringBuilderHelper"), (35, u "BIG_TEN_POWERS_TABLE_MAX"), (2, u "BIG_TEN_POWERS_TABLE"), (0, u "[Ljava/math/BigInteger;"), (14, u "THRESHOLDS_TABLE"), (23, .class_ 853), (1, u "java/math/BigDecimal$UnsafeHolder"), (214, u "LONGLONG_TEN_POWERS_TABLE"), (0, u "[[J"), (112, u "BIG_TEN_POWERS_TABLE_INITLEN"), (113, .class_ 1297), (0, u "java/lang/Comparable"), (0, u "L"), (0, u "D"), (1, u "P_F"), (1, u "Q_MIN_F"), (1, u "Q_MAX_F"), (1, u "P_D"), (1, u "Q_MIN_D"), (1, u "Q_MAX_D"), (1, u "INFLATED"), (0, u "MAX_COMPACT_DIGITS"), (1, u "serialVersionUID"), (2, u "HALF_LONG_MAX_VALUE"), (0, u "HALF_LONG_MIN_VALUE"), (0, u "ROUND_UP"), (6, u "ROUND_DOWN"), (1, u "ROUND_CEILING"), (1, u "ROUND_FLOOR"), (1, u "ROUND_HALF_UP"), (1, u "ROUND_HALF_DOWN"), (1, u "ROUND_HALF_EVEN"), (1, u "ROUND_UNNECESSARY"), (1, u "DIV_NUM_BASE")] 294

/-- java/math/BigDecimal -/
def k6 : Class := { plain "java/math/BigDecimal" (some 4) with
  accessFlags := 33
  interfaces := #[5]
  cf := some (fileOf pool6 3 #[.nestMembers #[500, 851, 770, 697]] #[] 33 12 #[1296] #[{ accessFlags := 26, nameIndex := 1298, descriptorIndex := 1299, attributes := #[] }, { accessFlags := 26, nameIndex := 1301, descriptorIndex := 20, attributes := #[] }, { accessFlags := 26, nameIndex := 1303, descriptorIndex := 20, attributes := #[] }, { accessFlags := 26, nameIndex := 1305, descriptorIndex := 20, attributes := #[] }, { accessFlags := 26, nameIndex := 1307, descriptorIndex := 20, attributes := #[] }, { accessFlags := 26, nameIndex := 1309, descriptorIndex := 20, attributes := #[] }, { accessFlags := 26, nameIndex := 1311, descriptorIndex := 20, attributes := #[] }, { accessFlags := 18, nameIndex := 30, descriptorIndex := 31, attributes := #[] }, { accessFlags := 18, nameIndex := 19, descriptorIndex := 20, attributes := #[] }, { accessFlags := 130, nameIndex := 23, descriptorIndex := 20, attributes := #[] }, { accessFlags := 130, nameIndex := 643, descriptorIndex := 644, attributes := #[] }, { accessFlags := 24, nameIndex := 1313, descriptorIndex := 27, attributes := #[] }, { accessFlags := 26, nameIndex := 190, descriptorIndex := 31, attributes := #[] }, { accessFlags := 146, nameIndex := 26, descriptorIndex := 27, attributes := #[] }, { accessFlags := 26, nameIndex := 1314, descriptorIndex := 20, attributes := #[] }, { accessFlags := 26, nameIndex := 1316, descriptorIndex := 27, attributes := #[] }, { accessFlags := 26, nameIndex := 248, descriptorIndex := 249, attributes := #[] }, { accessFlags := 26, nameIndex := 252, descriptorIndex := 249, attributes := #[] }, { accessFlags := 26, nameIndex := 1319, descriptorIndex := 27, attributes := #[] }, { accessFlags := 26, nameIndex := 1320, descriptorIndex := 27, attributes := #[] }, { accessFlags := 25, nameIndex := 187, descriptorIndex := 479, attributes := #[] }, { accessFlags := 25, nameIndex := 535, descriptorIndex := 479, attributes := #[] }, { accessFlags := 25, nameIndex := 206, descriptorIndex := 479, attributes := #[] }, { accessFlags := 25, nameIndex := 485, descriptorIndex := 479, attributes := #[] }, { accessFlags := 26, nameIndex := 478, descriptorIndex := 479, attributes := #[] }, { accessFlags := 26, nameIndex := 518, descriptorIndex := 479, attributes := #[] }, { accessFlags := 25, nameIndex := 1321, descriptorIndex := 20, attributes := #[] }, { accessFlags := 25, nameIndex := 1328, descriptorIndex := 20, attributes := #[] }, { accessFlags := 25, nameIndex := 1330, descriptorIndex := 20, attributes := #[] }, { accessFlags := 25, nameIndex := 1332, descriptorIndex := 20, attributes := #[] }, { accessFlags := 25, nameIndex := 1334, descriptorIndex := 20, attributes := #[] }, { accessFlags := 25, nameIndex := 1336, descriptorIndex := 20, attributes := #[] }, { accessFlags := 25, nameIndex := 1338, descriptorIndex := 20, attributes := #[] }, { accessFlags := 25, nameIndex := 1340, descriptorIndex := 20, attributes := #[] }, { accessFlags := 26, nameIndex := 749, descriptorIndex := 750, attributes := #[] }, { accessFlags := 26, nameIndex := 708, descriptorIndex := 709, attributes := #[] }, { accessFlags := 26, nameIndex := 97, descriptorIndex := 98, attributes := #[] }, { accessFlags := 74, nameIndex := 811, descriptorIndex := 812, attributes := #[] }, { accessFlags := 26, nameIndex := 1182, descriptorIndex := 20, attributes := #[] }, { accessFlags := 26, nameIndex := 808, descriptorIndex := 20, attributes := #[] }, { accessFlags := 26, nameIndex := 827, descriptorIndex := 98, attributes := #[] }, { accessFlags := 26, nameIndex := 1342, descriptorIndex := 27, attributes := #[] }, { accessFlags := 26, nameIndex := 1068, descriptorIndex := 1069, attributes := #[] }, { accessFlags := 4120, nameIndex := 313, descriptorIndex := 314, attributes := #[] }])
  fields := #[{ name := "L", type := .double, accessFlags := 26, slot := 0, constantValue := 0 }, { name := "P_F", type := .int, accessFlags := 26, slot := 1, constantValue := 0 }, { name := "Q_MIN_F", type := .int, accessFlags := 26, slot := 2, constantValue := 0 }, { name := "Q_MAX_F", type := .int, accessFlags := 26, slot := 3, constantValue := 0 }, { name := "P_D", type := .int, accessFlags := 26, slot := 4, constantValue := 0 }, { name := "Q_MIN_D", type := .int, accessFlags := 26, slot := 5, constantValue := 0 }, { name := "Q_MAX_D", type := .int, accessFlags := 26, slot := 6, constantValue := 0 }, { name := "intVal", type := (.object "java/math/BigInteger"), accessFlags := 18, slot := 0, constantValue := 0 }, { name := "scale", type := .int, accessFlags := 18, slot := 1, constantValue := 0 }, { name := "precision", type := .int, accessFlags := 130, slot := 2, constantValue := 0 }, { name := "stringCache", type := (.object "java/lang/String"), accessFlags := 130, slot := 3, constantValue := 0 }, { name := "INFLATED", type := .long, accessFlags := 24, slot := 7, constantValue := 0 }, { name := "INFLATED_BIGINT", type := (.object "java/math/BigInteger"), accessFlags := 26, slot := 8, constantValue := 0 }, { name := "intCompact", type := .long, accessFlags := 146, slot := 4, constantValue := 0 }, { name := "MAX_COMPACT_DIGITS", type := .int, accessFlags := 26, slot := 9, constantValue := 0 }, { name := "serialVersionUID", type := .long, accessFlags := 26, slot := 10, constantValue := 0 }, { name := "ZERO_THROUGH_TEN", type := (.array (.object "java/math/BigDecimal")), accessFlags := 26, slot := 11, constantValue := 0 }, { name := "ZERO_SCALED_BY", type := (.array (.object "java/math/BigDecimal")), accessFlags := 26, slot := 12, constantValue := 0 }, { name := "HALF_LONG_MAX_VALUE", type := .long, accessFlags := 26, slot := 13, constantValue := 0 }, { name := "HALF_LONG_MIN_VALUE", type := .long, accessFlags := 26, slot := 14, constantValue := 0 }, { name := "ZERO", type := (.object "java/math/BigDecimal"), accessFlags := 25, slot := 15, constantValue := 0 }, { name := "ONE", type := (.object "java/math/BigDecimal"), accessFlags := 25, slot := 16, constantValue := 0 }, { name := "TWO", type := (.object "java/math/BigDecimal"), accessFlags := 25, slot := 17, constantValue := 0 }, { name := "TEN", type := (.object "java/math/BigDecimal"), accessFlags := 25, slot := 18, constantValue := 0 }, { name := "ONE_TENTH", type := (.object "java/math/BigDecimal"), accessFlags := 26, slot := 19, constantValue := 0 }, { name := "ONE_HALF", type := (.object "java/math/BigDecimal"), accessFlags := 26, slot := 20, constantValue := 0 }, { name := "ROUND_UP", type := .int, accessFlags := 25, slot := 21, constantValue := 0 }, { name := "ROUND_DOWN", type := .int, accessFlags := 25, slot := 22, constantValue := 0 }, { name := "ROUND_CEILING", type := .int, accessFlags := 25, slot := 23, constantValue := 0 }, { name := "ROUND_FLOOR", type := .int, accessFlags := 25, slot := 24, constantValue := 0 }, { name := "ROUND_HALF_UP", type := .int, accessFlags := 25, slot := 25, constantValue := 0 }, { name := "ROUND_HALF_DOWN", type := .int, accessFlags := 25, slot := 26, constantValue := 0 }, { name := "ROUND_HALF_EVEN", type := .int, accessFlags := 25, slot := 27, constantValue := 0 }, { name := "ROUND_UNNECESSARY", type := .int, accessFlags := 25, slot := 28, constantValue := 0 }, { name := "DOUBLE_10_POW", type := (.array .double), accessFlags := 26, slot := 29, constantValue := 0 }, { name := "FLOAT_10_POW", type := (.array .float), accessFlags := 26, slot := 30, constantValue := 0 }, { name := "LONG_TEN_POWERS_TABLE", type := (.array .long), accessFlags := 26, slot := 31, constantValue := 0 }, { name := "BIG_TEN_POWERS_TABLE", type := (.array (.object "java/math/BigInteger")), accessFlags := 74, slot := 32, constantValue := 0 }, { name := "BIG_TEN_POWERS_TABLE_INITLEN", type := .int, accessFlags := 26, slot := 33, constantValue := 0 }, { name := "BIG_TEN_POWERS_TABLE_MAX", type := .int, accessFlags := 26, slot := 34, constantValue := 0 }, { name := "THRESHOLDS_TABLE", type := (.array .long), accessFlags := 26, slot := 35, constantValue := 0 }, { name := "DIV_NUM_BASE", type := .long, accessFlags := 26, slot := 36, constantValue := 0 }, { name := "LONGLONG_TEN_POWERS_TABLE", type := (.array (.array .long)), accessFlags := 26, slot := 37, constantValue := 0 }, { name := "$assertionsDisabled", type := .boolean, accessFlags := 4120, slot := 38, constantValue := 0 }]
  methods := #[]
  instanceTypes := #[(.object "java/math/BigInteger"), .int, .int, (.object "java/lang/String"), .long]
  staticTypes := #[.double, .int, .int, .int, .int, .int, .int, .long, (.object "java/math/BigInteger"), .int, .long, (.array (.object "java/math/BigDecimal")), (.array (.object "java/math/BigDecimal")), .long, .long, (.object "java/math/BigDecimal"), (.object "java/math/BigDecimal"), (.object "java/math/BigDecimal"), (.object "java/math/BigDecimal"), (.object "java/math/BigDecimal"), (.object "java/math/BigDecimal"), .int, .int, .int, .int, .int, .int, .int, .int, (.array .double), (.array .float), (.array .long), (.array (.object "java/math/BigInteger")), .int, .int, (.array .long), .long, (.array (.array .long)), .boolean]
  resolved := Array.replicate 1637 none
  statics := some 0 }

def pool7 : Array CpInfo := pool [(4, .class_ 6), (1, u "java/lang/Number"), (16, .class_ 25), (1, u "java/math/BigInteger"), (0, u "ZERO"), (0, u "Ljava/math/BigInteger;"), (2, u "mag"), (0, u "[I"), (2, u "signum"), (0, u "I"), (59, u "bitsPerDigit"), (0, u "[J"), (9, u "digitsPerInt"), (12, u "intRadix"), (60, u "SMALL_PRIME_PRODUCT"), (79, u "ONE"), (6, u "TWO"), (43, u "$assertionsDisabled"), (0, u "Z"), (36, u "posConst"), (0, u "[Ljava/math/BigInteger;"), (4, u "negConst"), (116, .class_ 474), (1, u "java/math/BigInteger$RecursiveOp"), (106, u "NEGATIVE_ONE"), (91, u "bnExpModThreshTable"), (72, u "lowestSetBitPlusTwo"), (2, u "bitLengthPlusOne"), (2, u "bitCountPlusOne"), (6, u "LOG_TWO"), (0, u "D"), (2, u "logCache"), (0, u "[D"), (13, u "NUM_ZEROS"), (2, u "ZEROS"), (0, u "Ljava/lang/String;"), (9, u "longRadix"), (5, u "digitsPerLong"), (22, u "powerCache"), (0, u "[[Ljava/math/BigInteger;"), (45, u "firstNonzeroIntNumPlusTwo"), (38, .class_ 909), (1, u "java/math/BigInteger$UnsafeHolder"), (141, u "TEN"), (106, u "serialPersistentFields"), (0, u "[Ljava/io/ObjectStreamField;"), (0, .class_ 1161), (0, u "java/lang/Comparable"), (0, u "LONG_MASK"), (0, u "J"), (1, u "MAX_MAG_LENGTH"), (0, u "PRIME_SEARCH_BIT_LENGTH_LIMIT"), (1, u "KARATSUBA_THRESHOLD"), (1, u "TOOM_COOK_THRESHOLD"), (1, u "KARATSUBA_SQUARE_THRESHOLD"), (1, u "TOOM_COOK_SQUARE_THRESHOLD"), (1, u "BURNIKEL_ZIEGLER_THRESHOLD"), (0, u "BURNIKEL_ZIEGLER_OFFSET"), (1, u "SCHOENHAGE_BASE_CONVERSION_THRESHOLD"), (1, u "MULTIPLY_SQUARE_THRESHOLD"), (0, u "MONTGOMERY_INTRINSIC_THRESHOLD"), (1, u "SMALL_PRIME_THRESHOLD"), (1, u "DEFAULT_PRIME_CERTAINTY"), (1, u "MAX_CONSTANT"), (3, u "serialVersionUID"), (338, .class_ 1532), (0, u "java/math/BigInteger$RecursiveOp$RecursiveSquare"), (0, .class_ 1534), (0, u "java/math/BigInteger$RecursiveOp$RecursiveMultiply")] 7

/-- java/math/BigInteger -/
def k7 : Class := { plain "java/math/BigInteger" (some 4) with
  accessFlags := 33
  interfaces := #[5]
  cf := some (fileOf pool7 23 #[.nestMembers #[907, 472, 1531, 1533]] #[] 33 4 #[1160] #[{ accessFlags := 16, nameIndex := 34, descriptorIndex := 35, attributes := #[] }, { accessFlags := 16, nameIndex := 30, descriptorIndex := 31, attributes := #[] }, { accessFlags := 2, nameIndex := 752, descriptorIndex := 35, attributes := #[] }, { accessFlags := 2, nameIndex := 749, descriptorIndex := 35, attributes := #[] }, { accessFlags := 2, nameIndex := 746, descriptorIndex := 35, attributes := #[] }, { accessFlags := 2, nameIndex := 868, descriptorIndex := 35, attributes := #[] }, { accessFlags := 24, nameIndex := 1162, descriptorIndex := 1163, attributes := #[] }, { accessFlags := 26, nameIndex := 1165, descriptorIndex := 35, attributes := #[] }, { accessFlags := 26, nameIndex := 1166, descriptorIndex := 35, attributes := #[] }, { accessFlags := 26, nameIndex := 1168, descriptorIndex := 35, attributes := #[] }, { accessFlags := 26, nameIndex := 1170, descriptorIndex := 35, attributes := #[] }, { accessFlags := 26, nameIndex := 1172, descriptorIndex := 35, attributes := #[] }, { accessFlags := 26, nameIndex := 1174, descriptorIndex := 35, attributes := #[] }, { accessFlags := 24, nameIndex := 1176, descriptorIndex := 35, attributes := #[] }, { accessFlags := 24, nameIndex := 1177, descriptorIndex := 35, attributes := #[] }, { accessFlags := 26, nameIndex := 1179, descriptorIndex := 35, attributes := #[] }, { accessFlags := 26, nameIndex := 1181, descriptorIndex := 35, attributes := #[] }, { accessFlags := 26, nameIndex := 1182, descriptorIndex := 35, attributes := #[] }, { accessFlags := 10, nameIndex := 95, descriptorIndex := 96, attributes := #[] }, { accessFlags := 26, nameIndex := 1184, descriptorIndex := 35, attributes := #[] }, { accessFlags := 26, nameIndex := 1186, descriptorIndex := 35, attributes := #[] }, { accessFlags := 26, nameIndex := 180, descriptorIndex := 27, attributes := #[] }, { accessFlags := 26, nameIndex := 1188, descriptorIndex := 35, attributes := #[] }, { accessFlags := 26, nameIndex := 349, descriptorIndex := 350, attributes := #[] }, { accessFlags := 26, nameIndex := 355, descriptorIndex := 350, attributes := #[] }, { accessFlags := 74, nameIndex := 821, descriptorIndex := 822, attributes := #[] }, { accessFlags := 26, nameIndex := 763, descriptorIndex := 764, attributes := #[] }, { accessFlags := 26, nameIndex := 759, descriptorIndex := 760, attributes := #[] }, { accessFlags := 25, nameIndex := 26, descriptorIndex := 27, attributes := #[] }, { accessFlags := 25, nameIndex := 260, descriptorIndex := 27, attributes := #[] }, { accessFlags := 25, nameIndex := 267, descriptorIndex := 27, attributes := #[] }, { accessFlags := 26, nameIndex := 581, descriptorIndex := 27, attributes := #[] }, { accessFlags := 25, nameIndex := 1051, descriptorIndex := 27, attributes := #[] }, { accessFlags := 8, nameIndex := 673, descriptorIndex := 31, attributes := #[] }, { accessFlags := 10, nameIndex := 778, descriptorIndex := 35, attributes := #[] }, { accessFlags := 26, nameIndex := 781, descriptorIndex := 782, attributes := #[] }, { accessFlags := 10, nameIndex := 798, descriptorIndex := 31, attributes := #[] }, { accessFlags := 10, nameIndex := 792, descriptorIndex := 350, attributes := #[] }, { accessFlags := 10, nameIndex := 106, descriptorIndex := 31, attributes := #[] }, { accessFlags := 10, nameIndex := 119, descriptorIndex := 31, attributes := #[] }, { accessFlags := 26, nameIndex := 1192, descriptorIndex := 1163, attributes := #[] }, { accessFlags := 26, nameIndex := 1158, descriptorIndex := 1159, attributes := #[] }, { accessFlags := 4120, nameIndex := 311, descriptorIndex := 312, attributes := #[] }])
  fields := #[{ name := "signum", type := .int, accessFlags := 16, slot := 0, constantValue := 0 }, { name := "mag", type := (.array .int), accessFlags := 16, slot := 1, constantValue := 0 }, { name := "bitCountPlusOne", type := .int, accessFlags := 2, slot := 2, constantValue := 0 }, { name := "bitLengthPlusOne", type := .int, accessFlags := 2, slot := 3, constantValue := 0 }, { name := "lowestSetBitPlusTwo", type := .int, accessFlags := 2, slot := 4, constantValue := 0 }, { name := "firstNonzeroIntNumPlusTwo", type := .int, accessFlags := 2, slot := 5, constantValue := 0 }, { name := "LONG_MASK", type := .long, accessFlags := 24, slot := 0, constantValue := 0 }, { name := "MAX_MAG_LENGTH", type := .int, accessFlags := 26, slot := 1, constantValue := 0 }, { name := "PRIME_SEARCH_BIT_LENGTH_LIMIT", type := .int, accessFlags := 26, slot := 2, constantValue := 0 }, { name := "KARATSUBA_THRESHOLD", type := .int, accessFlags := 26, slot := 3, constantValue := 0 }, { name := "TOOM_COOK_THRESHOLD", type := .int, accessFlags := 26, slot := 4, constantValue := 0 }, { name := "KARATSUBA_SQUARE_THRESHOLD", type := .int, accessFlags := 26, slot := 5, constantValue := 0 }, { name := "TOOM_COOK_SQUARE_THRESHOLD", type := .int, accessFlags := 26, slot := 6, constantValue := 0 }, { name := "BURNIKEL_ZIEGLER_THRESHOLD", type := .int, accessFlags := 24, slot := 7, constantValue := 0 }, { name := "BURNIKEL_ZIEGLER_OFFSET", type := .int, accessFlags := 24, slot := 8, constantValue := 0 }, { name := "SCHOENHAGE_BASE_CONVERSION_THRESHOLD", type := .int, accessFlags := 26, slot := 9, constantValue := 0 }, { name := "MULTIPLY_SQUARE_THRESHOLD", type := .int, accessFlags := 26, slot := 10, constantValue := 0 }, { name := "MONTGOMERY_INTRINSIC_THRESHOLD", type := .int, accessFlags := 26, slot := 11, constantValue := 0 }, { name := "bitsPerDigit", type := (.array .long), accessFlags := 10, slot := 12, constantValue := 0 }, { name := "SMALL_PRIME_THRESHOLD", type := .int, accessFlags := 26, slot := 13, constantValue := 0 }, { name := "DEFAULT_PRIME_CERTAINTY", type := .int, accessFlags := 26, slot := 14, constantValue := 0 }, { name := "SMALL_PRIME_PRODUCT", type := (.object "java/math/BigInteger"), accessFlags := 26, slot := 15, constantValue := 0 }, { name := "MAX_CONSTANT", type := .int, accessFlags := 26, slot := 16, constantValue := 0 }, { name := "posConst", type := (.array (.object "java/math/BigInteger")), accessFlags := 26, slot := 17, constantValue := 0 }, { name := "negConst", type := (.array (.object "java/math/BigInteger")), accessFlags := 26, slot := 18, constantValue := 0 }, { name := "powerCache", type := (.array (.array (.object "java/math/BigInteger"))), accessFlags := 74, slot := 19, constantValue := 0 }, { name := "logCache", type := (.array .double), accessFlags := 26, slot := 20, constantValue := 0 }, { name := "LOG_TWO", type := .double, accessFlags := 26, slot := 21, constantValue := 0 }, { name := "ZERO", type := (.object "java/math/BigInteger"), accessFlags := 25, slot := 22, constantValue := 0 }, { name := "ONE", type := (.object "java/math/BigInteger"), accessFlags := 25, slot := 23, constantValue := 0 }, { name := "TWO", type := (.object "java/math/BigInteger"), accessFlags := 25, slot := 24, constantValue := 0 }, { name := "NEGATIVE_ONE", type := (.object "java/math/BigInteger"), accessFlags := 26, slot := 25, constantValue := 0 }, { name := "TEN", type := (.object "java/math/BigInteger"), accessFlags := 25, slot := 26, constantValue := 0 }, { name := "bnExpModThreshTable", type := (.array .int), accessFlags := 8, slot := 27, constantValue := 0 }, { name := "NUM_ZEROS", type := .int, accessFlags := 10, slot := 28, constantValue := 0 }, { name := "ZEROS", type := (.object "java/lang/String"), accessFlags := 26, slot := 29, constantValue := 0 }, { name := "digitsPerLong", type := (.array .int), accessFlags := 10, slot := 30, constantValue := 0 }, { name := "longRadix", type := (.array (.object "java/math/BigInteger")), accessFlags := 10, slot := 31, constantValue := 0 }, { name := "digitsPerInt", type := (.array .int), accessFlags := 10, slot := 32, constantValue := 0 }, { name := "intRadix", type := (.array .int), accessFlags := 10, slot := 33, constantValue := 0 }, { name := "serialVersionUID", type := .long, accessFlags := 26, slot := 34, constantValue := 0 }, { name := "serialPersistentFields", type := (.array (.object "java/io/ObjectStreamField")), accessFlags := 26, slot := 35, constantValue := 0 }, { name := "$assertionsDisabled", type := .boolean, accessFlags := 4120, slot := 36, constantValue := 0 }]
  methods := #[]
  instanceTypes := #[.int, (.array .int), .int, .int, .int, .int]
  staticTypes := #[.long, .int, .int, .int, .int, .int, .int, .int, .int, .int, .int, .int, (.array .long), .int, .int, (.object "java/math/BigInteger"), .int, (.array (.object "java/math/BigInteger")), (.array (.object "java/math/BigInteger")), (.array (.array (.object "java/math/BigInteger"))), (.array .double), .double, (.object "java/math/BigInteger"), (.object "java/math/BigInteger"), (.object "java/math/BigInteger"), (.object "java/math/BigInteger"), (.object "java/math/BigInteger"), (.array .int), .int, (.object "java/lang/String"), (.array .int), (.array (.object "java/math/BigInteger")), (.array .int), (.array .int), .long, (.array (.object "java/io/ObjectStreamField")), .boolean]
  resolved := Array.replicate 1542 none
  statics := some 1 }

def pool8 : Array CpInfo := pool [(1, u "java/lang/Cloneable"), (0, .class_ 1), (0, u "java/lang/Object"), (0, .class_ 3)] 3

/-- java/lang/Cloneable -/
def k8 : Class := { plain "java/lang/Cloneable" (some 0) with
  accessFlags := 1537
  interfaces := #[]
  cf := some (fileOf pool8 2 #[] #[] 1537 4 #[] #[])
  fields := #[]
  methods := #[]
  instanceTypes := #[]
  staticTypes := #[]
  resolved := Array.replicate 8 none
  statics := none }

/-- the primitive byte -/
def k9 : Class := { plain "byte" none with kind := .primitive 'B', accessFlags := 0x411 }
/-- [B -/
def k10 : Class := { plain "[B" (some 0) with kind := .array 9 .byte, interfaces := #[8, 3], accessFlags := 1041 }

/-- the primitive int -/
def k11 : Class := { plain "int" none with kind := .primitive 'I', accessFlags := 0x411 }
/-- [I -/
def k12 : Class := { plain "[I" (some 0) with kind := .array 11 .int, interfaces := #[8, 3], accessFlags := 1041 }

def heap : Heap := #[{ cls := 6, slots := #[.double 0, .int 0, .int 0, .int 0, .int 0, .int 0, .int 0, .long 0, .null, .int 0, .long 0, .null, .null, .long 0, .long 0, .ref 4, .null, .null, .null, .null, .null, .int 0, .int 0, .int 0, .int 0, .int 0, .int 0, .int 0, .int 0, .null, .null, .null, .null, .int 0, .int 0, .null, .long 0, .null, .int 0], vm := .statics 6 },
  { cls := 7, slots := #[.long 0, .int 0, .int 0, .int 0, .int 0, .int 0, .int 0, .int 0, .int 0, .int 0, .int 0, .int 0, .null, .int 0, .int 0, .null, .int 0, .null, .null, .null, .null, .double 0, .ref 3, .null, .null, .null, .null, .null, .int 0, .null, .null, .null, .null, .null, .long 0, .null, .int 0], vm := .statics 7 },
  { cls := 12, slots := #[], vm := .none },
  { cls := 7, slots := #[.int 0, .ref 2, .int 0, .int 0, .int 0, .int 0], vm := .none },
  { cls := 6, slots := #[.ref 3, .int 0, .int 0, .null, .long 0], vm := .none }]
def classes : Array Class := #[k0, k1, k2, k3, k4, k5, k6, k7, k8, k9, k10, k11, k12]
def interned : List (Array UInt16 × Addr) := []
def slotsUsed : Nat := 87
def theMethod : MethodId := ⟨1, 1⟩
def args0 : Array Value := #[.int 2, .int 7, .int 3]
def aboutOver (below : List Frame) : State where
  vm := { classes := classes, interned := interned.toArray }
  heap := heap
  slotsUsed := slotsUsed
  threads := #[{ frames := .invoking theMethod args0 :: below }]
def below0 : List Frame := [.native { method := ⟨0, 0⟩, args := #[] }]
def about1 : State := aboutOver below0
def p0 : Program := .bare "" "" ""
def e0 : Env := launch0.env 0 0 0
theorem w_frames : about1.frames = Frame.invoking theMethod args0 :: below0 := rfl
set_option maxRecDepth 65536 in
theorem w_args : argsFit about1.vm theMethod args0 = true := by decide +kernel
set_option maxRecDepth 65536 in
theorem w_heap : heapFits about1 = true := by decide +kernel
set_option maxRecDepth 65536 in
theorem w_runnable : about1.curStatus? = some .runnable := by decide +kernel
set_option maxRecDepth 65536 in
theorem w_alone : about1.alone = true := by decide +kernel
set_option maxRecDepth 65536 in
theorem w_named : about1.methodNamed? x = some theMethod := by decide +kernel
set_option maxRecDepth 65536 in
theorem w_hears : about1.hears theMethod below0 = true := by decide +kernel
set_option maxRecDepth 65536 in
theorem w_ripe : about1.ripe theMethod args0 below0 = true := by decide +kernel
theorem w_running : about1.status = .running := rfl
set_option maxRecDepth 65536 in
theorem w_room : about1.hasRoom e0.platform room_1 = true :=
  launch0.hasRoom_least _ room_1 (by decide +kernel) (by decide +kernel) (by decide +kernel) (by decide +kernel) (by decide +kernel) (by decide +kernel)
theorem allAtoms_all (ts : List Jvm.Cond) (a : Array Jvm.Value) (st : Jvm.State) : (allAtoms ts).before a st = ts.all (fun c => c.before a st) := by
  induction ts with
  | nil => rfl
  | cons c t ih =>
    show (Jvm.Cond.and c (allAtoms t)).before a st = _
    rw [Jvm.Cond.before_and, ih, List.all_cons]
def words1 : List Jvm.Cond := Jvm.Cond.code x code maxLocals ret :: tables_1
/-- a 'code' word, met by the world's own term for the bytes: nothing is compared byte by byte -/
theorem code_word {y : MethodName} {bytes : ByteArray} {mx : Nat} {rt : Option FieldType} {a : Array Value} {s : State} {m : MethodId} {meth : Method} {c : Code} (h1 : s.methodNamed? y = some m) (h2 : s.vm.method? m = some meth) (h3 : meth.code = some c) (h4 : c.code = bytes)
    (h5 : (c.maxLocals == mx && c.exceptionTable.isEmpty && decide (c.maxStack ≤ mostOperands) && decide (meth.sig.returnType = rt) && !meth.locks && decide (parseMethodDescriptor y.desc = some meth.sig)) = true) : (Jvm.Cond.code y bytes mx rt).before a s = true := by
  simp only [Bool.and_eq_true, beq_iff_eq, Bool.not_eq_true', decide_eq_true_eq] at h5
  obtain ⟨⟨⟨⟨⟨g1, g2⟩, g3⟩, g4⟩, g5⟩, g6⟩ := h5
  simp [Cond.before, Cond.holds, Cond.value, h1, h2, h3, h4, g1, g2, g3, g4, g5, g6]
def isCode : Jvm.Cond → Bool
  | .code _ _ _ _ => true
  | _ => false
theorem all_split {L : List Jvm.Cond} {P : Jvm.Cond → Bool} (h1 : L.all (fun c => isCode c || P c) = true) (h2 : ∀ c ∈ L.filter isCode, P c = true) : L.all P = true := by
  refine List.all_eq_true.mpr fun c hc => ?_
  have h := List.all_eq_true.mp h1 c hc
  rcases Bool.eq_false_or_eq_true (isCode c) with hi | hi
  · exact h2 c (List.mem_filter.mpr ⟨hc, hi⟩)
  · simpa [hi] using h
set_option maxRecDepth 65536 in
theorem w_c0 : (Jvm.Cond.code x code maxLocals ret).before args0 about1 = true := code_word (m := ⟨1, 1⟩) (meth := k1m1) (c := k1c1) (by decide +kernel) rfl rfl rfl (by decide +kernel)
set_option maxRecDepth 65536 in
theorem w_c1 : (Jvm.Cond.code ({ cls := "com/example/sakuin/sakuin/storage/KeyEncoding$Reader", name := "<init>", desc := "([B)V" } : Jvm.MethodName) prog_69_method_1_code (2 : Nat) (Option.none : Option Jvm.ClassFile.FieldType)).before args0 about1 = true := code_word (m := ⟨2, 0⟩) (meth := k2m0) (c := k2c0) (by decide +kernel) rfl rfl rfl (by decide +kernel)
set_option maxRecDepth 65536 in
theorem w_c2 : (Jvm.Cond.code ({ cls := "java/lang/Object", name := "<init>", desc := "()V" } : Jvm.MethodName) object_method_1_code (1 : Nat) (Option.none : Option Jvm.ClassFile.FieldType)).before args0 about1 = true := code_word (m := ⟨0, 0⟩) (meth := k0m0) (c := k0c0) (by decide +kernel) rfl rfl rfl (by decide +kernel)
set_option maxRecDepth 65536 in
theorem w_c3 : (Jvm.Cond.code ({ cls := "com/example/sakuin/sakuin/storage/KeyEncoding$Reader", name := "atEnd", desc := "()Z" } : Jvm.MethodName) prog_69_method_2_code (1 : Nat) (Option.some Jvm.ClassFile.FieldType.boolean)).before args0 about1 = true := code_word (m := ⟨2, 1⟩) (meth := k2m1) (c := k2c1) (by decide +kernel) rfl rfl rfl (by decide +kernel)
set_option maxRecDepth 65536 in
theorem w_c4 : (Jvm.Cond.code ({ cls := "com/example/sakuin/sakuin/storage/KeyEncoding$Reader", name := "position", desc := "()I" } : Jvm.MethodName) prog_69_method_3_code (1 : Nat) (Option.some Jvm.ClassFile.FieldType.int)).before args0 about1 = true := code_word (m := ⟨2, 2⟩) (meth := k2m2) (c := k2c2) (by decide +kernel) rfl rfl rfl (by decide +kernel)
set_option maxRecDepth 65536 in
theorem w_c5 : (Jvm.Cond.code ({ cls := "com/example/sakuin/sakuin/storage/KeyEncoding$Reader", name := "number", desc := "()Ljava/math/BigDecimal;" } : Jvm.MethodName) prog_69_method_6_code (10 : Nat) (Option.some (Jvm.ClassFile.FieldType.object "java/math/BigDecimal"))).before args0 about1 = true := code_word (m := ⟨2, 3⟩) (meth := k2m3) (c := k2c3) (by decide +kernel) rfl rfl rfl (by decide +kernel)
set_option maxRecDepth 65536 in
theorem w_c6 : (Jvm.Cond.code ({ cls := "com/example/sakuin/sakuin/storage/KeyEncoding$Reader", name := "next", desc := "()I" } : Jvm.MethodName) prog_69_method_7_code (1 : Nat) (Option.some Jvm.ClassFile.FieldType.int)).before args0 about1 = true := code_word (m := ⟨2, 4⟩) (meth := k2m4) (c := k2c4) (by decide +kernel) rfl rfl rfl (by decide +kernel)
def codes1 : List Jvm.Cond := [Jvm.Cond.code x code maxLocals ret, Jvm.Cond.code ({ cls := "com/example/sakuin/sakuin/storage/KeyEncoding$Reader", name := "<init>", desc := "([B)V" } : Jvm.MethodName) prog_69_method_1_code (2 : Nat) (Option.none : Option Jvm.ClassFile.FieldType), Jvm.Cond.code ({ cls := "java/lang/Object", name := "<init>", desc := "()V" } : Jvm.MethodName) object_method_1_code (1 : Nat) (Option.none : Option Jvm.ClassFile.FieldType), Jvm.Cond.code ({ cls := "com/example/sakuin/sakuin/storage/KeyEncoding$Reader", name := "atEnd", desc := "()Z" } : Jvm.MethodName) prog_69_method_2_code (1 : Nat) (Option.some Jvm.ClassFile.FieldType.boolean), Jvm.Cond.code ({ cls := "com/example/sakuin/sakuin/storage/KeyEncoding$Reader", name := "position", desc := "()I" } : Jvm.MethodName) prog_69_method_3_code (1 : Nat) (Option.some Jvm.ClassFile.FieldType.int), Jvm.Cond.code ({ cls := "com/example/sakuin/sakuin/storage/KeyEncoding$Reader", name := "number", desc := "()Ljava/math/BigDecimal;" } : Jvm.MethodName) prog_69_method_6_code (10 : Nat) (Option.some (Jvm.ClassFile.FieldType.object "java/math/BigDecimal")), Jvm.Cond.code ({ cls := "com/example/sakuin/sakuin/storage/KeyEncoding$Reader", name := "next", desc := "()I" } : Jvm.MethodName) prog_69_method_7_code (1 : Nat) (Option.some Jvm.ClassFile.FieldType.int)]
set_option maxRecDepth 65536 in
theorem codes_eq : words1.filter isCode = codes1 := rfl
theorem w_codes : ∀ c ∈ words1.filter isCode, c.before args0 about1 = true := by
  rw [codes_eq]
  intro c hc
  simp only [codes1, List.mem_cons, List.not_mem_nil, or_false] at hc
  rcases hc with rfl | rfl | rfl | rfl | rfl | rfl | rfl
  · exact w_c0
  · exact w_c1
  · exact w_c2
  · exact w_c3
  · exact w_c4
  · exact w_c5
  · exact w_c6
set_option maxRecDepth 65536 in
theorem w_t1 : (words1.take 24).all (fun c => isCode c || c.before args0 about1) = true := by decide +kernel
set_option maxRecDepth 65536 in
theorem w_t2 : (words1.drop 24).all (fun c => isCode c || c.before args0 about1) = true := by decide +kernel
theorem w_tables : (allAtoms (Jvm.Cond.code x code maxLocals ret :: tables_1)).before args0 about1 = true := by
  rw [allAtoms_all]
  show words1.all (fun c => c.before args0 about1) = true
  refine all_split ?_ w_codes
  rw [← List.take_append_drop 24 words1, List.all_append, w_t1, w_t2]
  rfl
set_option maxRecDepth 65536 in
theorem w_rest : rest_1_c.before args0 about1 = true := by decide +kernel
set_option maxRecDepth 65536 in
theorem w_case : (Jvm.Cond.and given_1 narrow_1).before args0 about1 = true := by decide +kernel
theorem w_applies : (headSpec (Jvm.Cond.code x code maxLocals ret :: tables_1) room_1).applies x e0.platform about1 = true :=
  (Spec.applies_iff w_frames).mpr ⟨w_running, w_runnable, w_alone, w_named, w_hears, w_ripe, w_room, w_tables⟩
theorem atStart : AtStart classFile x code maxLocals ret World_1 tables_1 room_1 Calls_1 rest_1 Pre_1 launch0 p0 e0 about1 theMethod args0 below0 :=
  ⟨lists_1, trivial, launch0.admits_env _ _ _, launch0.least_env, fairChoices_fair.cas, fairChoices_fair.clock, w_frames, w_args, w_heap, w_applies, trivial, w_rest, w_case⟩
end start1
theorem witness_1 : WitnessClaimed_1 := ⟨start1.p0, start1.e0, start1.about1, start1.theMethod, start1.args0, start1.below0, start1.atStart⟩
end Jvm.Pilot.@@N@@
