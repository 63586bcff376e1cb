import JvmDerived
import JvmDerived.Pilot.@@N@@Statement
import JvmDerived.Pilot.@@N@@Code
set_option linter.unusedVariables false
set_option linter.unusedSimpArgs false

namespace Jvm.RoadKit
open Sem ClassFile Op Lib Jvm.Stand Jvm.Free Jvm.LawKit
section Go
variable {p : Program} {l : Launch} {e : Env} {R : Room} {s : State} {m : MethodId} {args : Array Value} {below : List Frame} {meth : Method} {c : Code} {T T' : State} {locs : List Loc} {cells slots : Nat} {Z : State} {a0 : Array Value} {h : Heap} {B : ByteArray} {K : Outcome → State → Prop} {pc pcT pcF : Nat} {ls : Array Slot} {st : List Value}
/-- from T with the frame g the run comes to an end of which K holds -/
def Go (p : Program) (e : Env) (below : List Frame) (K : Outcome → State → Prop) (T : State) (g : JFrame) : Prop :=
  ∃ u o, Steps p.tables e below (T.setTop g) u ∧ u.status = .running ∧ Ended u below o ∧ K o u
theorem Go.on {g g' : JFrame} (st : ∀ t, Steps p.tables e below (T'.setTop g') t → Steps p.tables e below (T.setTop g) t) (h : Go p e below K T' g') : Go p e below K T g := by
  obtain ⟨u, o, h1, h2⟩ := h; exact ⟨u, o, st _ h1, h2⟩
theorem Go.join {α : Type} {P : α → Prop} {g : α → JFrame} {g0 : JFrame} (rest : ∀ z, P z → Go p e below K T (g z)) (here : (∀ z, P z → Go p e below K T (g z)) → Go p e below K T g0) : Go p e below K T g0 := here rest
theorem Go.joinV {α : Type} {P : α → Prop} {g : α → JFrame} {g0 : JFrame} (X : Stand p l e R s m args below meth c T locs cells slots) (eT : T.heap = h) (rest : ∀ (T' : State) (z : α), Stand p l e R s m args below meth c T' locs cells slots → T'.heap = h → P z → Go p e below K T' (g z))
    (here : (∀ (T' : State) (z : α), Stand p l e R s m args below meth c T' locs cells slots → T'.heap = h → P z → Go p e below K T' (g z)) → Go p e below K T g0) : Go p e below K T g0 := here rest
theorem Go.at {g g' : JFrame} (q : g = g') (h : Go p e below K T g') : Go p e below K T g := q ▸ h
def EndK (s : State) (Q : Option Value → Heap → List Loc → Prop) (k n : Nat) : Outcome → State → Prop := fun o u => ∃ v L, o = .returned v ∧ Q v u.heap L ∧ FrameEnd s o u L k n
abbrev Pact (l : Launch) (Z : State) (y : MethodName) (bytes : ByteArray) (ml : Nat) (ret : Option FieldType) (ws : List Jvm.Cond) (rm : Room) (as : Array Value) (h0 : Heap) (Q : Option Value → Heap → List Loc → Prop) : Prop :=
  MetFree l y (head1 (Jvm.Cond.code y bytes ml ret :: ws) rm) (fun a U => a = as ∧ Z.Warmed39 U.vm ∧ U.heap = h0) (fun _ _ _ _ _ => True) (fun _ U o U' => ∃ v L, o = .returned v ∧ Q v U'.heap L ∧ FrameEnd U o U' L rm.cells rm.slots)
theorem Pact.intro {y : MethodName} {bytes : ByteArray} {ml : Nat} {ret : Option FieldType} {ws : List Jvm.Cond} {rm : Room} {as : Array Value} {h0 : Heap} {Q : Option Value → Heap → List Loc → Prop} (hp : plainFor y = true)
    (body : ∀ (p : Program) (e : Env) (s : State) (m : MethodId) (below : List Frame) (meth : Method) (c : Code) (T : State), Stand p l e rm s m as below meth c T [] 0 0 → p.tables.exec = Jvm.exec → c.code = bytes → c.maxLocals = ml → meth.sig.returnType = ret → meth.locks = false →
      s.vm.findClass y.cls = some m.cls → meth.name = y.name → Z.Warmed39 s.vm → T.heap = h0 → Go p e below (EndK s Q rm.cells rm.slots) T (entryFrame m as ml)) : Pact l Z y bytes ml ret ws rm as h0 Q := by
  refine MetFree.of_bodySF hp hisR ?_
  intro p e s m args below meth c s₁ Bd hml0 hP hK
  obtain ⟨rfl, hZ, hh⟩ := hP
  exact body p e s m below meth c s₁ (Stand.of_body Bd) Bd.exec Bd.bytes hml0 Bd.returns (BodyLoose.notSynchronized Bd) (findClass_of_methodNamed Bd.named) (name_of_methodNamed Bd.named Bd.method).1 hZ (by rw [← hh, Bd.state]; rfl)
theorem Go.icmp (X : Stand p l e R s m args below meth c T locs cells slots) (hx : p.tables.exec = Jvm.exec) (hby : c.code = B) {cd : ClassFile.Cond} {x y : Int32} {o : Int} (hd : decode B pc = .ok (.if_icmp cd o, 3)) (ho : 0 ≤ (pc : Int) + o) (hp : ((pc : Int) + o).toNat = pcT) (hq : pc + 3 = pcF)
    (hT : if_icmp.holds cd x y = true → Go p e below K T (mkF m pcT ls st)) (hF : if_icmp.holds cd x y = false → Go p e below K T (mkF m pcF ls st)) : Go p e below K T (mkF m pc ls (.int y :: .int x :: st)) := by
  subst hq
  cases q : if_icmp.holds cd x y
  · exact Go.on (fun t k => XS.icmpNo X.here hx rfl (hb hby hd) rfl q k) (hF q)
  · exact Go.on (fun t k => XS.icmpYes X.here hx rfl (pc0 := pc) rfl (hb hby hd) rfl q ho hp k) (hT q)
theorem Go.ifc (X : Stand p l e R s m args below meth c T locs cells slots) (hx : p.tables.exec = Jvm.exec) (hby : c.code = B) {cd : ClassFile.Cond} {x : Int32} {o : Int} (hd : decode B pc = .ok (.ifCond cd o, 3)) (ho : 0 ≤ (pc : Int) + o) (hp : ((pc : Int) + o).toNat = pcT) (hq : pc + 3 = pcF)
    (hT : if_icmp.holds cd x 0 = true → Go p e below K T (mkF m pcT ls st)) (hF : if_icmp.holds cd x 0 = false → Go p e below K T (mkF m pcF ls st)) : Go p e below K T (mkF m pc ls (.int x :: st)) := by
  subst hq
  rw [← if0] at hT hF
  cases q : ifCond.holds cd x
  · exact Go.on (fun t k => XS.ifNo X.here hx rfl (hb hby hd) rfl q k) (hF q)
  · exact Go.on (fun t k => XS.ifYes X.here hx rfl (pc0 := pc) rfl (hb hby hd) rfl q ho hp k) (hT q)
theorem iEq {x y : Int32} : (if_icmp.holds .eq x y = true → x = y) ∧ (if_icmp.holds .eq x y = false → ¬ x = y) := by constructor <;> intro h <;> simpa [if_icmp.holds] using h
theorem iNe {x y : Int32} : (if_icmp.holds .ne x y = true → ¬ x = y) ∧ (if_icmp.holds .ne x y = false → x = y) := by constructor <;> intro h <;> simpa [if_icmp.holds] using h
theorem iLt {x y : Int32} : (if_icmp.holds .lt x y = true → x < y) ∧ (if_icmp.holds .lt x y = false → ¬ x < y) := by constructor <;> intro h <;> simpa [if_icmp.holds] using h
theorem iGe {x y : Int32} : (if_icmp.holds .ge x y = true → ¬ x < y) ∧ (if_icmp.holds .ge x y = false → x < y) := by constructor <;> intro h <;> simpa [if_icmp.holds] using h
theorem iGt {x y : Int32} : (if_icmp.holds .gt x y = true → y < x) ∧ (if_icmp.holds .gt x y = false → ¬ y < x) := by constructor <;> intro h <;> simpa [if_icmp.holds] using h
theorem iLe {x y : Int32} : (if_icmp.holds .le x y = true → ¬ y < x) ∧ (if_icmp.holds .le x y = false → y < x) := by constructor <;> intro h <;> simpa [if_icmp.holds] using h
theorem Go.acmp (X : Stand p l e R s m args below meth c T locs cells slots) (hx : p.tables.exec = Jvm.exec) (hby : c.code = B) {cd : ACond} {x y : Value} (h1 : x.isRef = true) (h2 : y.isRef = true) {o : Int} (hd : decode B pc = .ok (.if_acmp cd o, 3)) (ho : 0 ≤ (pc : Int) + o) (hp : ((pc : Int) + o).toNat = pcT) (hq : pc + 3 = pcF)
    (hT : XT.acmp cd x y = true → Go p e below K T (mkF m pcT ls st)) (hF : XT.acmp cd x y = false → Go p e below K T (mkF m pcF ls st)) : Go p e below K T (mkF m pc ls (y :: x :: st)) := by
  subst hq
  cases q : XT.acmp cd x y
  · exact Go.on (fun t k => XT.acmpNo X.here hx rfl (hb hby hd) rfl h1 h2 q k) (hF q)
  · exact Go.on (fun t k => XT.acmpYes X.here hx rfl (pc0 := pc) rfl (hb hby hd) rfl h1 h2 q ho hp k) (hT q)
theorem aEq {x y : Value} : (XT.acmp .eq x y = true → x = y) ∧ (XT.acmp .eq x y = false → ¬ x = y) := by constructor <;> intro h <;> simpa [XT.acmp] using h
theorem aNe {x y : Value} : (XT.acmp .ne x y = true → ¬ x = y) ∧ (XT.acmp .ne x y = false → x = y) := by constructor <;> intro h <;> simpa [XT.acmp] using h
theorem rEq {x y : Addr} : (XT.acmp .eq (.ref x) (.ref y) = true → x = y) ∧ (XT.acmp .eq (.ref x) (.ref y) = false → ¬ x = y) := by constructor <;> intro h <;> simpa [XT.acmp] using h
theorem rNe {x y : Addr} : (XT.acmp .ne (.ref x) (.ref y) = true → ¬ x = y) ∧ (XT.acmp .ne (.ref x) (.ref y) = false → x = y) := by constructor <;> intro h <;> simpa [XT.acmp] using h
theorem cat_ref {x : Value} (h : x.isRef = true) : x.category = 1 := by rcases ref_cases h with rfl | ⟨a, rfl⟩ <;> rfl
theorem eqInt {first : State} {o : Option Outcome} {idx : List Nat} {t : Term} {k : Int32} (h : (Jvm.Cond.eq t (Term.int k)).value args first o s idx = some true) : t.eval args first o idx s = some (.int k) := by
  obtain ⟨x, y, hx, hy, k1, k2⟩ := cmp_v (Or.inl h)
  have e : y = .int k := Option.some.inj (hy.symm.trans (Term.int_eval k))
  subst e
  obtain ⟨z, rfl⟩ := k2
  have q : z = k := gotT (Cond.eq_ints hx hy) h
  rw [hx, q]
theorem fldInt {t : Term} {a : Addr} {C n d : String} {k : Int32} (ev : t.eval args Z none [] Z = some (.ref a)) (h : (Jvm.Cond.eq (Term.field t C n d) (Term.int k)).value args Z none Z [] = some true) : Fld Z Z.heap a C n d (.int k) :=
  Fld.start ((fld_at ev).symm.trans (eqInt h))
theorem fldNull {t : Term} {a : Addr} {C n d : String} (ev : t.eval args Z none [] Z = some (.ref a)) (h : (Jvm.Cond.eq (Term.field t C n d) Term.null).value args Z none Z [] = some true) : Fld Z Z.heap a C n d .null :=
  Fld.start ((fld_at ev).symm.trans (null_v h))
theorem fldRef {t u : Term} {a b : Addr} {C n d : String} (ev : t.eval args Z none [] Z = some (.ref a)) (hu : u.eval args Z none [] Z = some (.ref b)) (h : (Jvm.Cond.eq (Term.field t C n d) u).value args Z none Z [] = some true) : Fld Z Z.heap a C n d (.ref b) := by
  obtain ⟨x, y, hx, hy, k1, k2⟩ := cmp_v (Or.inl h)
  cases hy.symm.trans hu
  have q : x = .ref b := gotT (eq_R hx hy k2.2 rfl) h
  exact Fld.start ((fld_at ev).symm.trans (q ▸ hx))
theorem Go.retV (X : Stand p l e R s m args below meth c T locs cells slots) (hx : p.tables.exec = Jvm.exec) (hlk : meth.locks = false) {t : FieldType} (hret : meth.sig.returnType = some t) (hby : c.code = B) {i : Instr} (hd : decode B pc = .ok (i, 1)) {w : Value} (hn : narrow t w = w)
    (hi : (i = .ireturn ∧ (t = .int ∨ t = .boolean ∨ t = .byte ∨ t = .char ∨ t = .short) ∧ ∃ z, w = .int z) ∨ (i = .lreturn ∧ t = .long ∧ ∃ z, w = .long z) ∨ (i = .dreturn ∧ t = .double ∧ ∃ z, w = .double z) ∨ (i = .freturn ∧ t = .float ∧ ∃ z, w = .float z) ∨ (i = .areturn ∧ t.isReference = true ∧ w.isRef = true))
    {Q : Option Value → Heap → List Loc → Prop} {k n : Nat} (hc : cells ≤ k) (hs : slots ≤ n) (hq : Q (some w) T.heap locs) : Go p e below (EndK s Q k n) T (mkF m pc ls (w :: st)) := by
  obtain ⟨fs, hr, hrun, hended, hW, hsame⟩ := X.leave (v := some w) (fun h => by rw [hret] at h; cases h) hlk
  exact ⟨_, _, retOut X hx hret hn hi (hb hby hd) hr, hrun, hended, _, _, rfl, hq, ⟨_, rfl⟩, hW, hsame.mono hc hs⟩
theorem Go.retI (X : Stand p l e R s m args below meth c T locs cells slots) (hx : p.tables.exec = Jvm.exec) (hlk : meth.locks = false) {t : FieldType} (hret : meth.sig.returnType = some t) (hby : c.code = B) (hd : decode B pc = .ok (.ireturn, 1)) {z : Int32} (hn : narrow t (.int z) = .int z)
    (ht : t = .int ∨ t = .boolean ∨ t = .byte ∨ t = .char ∨ t = .short) {Q : Option Value → Heap → List Loc → Prop} {k n : Nat} (hc : cells ≤ k) (hs : slots ≤ n) (hq : Q (some (.int z)) T.heap locs) : Go p e below (EndK s Q k n) T (mkF m pc ls (.int z :: st)) :=
  Go.retV X hx hlk hret hby hd hn (Or.inl ⟨rfl, ht, z, rfl⟩) hc hs hq
theorem Go.retA (X : Stand p l e R s m args below meth c T locs cells slots) (hx : p.tables.exec = Jvm.exec) (hlk : meth.locks = false) {t : FieldType} (hret : meth.sig.returnType = some t) (hby : c.code = B) (hd : decode B pc = .ok (.areturn, 1)) {w : Value} (hw : w.isRef = true)
    (ht : t.isReference = true) {Q : Option Value → Heap → List Loc → Prop} {k n : Nat} (hc : cells ≤ k) (hs : slots ≤ n) (hq : Q (some w) T.heap locs) : Go p e below (EndK s Q k n) T (mkF m pc ls (w :: st)) :=
  Go.retV X hx hlk hret hby hd (by rcases ref_cases hw with rfl | ⟨a, rfl⟩ <;> cases t <;> first | rfl | cases ht) (Or.inr (Or.inr (Or.inr (Or.inr ⟨rfl, ht, hw⟩)))) hc hs hq
theorem Go.ret0 (X : Stand p l e R s m args below meth c T locs cells slots) (hx : p.tables.exec = Jvm.exec) (hlk : meth.locks = false) (hret : meth.sig.returnType = none) (hby : c.code = B) (hd : decode B pc = .ok (.return_, 1))
    {Q : Option Value → Heap → List Loc → Prop} {k n : Nat} (hc : cells ≤ k) (hs : slots ≤ n) (hq : Q none T.heap locs) : Go p e below (EndK s Q k n) T (mkF m pc ls []) := by
  obtain ⟨fs, hr, hrun, hended, hW, hsame⟩ := X.leave (v := none) (fun _ => rfl) hlk
  exact ⟨_, _, X.returnOut hx hret (hb hby hd) hr, hrun, hended, _, _, rfl, hq, ⟨_, rfl⟩, hW, hsame.mono hc hs⟩
theorem Go.callS (X : Stand p l e R s m args below meth c T locs cells slots) (hx : p.tables.exec = Jvm.exec) (hZ : Z.Warmed39 s.vm) (hby : c.code = B) (hml : ls.size = c.maxLocals) {own : String} {index : Nat} {y : MethodName} {bytes : ByteArray} {maxL : Nat} {ret : Option FieldType} {rm : Room} {Q : Option Value → Heap → List Loc → Prop}
    (hown : s.vm.findClass own = some m.cls) (w1 : (Jvm.Cond.methodLink own index y).before a0 Z = true) (w2 : (Jvm.Cond.static y).before a0 Z = true) (w3 : (Jvm.Cond.initialized y.cls).before a0 Z = true) (w4 : (Jvm.Cond.code y bytes maxL ret).before a0 Z = true) (hy : y.cls ≠ "java/lang/invoke/MethodHandle" ∧ y.cls ≠ "java/lang/invoke/VarHandle")
    {argsL rest : List Value} (hM : Pact l Z y bytes maxL ret [] rm argsL.toArray h Q) (eT : T.heap = h) (W : Nat) (hf : rm.frames + 1 ≤ R.frames) (hl : W + (maxL + 11) + rm.locals ≤ R.locals) (hc : cells + rm.cells ≤ R.cells) (hs : slots + rm.slots ≤ R.slots)
    (hst : st = argsL.reverse ++ rest) {ps : List FieldType} {rt : Option FieldType} (hdesc : parseMethodDescriptor y.desc = some ⟨ps, rt⟩) (hlen : argsL.length = ps.length) (hW : (rest.map fun v => v.category).sum ≤ W) (hd : decode B pc = .ok (.invokestatic index, 3)) (hq : pc + 3 = pcF)
    (next : ∀ (v : Option Value) (T' : State) (L : List Loc), Stand p l e R s m args below meth c T' (locs ++ L) (cells + rm.cells) (slots + rm.slots) → Q v T'.heap L → Go p e below K T' (mkF m pcF ls (v.toList ++ rest))) : Go p e below K T (mkF m pc ls st) := by
  subst hq
  obtain ⟨v, vm₁, ⟨T', L', k', n'⟩, -, X', ⟨Lc, hQ, l', y', z'⟩, st'⟩ := Jvm.LawKit.callS X hx (y := y) hown (mvT hZ w1) (mvT hZ w2) (mvT hZ w3) (mvT hZ w4) hy (backOf (W := W) hM hZ w4 w3 hf hl) (g := mkF m pc ls st) rfl hml (argsL := argsL) (rest := rest) (lenOf hdesc hlen) hst (by show 2 * 0 + _ ≤ W; omega) (hb hby hd) (fun _ _ => ⟨rfl, eT, hc, hs⟩)
  dsimp only [Pt.U, Pt.locs, Pt.cells, Pt.slots] at X' l' y' z' st' hQ
  subst l' y' z'
  exact Go.on st' (next v T' Lc X' hQ)
theorem Go.callV (X : Stand p l e R s m args below meth c T locs cells slots) (hx : p.tables.exec = Jvm.exec) (hZ : Z.Warmed39 s.vm) (hby : c.code = B) (hml : ls.size = c.maxLocals) {own C : String} {index : Nat} {y : MethodName} {bytes : ByteArray} {maxL : Nat} {ret : Option FieldType} {rm : Room} {Q : Option Value → Heap → List Loc → Prop}
    (hown : s.vm.findClass own = some m.cls) (w1 : (Jvm.Cond.methodLink own index y).before a0 Z = true) (w2 : (Jvm.Cond.declares y).before a0 Z = true) (w3 : (Jvm.Cond.selects C y y).before a0 Z = true) (w4 : (Jvm.Cond.instanceMethod y).before a0 Z = true) (w5 : (Jvm.Cond.code y bytes maxL ret).before a0 Z = true) (w6 : (Jvm.Cond.initialized y.cls).before a0 Z = true) (hy : y.cls ≠ "java/lang/invoke/MethodHandle" ∧ y.cls ≠ "java/lang/invoke/VarHandle")
    {b : Addr} {argsL rest : List Value} (hM : Pact l Z y bytes maxL ret [] rm (.ref b :: argsL).toArray h Q) (eT : T.heap = h) (E : Exa Z h b C) (W : Nat) (hf : rm.frames + 1 ≤ R.frames) (hl : W + (maxL + 11) + rm.locals ≤ R.locals) (hc : cells + rm.cells ≤ R.cells) (hs : slots + rm.slots ≤ R.slots)
    (hst : st = argsL.reverse ++ .ref b :: rest) {ps : List FieldType} {rt : Option FieldType} (hdesc : parseMethodDescriptor y.desc = some ⟨ps, rt⟩) (hlen : argsL.length = ps.length) (hW : (rest.map fun v => v.category).sum ≤ W) (hd : decode B pc = .ok (.invokevirtual index, 3)) (hq : pc + 3 = pcF)
    (next : ∀ (v : Option Value) (T' : State) (L : List Loc), Stand p l e R s m args below meth c T' (locs ++ L) (cells + rm.cells) (slots + rm.slots) → Q v T'.heap L → Go p e below K T' (mkF m pcF ls (v.toList ++ rest))) : Go p e below K T (mkF m pc ls st) := by
  subst hq
  obtain ⟨cq, kq, q1, q2, q3⟩ := isOf hZ eT E
  obtain ⟨v, vm₁, ⟨T', L', k', n'⟩, -, X', ⟨Lc, hQ, l', y', z'⟩, st'⟩ := X.virtualBack hx (y := y) (z := y) hown (mvT hZ w1) (mvT hZ w2) (notFace_of_selects (args := #[]) (mvT hZ w3)) (mvT hZ w3) (mvT hZ w4) hy (backOf (W := W) hM hZ w5 w6 hf hl) q1 q3 (g := mkF m pc ls st) rfl hml (Steps.refl _) (argsL := argsL) (rest := rest) (lenOf hdesc hlen) hst (by show 2 * 0 + _ ≤ W; omega) (hb hby hd) (fun _ _ => ⟨rfl, eT, hc, hs⟩)
  dsimp only [Pt.U, Pt.locs, Pt.cells, Pt.slots] at X' l' y' z' st' hQ
  subst l' y' z'
  exact Go.on (fun t k => st'.trans k) (next v T' Lc X' hQ)
theorem Go.callI (X : Stand p l e R s m args below meth c T locs cells slots) (hx : p.tables.exec = Jvm.exec) (hZ : Z.Warmed39 s.vm) (hby : c.code = B) (hml : ls.size = c.maxLocals) {own : String} {index : Nat} {y : MethodName} {bytes : ByteArray} {maxL : Nat} {rm : Room} {Q : Option Value → Heap → List Loc → Prop}
    (hinit : y.name = "<init>") (hown : s.vm.findClass own = some m.cls) (w1 : (Jvm.Cond.methodLink own index y).before a0 Z = true) (w4 : (Jvm.Cond.instanceMethod y).before a0 Z = true) (w5 : (Jvm.Cond.code y bytes maxL none).before a0 Z = true) (w6 : (Jvm.Cond.initialized y.cls).before a0 Z = true) (hy : y.cls ≠ "java/lang/invoke/MethodHandle" ∧ y.cls ≠ "java/lang/invoke/VarHandle")
    {b : Addr} {argsL rest : List Value} (hM : Pact l Z y bytes maxL none [] rm (.ref b :: argsL).toArray h Q) (eT : T.heap = h) (W : Nat) (hf : rm.frames + 1 ≤ R.frames) (hl : W + (maxL + 11) + rm.locals ≤ R.locals) (hc : cells + rm.cells ≤ R.cells) (hs : slots + rm.slots ≤ R.slots)
    (hst : st = argsL.reverse ++ .ref b :: rest) {ps : List FieldType} {rt : Option FieldType} (hdesc : parseMethodDescriptor y.desc = some ⟨ps, rt⟩) (hlen : argsL.length = ps.length) (hW : (rest.map fun v => v.category).sum ≤ W) (hd : decode B pc = .ok (.invokespecial index, 3)) (hq : pc + 3 = pcF)
    (next : ∀ (v : Option Value) (T' : State) (L : List Loc), Stand p l e R s m args below meth c T' (locs ++ L) (cells + rm.cells) (slots + rm.slots) → Q v T'.heap L → Go p e below K T' (mkF m pcF ls (v.toList ++ rest))) : Go p e below K T (mkF m pc ls st) := by
  subst hq
  obtain ⟨v, vm₁, ⟨T', L', k', n'⟩, -, X', ⟨Lc, hQ, l', y', z'⟩, st'⟩ := X.specialBack hx (y := y) hinit hown (mvT hZ w1) (mvT hZ w4) (mvT hZ w5) hy (backOf (W := W) hM hZ w5 w6 hf hl) (g := mkF m pc ls st) rfl hml (Steps.refl _) (a := b) (argsL := argsL) (rest := rest) (lenOf hdesc hlen) hst (by show 2 * 0 + _ ≤ W; omega) (hb hby hd) (fun _ _ => ⟨rfl, eT, hc, hs⟩)
  dsimp only [Pt.U, Pt.locs, Pt.cells, Pt.slots] at X' l' y' z' st' hQ
  subst l' y' z'
  exact Go.on (fun t k => st'.trans k) (next v T' Lc X' hQ)
theorem Go.callU (X : Stand p l e R s m args below meth c T locs cells slots) (hx : p.tables.exec = Jvm.exec) (hZ : Z.Warmed39 s.vm) (hby : c.code = B) (hml : ls.size = c.maxLocals) {own C owner : String} {index : Nat} {y z : MethodName} {bytes : ByteArray} {maxL : Nat} {ret : Option FieldType} {rm : Room} {Q : Option Value → Heap → List Loc → Prop}
    (hown : s.vm.findClass own = some m.cls) (w1 : (Jvm.Cond.methodLink own index y).before a0 Z = true) (wsm : (Jvm.Cond.sameMethod y.cls owner y.name y.desc).before a0 Z = true) (w2 : (Jvm.Cond.declares ⟨owner, y.name, y.desc⟩).before a0 Z = true) (w3 : (Jvm.Cond.selects C y z).before a0 Z = true) (w4 : (Jvm.Cond.instanceMethod z).before a0 Z = true) (w5 : (Jvm.Cond.code z bytes maxL ret).before a0 Z = true) (w6 : (Jvm.Cond.initialized z.cls).before a0 Z = true) (hy : owner ≠ "java/lang/invoke/MethodHandle" ∧ owner ≠ "java/lang/invoke/VarHandle")
    {b : Addr} {argsL rest : List Value} (hM : Pact l Z z bytes maxL ret [] rm (.ref b :: argsL).toArray h Q) (eT : T.heap = h) (E : Exa Z h b C) (W : Nat) (hf : rm.frames + 1 ≤ R.frames) (hl : W + (maxL + 11) + rm.locals ≤ R.locals) (hc : cells + rm.cells ≤ R.cells) (hs : slots + rm.slots ≤ R.slots)
    (hst : st = argsL.reverse ++ .ref b :: rest) {ps : List FieldType} {rt : Option FieldType} (hdesc : parseMethodDescriptor y.desc = some ⟨ps, rt⟩) (hlen : argsL.length = ps.length) (hW : (rest.map fun v => v.category).sum ≤ W) (hd : decode B pc = .ok (.invokevirtual index, 3)) (hq : pc + 3 = pcF)
    (next : ∀ (v : Option Value) (T' : State) (L : List Loc), Stand p l e R s m args below meth c T' (locs ++ L) (cells + rm.cells) (slots + rm.slots) → Q v T'.heap L → Go p e below K T' (mkF m pcF ls (v.toList ++ rest))) : Go p e below K T (mkF m pc ls st) := by
  subst hq
  obtain ⟨cq, kq, q1, q2, q3⟩ := isOf hZ eT E
  obtain ⟨v, vm₁, ⟨T', L', k', n'⟩, -, X', ⟨Lc, hQ, l', y', z'⟩, st'⟩ := X.virtualBackUp hx (x := y) (y := z) hown (mvT hZ w1) (mvT hZ wsm) (mvT hZ w2) hy (mvT hZ w3) (mvT hZ w4) (backOf (W := W) hM hZ w5 w6 hf hl) q1 q3 (g := mkF m pc ls st) rfl hml (Steps.refl _) (argsL := argsL) (rest := rest) (lenOf hdesc hlen) hst (by show 2 * 0 + _ ≤ W; omega) (hb hby hd) (fun _ _ => ⟨rfl, eT, hc, hs⟩)
  dsimp only [Pt.U, Pt.locs, Pt.cells, Pt.slots] at X' l' y' z' st' hQ
  subst l' y' z'
  exact Go.on (fun t k => st'.trans k) (next v T' Lc X' hQ)
theorem Go.callP (X : Stand p l e R s m args below meth c T locs cells slots) (hx : p.tables.exec = Jvm.exec) (hZ : Z.Warmed39 s.vm) (hby : c.code = B) (hml : ls.size = c.maxLocals) {own : String} {index kk : Nat} {y : MethodName} {bytes : ByteArray} {maxL : Nat} {ret : Option FieldType} {rm : Room} {Q : Option Value → Heap → List Loc → Prop}
    (hown : s.vm.findClass own = some m.cls) (w1 : (Jvm.Cond.methodLink own index y).before a0 Z = true) (w2 : (Jvm.Cond.instantiable y.cls kk).before a0 Z = true) (w3 : (Jvm.Cond.privateMethod y).before a0 Z = true) (w4 : (Jvm.Cond.instanceMethod y).before a0 Z = true) (w5 : (Jvm.Cond.code y bytes maxL ret).before a0 Z = true) (w6 : (Jvm.Cond.initialized y.cls).before a0 Z = true) (hy : y.cls ≠ "java/lang/invoke/MethodHandle" ∧ y.cls ≠ "java/lang/invoke/VarHandle")
    {b : Addr} {argsL rest : List Value} (hM : Pact l Z y bytes maxL ret [] rm (.ref b :: argsL).toArray h Q) (eT : T.heap = h) {C : String} (E : Exa Z h b C) (W : Nat) (hf : rm.frames + 1 ≤ R.frames) (hl : W + (maxL + 11) + rm.locals ≤ R.locals) (hc : cells + rm.cells ≤ R.cells) (hs : slots + rm.slots ≤ R.slots)
    (hst : st = argsL.reverse ++ .ref b :: rest) {ps : List FieldType} {rt : Option FieldType} (hdesc : parseMethodDescriptor y.desc = some ⟨ps, rt⟩) (hlen : argsL.length = ps.length) (hW : (rest.map fun v => v.category).sum ≤ W) (hd : decode B pc = .ok (.invokevirtual index, 3)) (hq : pc + 3 = pcF)
    (next : ∀ (v : Option Value) (T' : State) (L : List Loc), Stand p l e R s m args below meth c T' (locs ++ L) (cells + rm.cells) (slots + rm.slots) → Q v T'.heap L → Go p e below K T' (mkF m pcF ls (v.toList ++ rest))) : Go p e below K T (mkF m pc ls st) := by
  subst hq
  obtain ⟨cq, q, q'⟩ := E.cell
  have hpriv : s.PrivateAt y := Cond.privateMethod_at (mvP hZ w3 (args := #[]))
  obtain ⟨c2, k2, i1, i2, -, i4, -⟩ := Cond.instantiable_spec (mvT (args := #[]) (s := s) hZ w2)
  have hni : k2.isInterface = false := (Bool.or_eq_false_iff.mp i4).1
  obtain ⟨v, vm₁, ⟨T', L', k', n'⟩, -, X', ⟨Lc, hQ, l', y', z'⟩, st'⟩ := X.privateBack hx (y := y) hown (mvT hZ w1) (mvT hZ w4) (selects_self_of_private i1 i2 hni hpriv (mvT hZ w4) hy) hpriv (mvT hZ w5) hy (backOf (W := W) hM hZ w5 w6 hf hl) (g := mkF m pc ls st) rfl hml (Steps.refl _) (a := b) (by rw [eT]; exact q) q' (argsL := argsL) (rest := rest) (lenOf hdesc hlen) hst (by show 2 * 0 + _ ≤ W; omega) (hb hby hd) (fun _ _ => ⟨rfl, eT, hc, hs⟩)
  dsimp only [Pt.U, Pt.locs, Pt.cells, Pt.slots] at X' l' y' z' st' hQ
  subst l' y' z'
  exact Go.on (fun t k => st'.trans k) (next v T' Lc X' hQ)
theorem extWr {h0 h h' : Heap} {a : Addr} {sl : Nat} {v : Value} (E : Ext h0 h) (W : Wr h h' a sl v) (q : h0.size ≤ a) : Ext h0 h' := by
  refine ⟨by rw [W.size]; exact E.1, fun x c hx => ?_⟩
  obtain ⟨cb', r1, -, -, -, r5, -⟩ := wr_at W (E.2 x c hx)
  rw [r1, r5 (Nat.ne_of_lt (Nat.lt_of_lt_of_le (Array.getElem?_eq_some_iff.mp hx).1 q))]
theorem extKeep {h0 h h' : Heap} {a : Addr} (E : Ext h0 h) (K : Keep h h' [a]) (q : h0.size ≤ a) : Ext h0 h' :=
  ⟨Nat.le_trans E.1 K.1, fun x c hx => K.2.1 x c (E.2 x c hx) (ninS (Nat.ne_of_lt (Nat.lt_of_lt_of_le (Array.getElem?_eq_some_iff.mp hx).1 q)) nin0)⟩
theorem extTrans {h0 h h' : Heap} (E : Ext h0 h) (E' : Ext h h') : Ext h0 h' := ⟨Nat.le_trans E.1 E'.1, fun x c hx => E'.2 x c (E.2 x c hx)⟩
theorem arrKeep {h h' : Heap} {a b : Addr} {cl : Cell} {ty : FieldType} (A : Arr Z h a cl ty) (K : Keep h h' [b]) (hne : a ≠ b) : Arr Z h' a cl ty := ⟨K.2.1 _ _ A.1 (ninS hne nin0), A.2⟩
end Go
end Jvm.RoadKit

namespace Jvm.Pilot.@@N@@
open Jvm Jvm.ClassFile Sem Op Lib Jvm.Free Jvm.Stand Jvm.LawKit Jvm.RoadKit Bundle Jvm.Pilot.@@N@@.Jvm.D

theorem pnLaw : plainName "com/example/cantilever/cantilever/http/HeadersIsFieldValueCharPinLaw" = true := by first | (simp [plainName, overriddenIn]; done) | decide +kernel
theorem pnB : plainName "com/example/cantilever/cantilever/http/Headers" = true := by first | (simp [plainName, overriddenIn]; done) | decide +kernel
theorem pdB : parseMethodDescriptor "(C)Z" = some ⟨[.char], some .boolean⟩ := by decide +kernel
theorem efB (m : MethodId) (k : Int32) : entryFrame m #[(.int k)] 1 = mkF m 0 #[.val (.int k)] [] := by first | (simp [entryFrame, mkF, argsToLocals, Value.category, maxLocals]; done) | rfl
theorem ef0 (m : MethodId) (x0 : Int32) : entryFrame m #[(.int x0)] maxLocals = mkF m 0 #[.val (.int x0), .unset, .unset, .unset, .unset, .unset, .unset] [] := by first | (simp [entryFrame, mkF, argsToLocals, Value.category, maxLocals]; done) | rfl
def own_f (c : Int32) : Int32 := if c = 9 then 1 else if c < 32 then 0 else if c = 127 then 0 else if 255 < c then 0 else 1
def own_QR (h0 : Heap) (r : Value) (v : Option Value) (h : Heap) (L : List Loc) : Prop := v = some r ∧ L = [] ∧ h = h0
theorem d1_0 : decode prog_19_method_19_code 0 = .ok (.iload_n 0, 1) := by decide +kernel
theorem d1_1 : decode prog_19_method_19_code 1 = .ok (.bipush 9, 2) := by decide +kernel
theorem d1_3 : decode prog_19_method_19_code 3 = .ok (.if_icmp .eq 22, 3) := by decide +kernel
theorem d1_6 : decode prog_19_method_19_code 6 = .ok (.iload_n 0, 1) := by decide +kernel
theorem d1_7 : decode prog_19_method_19_code 7 = .ok (.bipush 32, 2) := by decide +kernel
theorem d1_9 : decode prog_19_method_19_code 9 = .ok (.if_icmp .lt 20, 3) := by decide +kernel
theorem d1_12 : decode prog_19_method_19_code 12 = .ok (.iload_n 0, 1) := by decide +kernel
theorem d1_13 : decode prog_19_method_19_code 13 = .ok (.bipush 127, 2) := by decide +kernel
theorem d1_15 : decode prog_19_method_19_code 15 = .ok (.if_icmp .eq 14, 3) := by decide +kernel
theorem d1_18 : decode prog_19_method_19_code 18 = .ok (.iload_n 0, 1) := by decide +kernel
theorem d1_19 : decode prog_19_method_19_code 19 = .ok (.sipush 255, 3) := by decide +kernel
theorem d1_22 : decode prog_19_method_19_code 22 = .ok (.if_icmp .gt 7, 3) := by decide +kernel
theorem d1_25 : decode prog_19_method_19_code 25 = .ok (.iconst 1, 1) := by decide +kernel
theorem d1_26 : decode prog_19_method_19_code 26 = .ok (.goto 4, 3) := by decide +kernel
theorem d1_29 : decode prog_19_method_19_code 29 = .ok (.iconst 0, 1) := by decide +kernel
theorem d1_30 : decode prog_19_method_19_code 30 = .ok (.ireturn, 1) := by decide +kernel
set_option maxRecDepth 65536 in
set_option maxHeartbeats 40000000 in
theorem rmB (l : Launch) (Z : State) (w0 : Array Value) (hw : ∀ d ∈ tables_1, d.before w0 Z = true) (ws : List Jvm.Cond) (k : Int32) (h0 : Heap) : Pact l Z (⟨"com/example/cantilever/cantilever/http/Headers", "isFieldValueChar", "(C)Z"⟩ : MethodName) prog_19_method_19_code 1 (some .boolean) ws ({ frames := 0, cells := 0, slots := 0, locals := 0 } : Room) #[.int k] h0 (own_QR h0 (.int (own_f k))) := by
  refine Pact.intro (plainFor_of_name pnB) ?_
  intro p e s m below meth c T0 X0 hx hby hml hret hlk hown hnm hZ e0
  refine Go.at (efB m k) ?_
  refine Go.on (g' := (mkF m 1 _ [(.int k)])) (fun t k => XS.iloadN X0.here hx rfl (hb hby d1_0) rfl k) ?_
  refine Go.on (g' := (mkF m 3 _ [(.int (9 : Int32)), (.int k)])) (fun t k => XS.bipush X0.here hx rfl (hb hby d1_1) k) ?_
  refine Go.icmp X0 hx hby d1_3 (pcT := 25) (pcF := 6) (by decide) (by decide) rfl (fun q => ?_) (fun q => ?_)
  · have q1 := iEq.1 q
    clear q
    show Go p e below _ _ (mkF m 25 _ [])
    refine Go.on (g' := (mkF m 26 _ [(.int (1 : Int32))])) (fun t k => XS.iconst X0.here hx rfl (hb hby d1_25) k) ?_
    refine Go.on (g' := (mkF m 30 _ [(.int (1 : Int32))])) (fun t k => XS.goto X0.here hx rfl (pc0 := 26) (pc' := 30) rfl (hb hby d1_26) (by decide) (by decide) k) ?_
    exact Go.retI X0 hx hlk hret hby d1_30 rfl (by simp) (by decide) (by decide) ⟨by rw [own_f, if_pos q1], rfl, e0⟩
  · have q1 := iEq.2 q
    clear q
    show Go p e below _ _ (mkF m 6 _ [])
    refine Go.on (g' := (mkF m 7 _ [(.int k)])) (fun t k => XS.iloadN X0.here hx rfl (hb hby d1_6) rfl k) ?_
    refine Go.on (g' := (mkF m 9 _ [(.int (32 : Int32)), (.int k)])) (fun t k => XS.bipush X0.here hx rfl (hb hby d1_7) k) ?_
    refine Go.icmp X0 hx hby d1_9 (pcT := 29) (pcF := 12) (by decide) (by decide) rfl (fun q => ?_) (fun q => ?_)
    · have q2 := iLt.1 q
      clear q
      show Go p e below _ _ (mkF m 29 _ [])
      refine Go.on (g' := (mkF m 30 _ [(.int (0 : Int32))])) (fun t k => XS.iconst X0.here hx rfl (hb hby d1_29) k) ?_
      exact Go.retI X0 hx hlk hret hby d1_30 rfl (by simp) (by decide) (by decide) ⟨by rw [own_f, if_neg q1, if_pos q2], rfl, e0⟩
    · have q2 := iLt.2 q
      clear q
      show Go p e below _ _ (mkF m 12 _ [])
      refine Go.on (g' := (mkF m 13 _ [(.int k)])) (fun t k => XS.iloadN X0.here hx rfl (hb hby d1_12) rfl k) ?_
      refine Go.on (g' := (mkF m 15 _ [(.int (127 : Int32)), (.int k)])) (fun t k => XS.bipush X0.here hx rfl (hb hby d1_13) k) ?_
      refine Go.icmp X0 hx hby d1_15 (pcT := 29) (pcF := 18) (by decide) (by decide) rfl (fun q => ?_) (fun q => ?_)
      · have q3 := iEq.1 q
        clear q
        show Go p e below _ _ (mkF m 29 _ [])
        refine Go.on (g' := (mkF m 30 _ [(.int (0 : Int32))])) (fun t k => XS.iconst X0.here hx rfl (hb hby d1_29) k) ?_
        exact Go.retI X0 hx hlk hret hby d1_30 rfl (by simp) (by decide) (by decide) ⟨by rw [own_f, if_neg q1, if_neg q2, if_pos q3], rfl, e0⟩
      · have q3 := iEq.2 q
        clear q
        show Go p e below _ _ (mkF m 18 _ [])
        refine Go.on (g' := (mkF m 19 _ [(.int k)])) (fun t k => XS.iloadN X0.here hx rfl (hb hby d1_18) rfl k) ?_
        refine Go.on (g' := (mkF m 22 _ [(.int (255 : Int32)), (.int k)])) (fun t k => XS.sipush X0.here hx rfl (hb hby d1_19) k) ?_
        refine Go.icmp X0 hx hby d1_22 (pcT := 29) (pcF := 25) (by decide) (by decide) rfl (fun q => ?_) (fun q => ?_)
        · have q4 := iGt.1 q
          clear q
          show Go p e below _ _ (mkF m 29 _ [])
          refine Go.on (g' := (mkF m 30 _ [(.int (0 : Int32))])) (fun t k => XS.iconst X0.here hx rfl (hb hby d1_29) k) ?_
          exact Go.retI X0 hx hlk hret hby d1_30 rfl (by simp) (by decide) (by decide) ⟨by rw [own_f, if_neg q1, if_neg q2, if_neg q3, if_pos q4], rfl, e0⟩
        · have q4 := iGt.2 q
          clear q
          show Go p e below _ _ (mkF m 25 _ [])
          refine Go.on (g' := (mkF m 26 _ [(.int (1 : Int32))])) (fun t k => XS.iconst X0.here hx rfl (hb hby d1_25) k) ?_
          refine Go.on (g' := (mkF m 30 _ [(.int (1 : Int32))])) (fun t k => XS.goto X0.here hx rfl (pc0 := 26) (pc' := 30) rfl (hb hby d1_26) (by decide) (by decide) k) ?_
          exact Go.retI X0 hx hlk hret hby d1_30 rfl (by simp) (by decide) (by decide) ⟨by rw [own_f, if_neg q1, if_neg q2, if_neg q3, if_neg q4], rfl, e0⟩
theorem own_0 (c : Int32) (h1 : ¬ c = 9) (h2 : ¬ c = 32) (h3 : c < 33 ∨ 126 < c) (h4 : c < 128 ∨ 255 < c) : own_f c = 0 := by
  have e9 : ¬ c.toInt = 9 := fun q => h1 (Int32.toInt_inj.mp q)
  have e32 : ¬ c.toInt = 32 := fun q => h2 (Int32.toInt_inj.mp q)
  simp only [Int32.lt_iff_toInt_lt] at h3 h4
  have k33 : (33 : Int32).toInt = 33 := by decide
  have k126 : (126 : Int32).toInt = 126 := by decide
  have k128 : (128 : Int32).toInt = 128 := by decide
  have k255 : (255 : Int32).toInt = 255 := by decide
  have k32 : (32 : Int32).toInt = 32 := by decide
  unfold own_f
  rw [if_neg h1]
  split
  · rfl
  · rename_i q; rw [Int32.lt_iff_toInt_lt] at q
    split
    · rfl
    · rename_i r
      have r' : ¬ c.toInt = 127 := fun q => r (Int32.toInt_inj.mp q)
      rw [if_pos]
      rw [Int32.lt_iff_toInt_lt]
      omega
theorem own_1 (c : Int32) (h : c = 9 ∨ c = 32 ∨ (¬ c < 33 ∧ ¬ 126 < c) ∨ (¬ c < 128 ∧ ¬ 255 < c)) : own_f c = 1 := by
  by_cases h1 : c = 9
  · rw [own_f, if_pos h1]
  · have h' : ¬ c < 32 ∧ ¬ c = 127 ∧ ¬ 255 < c := by
      have k33 : (33 : Int32).toInt = 33 := by decide
      have k126 : (126 : Int32).toInt = 126 := by decide
      have k127 : (127 : Int32).toInt = 127 := by decide
      have k128 : (128 : Int32).toInt = 128 := by decide
      have k255 : (255 : Int32).toInt = 255 := by decide
      have k32 : (32 : Int32).toInt = 32 := by decide
      simp only [Int32.lt_iff_toInt_lt, ← Int32.toInt_inj] at h h1 ⊢
      have k9 : (9 : Int32).toInt = 9 := by decide
      omega
    rw [own_f, if_neg h1, if_neg h'.1, if_neg h'.2.1, if_neg h'.2.2]
def own_Q0 (n0 : Nat) (v : Option Value) (h : Heap) (L : List Loc) : Prop := v = some (.int 1) ∧ Fr n0 L
set_option maxRecDepth 65536 in
set_option maxHeartbeats 40000000 in
theorem rmLaw (l : Launch) (Z : State) (w0 : Array Value) (hw : ∀ d ∈ tables_1, d.before w0 Z = true) (ws : List Jvm.Cond) (p0 : Int32) (h0 : Heap) (n0 : Nat) (Z0 : n0 ≤ h0.size) : Pact l Z x code maxLocals ret ws room_1 #[.int p0] h0 (own_Q0 n0) := by
  refine Pact.intro (plainFor_of_name pnLaw) ?_
  intro p e s m below meth c T0 X0 hx hby hml hret hlk hown hnm hZ e0
  refine Go.at (ef0 m p0) ?_
  have hown : s.vm.findClass "com/example/cantilever/cantilever/http/HeadersIsFieldValueCharPinLaw" = some m.cls := hown
  have N0 := Fr.nil n0
  refine Go.on (g' := (mkF m 1 _ [(.int p0)])) (fun t k => XS.iloadN X0.here hx rfl (hb hby at_0) rfl k) ?_
  refine Go.on (g' := (mkF m 3 _ [(.int (65535 : Int32)), (.int p0)])) (X0.ldcInt hx hown (mvT hZ (hw _ (List.mem_of_getElem? (i := 0) rfl))) (g := (mkF m 1 #[.val (.int p0), .unset, .unset, .unset, .unset, .unset, .unset] [(.int p0)])) rfl (hb hby at_1)) ?_
  refine Go.on (g' := (mkF m 4 _ [(.int (p0 &&& (65535 : Int32)))])) (fun t k => XS.iand X0.here hx rfl (hb hby at_3) rfl k) ?_
  refine Go.on (g' := (mkF m 5 _ [(.int ((p0 &&& (65535 : Int32)).toUInt32.toUInt16.toUInt32.toInt32))])) (fun t k => XT.i2c X0.here hx rfl (hb hby at_4) rfl k) ?_
  refine Go.on (g' := (mkF m 6 #[.val (.int p0), .val (.int ((p0 &&& (65535 : Int32)).toUInt32.toUInt16.toUInt32.toInt32)), .unset, .unset, .unset, .unset, .unset] [])) (fun t k => XS.istoreN X0.here hx rfl (hb hby at_5) rfl (l' := #[.val (.int p0), .val (.int ((p0 &&& (65535 : Int32)).toUInt32.toUInt16.toUInt32.toInt32)), .unset, .unset, .unset, .unset, .unset]) rfl k) ?_
  obtain ⟨kk, hkk⟩ : ∃ z : Int32, z = ((p0 &&& (65535 : Int32)).toUInt32.toUInt16.toUInt32.toInt32) := ⟨_, rfl⟩
  rw [← hkk]
  refine Go.on (g' := (mkF m 7 _ [(.int kk)])) (fun t k => XS.iloadN X0.here hx rfl (hb hby at_6) rfl k) ?_
  refine Go.on (g' := (mkF m 9 _ [(.int (9 : Int32)), (.int kk)])) (fun t k => XS.bipush X0.here hx rfl (hb hby at_7) k) ?_
  refine Go.icmp X0 hx hby at_9 (pcT := 16) (pcF := 12) (by decide) (by decide) rfl (fun q => ?_) (fun q => ?_)
  · have q1 := iNe.1 q
    clear q
    show Go p e below _ _ (mkF m 16 _ [])
    refine Go.on (g' := (mkF m 17 _ [(.int (0 : Int32))])) (fun t k => XS.iconst X0.here hx rfl (hb hby at_16) k) ?_
    refine Go.on (g' := (mkF m 18 #[.val (.int p0), .val (.int kk), .val (.int (0 : Int32)), .unset, .unset, .unset, .unset] [])) (fun t k => XS.istoreN X0.here hx rfl (hb hby at_17) rfl (l' := #[.val (.int p0), .val (.int kk), .val (.int (0 : Int32)), .unset, .unset, .unset, .unset]) rfl k) ?_
    refine Go.on (g' := (mkF m 19 _ [(.int kk)])) (fun t k => XS.iloadN X0.here hx rfl (hb hby at_18) rfl k) ?_
    refine Go.on (g' := (mkF m 21 _ [(.int (32 : Int32)), (.int kk)])) (fun t k => XS.bipush X0.here hx rfl (hb hby at_19) k) ?_
    refine Go.icmp X0 hx hby at_21 (pcT := 28) (pcF := 24) (by decide) (by decide) rfl (fun q => ?_) (fun q => ?_)
    · have q2 := iNe.1 q
      clear q
      show Go p e below _ _ (mkF m 28 _ [])
      refine Go.on (g' := (mkF m 29 _ [(.int (0 : Int32))])) (fun t k => XS.iconst X0.here hx rfl (hb hby at_28) k) ?_
      refine Go.on (g' := (mkF m 30 #[.val (.int p0), .val (.int kk), .val (.int (0 : Int32)), .val (.int (0 : Int32)), .unset, .unset, .unset] [])) (fun t k => XS.istoreN X0.here hx rfl (hb hby at_29) rfl (l' := #[.val (.int p0), .val (.int kk), .val (.int (0 : Int32)), .val (.int (0 : Int32)), .unset, .unset, .unset]) rfl k) ?_
      refine Go.on (g' := (mkF m 31 _ [(.int kk)])) (fun t k => XS.iloadN X0.here hx rfl (hb hby at_30) rfl k) ?_
      refine Go.on (g' := (mkF m 33 _ [(.int (33 : Int32)), (.int kk)])) (fun t k => XS.bipush X0.here hx rfl (hb hby at_31) k) ?_
      refine Go.icmp X0 hx hby at_33 (pcT := 46) (pcF := 36) (by decide) (by decide) rfl (fun q => ?_) (fun q => ?_)
      · have q3 := iLt.1 q
        clear q
        show Go p e below _ _ (mkF m 46 _ [])
        refine Go.on (g' := (mkF m 47 _ [(.int (0 : Int32))])) (fun t k => XS.iconst X0.here hx rfl (hb hby at_46) k) ?_
        refine Go.on (g' := (mkF m 49 #[.val (.int p0), .val (.int kk), .val (.int (0 : Int32)), .val (.int (0 : Int32)), .val (.int (0 : Int32)), .unset, .unset] [])) (fun t k => XS.istore X0.here hx rfl (hb hby at_47) rfl (l' := #[.val (.int p0), .val (.int kk), .val (.int (0 : Int32)), .val (.int (0 : Int32)), .val (.int (0 : Int32)), .unset, .unset]) rfl k) ?_
        refine Go.on (g' := (mkF m 50 _ [(.int kk)])) (fun t k => XS.iloadN X0.here hx rfl (hb hby at_49) rfl k) ?_
        refine Go.on (g' := (mkF m 53 _ [(.int (128 : Int32)), (.int kk)])) (fun t k => XS.sipush X0.here hx rfl (hb hby at_50) k) ?_
        refine Go.icmp X0 hx hby at_53 (pcT := 67) (pcF := 56) (by decide) (by decide) rfl (fun q => ?_) (fun q => ?_)
        · have q4 := iLt.1 q
          clear q
          show Go p e below _ _ (mkF m 67 _ [])
          refine Go.on (g' := (mkF m 68 _ [(.int (0 : Int32))])) (fun t k => XS.iconst X0.here hx rfl (hb hby at_67) k) ?_
          refine Go.on (g' := (mkF m 70 #[.val (.int p0), .val (.int kk), .val (.int (0 : Int32)), .val (.int (0 : Int32)), .val (.int (0 : Int32)), .val (.int (0 : Int32)), .unset] [])) (fun t k => XS.istore X0.here hx rfl (hb hby at_68) rfl (l' := #[.val (.int p0), .val (.int kk), .val (.int (0 : Int32)), .val (.int (0 : Int32)), .val (.int (0 : Int32)), .val (.int (0 : Int32)), .unset]) rfl k) ?_
          refine Go.on (g' := (mkF m 71 _ [(.int (0 : Int32))])) (fun t k => XS.iloadN X0.here hx rfl (hb hby at_70) rfl k) ?_
          refine Go.ifc X0 hx hby at_71 (pcT := 88) (pcF := 74) (by decide) (by decide) rfl (fun q => absurd q (by decide)) (fun q => ?_)
          clear q
          show Go p e below _ _ (mkF m 74 _ [])
          refine Go.on (g' := (mkF m 75 _ [(.int (0 : Int32))])) (fun t k => XS.iloadN X0.here hx rfl (hb hby at_74) rfl k) ?_
          refine Go.ifc X0 hx hby at_75 (pcT := 88) (pcF := 78) (by decide) (by decide) rfl (fun q => absurd q (by decide)) (fun q => ?_)
          clear q
          show Go p e below _ _ (mkF m 78 _ [])
          refine Go.on (g' := (mkF m 80 _ [(.int (0 : Int32))])) (fun t k => XS.iload X0.here hx rfl (hb hby at_78) rfl k) ?_
          refine Go.ifc X0 hx hby at_80 (pcT := 88) (pcF := 83) (by decide) (by decide) rfl (fun q => absurd q (by decide)) (fun q => ?_)
          clear q
          show Go p e below _ _ (mkF m 83 _ [])
          refine Go.on (g' := (mkF m 85 _ [(.int (0 : Int32))])) (fun t k => XS.iload X0.here hx rfl (hb hby at_83) rfl k) ?_
          refine Go.ifc X0 hx hby at_85 (pcT := 92) (pcF := 88) (by decide) (by decide) rfl (fun q => ?_) (fun q => absurd q (by decide))
          clear q
          show Go p e below _ _ (mkF m 92 _ [])
          refine Go.on (g' := (mkF m 93 _ [(.int (0 : Int32))])) (fun t k => XS.iconst X0.here hx rfl (hb hby at_92) k) ?_
          refine Go.on (g' := (mkF m 95 #[.val (.int p0), .val (.int kk), .val (.int (0 : Int32)), .val (.int (0 : Int32)), .val (.int (0 : Int32)), .val (.int (0 : Int32)), .val (.int (0 : Int32))] [])) (fun t k => XS.istore X0.here hx rfl (hb hby at_93) rfl (l' := #[.val (.int p0), .val (.int kk), .val (.int (0 : Int32)), .val (.int (0 : Int32)), .val (.int (0 : Int32)), .val (.int (0 : Int32)), .val (.int (0 : Int32))]) rfl k) ?_
          refine Go.on (g' := (mkF m 96 _ [(.int kk)])) (fun t k => XS.iloadN X0.here hx rfl (hb hby at_95) rfl k) ?_
          refine Go.callS X0 hx hZ hby (by rw [hml]; rfl) (y := (⟨"com/example/cantilever/cantilever/http/Headers", "isFieldValueChar", "(C)Z"⟩ : MethodName)) hown (hw _ (List.mem_of_getElem? (i := 1) rfl)) (hw _ (List.mem_of_getElem? (i := 2) rfl)) (hw _ (List.mem_of_getElem? (i := 3) rfl)) (hw _ (List.mem_of_getElem? (i := 4) rfl)) (by decide) (argsL := [(.int kk)]) (rest := []) (rmB l Z w0 hw [] kk h0) e0 0 (by decide) (by decide) (by decide) (by decide) rfl pdB rfl (Nat.le_of_eq rfl) at_96 (pcF := 99) rfl ?_
          intro v1 T1 L1 X1 hQ1
          obtain ⟨rfl, rfl, e1⟩ := hQ1
          rw [List.append_nil] at X1
          show Go p e below _ _ (mkF m 99 _ [(.int (own_f kk))])
          refine Go.on (g' := (mkF m 101 _ [(.int (0 : Int32)), (.int (own_f kk))])) (fun t k => XS.iload X1.here hx rfl (hb hby at_99) rfl k) ?_
          refine Go.icmp X1 hx hby at_101 (pcT := 108) (pcF := 104) (by decide) (by decide) rfl (fun q => absurd q (fun q => (iNe.1 q) (own_0 kk q1 q2 (Or.inl q3) (Or.inl q4)))) (fun q => ?_)
          clear q
          show Go p e below _ _ (mkF m 104 _ [])
          refine Go.on (g' := (mkF m 105 _ [(.int (1 : Int32))])) (fun t k => XS.iconst X1.here hx rfl (hb hby at_104) k) ?_
          refine Go.on (g' := (mkF m 109 _ [(.int (1 : Int32))])) (fun t k => XS.goto X1.here hx rfl (pc0 := 105) (pc' := 109) rfl (hb hby at_105) (by decide) (by decide) k) ?_
          exact Go.retI X1 hx hlk hret hby at_109 rfl (by simp) (by decide) (by decide) ⟨rfl, N0⟩
        · have q4 := iLt.2 q
          clear q
          show Go p e below _ _ (mkF m 56 _ [])
          refine Go.on (g' := (mkF m 57 _ [(.int kk)])) (fun t k => XS.iloadN X0.here hx rfl (hb hby at_56) rfl k) ?_
          refine Go.on (g' := (mkF m 60 _ [(.int (255 : Int32)), (.int kk)])) (fun t k => XS.sipush X0.here hx rfl (hb hby at_57) k) ?_
          refine Go.icmp X0 hx hby at_60 (pcT := 67) (pcF := 63) (by decide) (by decide) rfl (fun q => ?_) (fun q => ?_)
          · have q5 := iGt.1 q
            clear q
            show Go p e below _ _ (mkF m 67 _ [])
            refine Go.on (g' := (mkF m 68 _ [(.int (0 : Int32))])) (fun t k => XS.iconst X0.here hx rfl (hb hby at_67) k) ?_
            refine Go.on (g' := (mkF m 70 #[.val (.int p0), .val (.int kk), .val (.int (0 : Int32)), .val (.int (0 : Int32)), .val (.int (0 : Int32)), .val (.int (0 : Int32)), .unset] [])) (fun t k => XS.istore X0.here hx rfl (hb hby at_68) rfl (l' := #[.val (.int p0), .val (.int kk), .val (.int (0 : Int32)), .val (.int (0 : Int32)), .val (.int (0 : Int32)), .val (.int (0 : Int32)), .unset]) rfl k) ?_
            refine Go.on (g' := (mkF m 71 _ [(.int (0 : Int32))])) (fun t k => XS.iloadN X0.here hx rfl (hb hby at_70) rfl k) ?_
            refine Go.ifc X0 hx hby at_71 (pcT := 88) (pcF := 74) (by decide) (by decide) rfl (fun q => absurd q (by decide)) (fun q => ?_)
            clear q
            show Go p e below _ _ (mkF m 74 _ [])
            refine Go.on (g' := (mkF m 75 _ [(.int (0 : Int32))])) (fun t k => XS.iloadN X0.here hx rfl (hb hby at_74) rfl k) ?_
            refine Go.ifc X0 hx hby at_75 (pcT := 88) (pcF := 78) (by decide) (by decide) rfl (fun q => absurd q (by decide)) (fun q => ?_)
            clear q
            show Go p e below _ _ (mkF m 78 _ [])
            refine Go.on (g' := (mkF m 80 _ [(.int (0 : Int32))])) (fun t k => XS.iload X0.here hx rfl (hb hby at_78) rfl k) ?_
            refine Go.ifc X0 hx hby at_80 (pcT := 88) (pcF := 83) (by decide) (by decide) rfl (fun q => absurd q (by decide)) (fun q => ?_)
            clear q
            show Go p e below _ _ (mkF m 83 _ [])
            refine Go.on (g' := (mkF m 85 _ [(.int (0 : Int32))])) (fun t k => XS.iload X0.here hx rfl (hb hby at_83) rfl k) ?_
            refine Go.ifc X0 hx hby at_85 (pcT := 92) (pcF := 88) (by decide) (by decide) rfl (fun q => ?_) (fun q => absurd q (by decide))
            clear q
            show Go p e below _ _ (mkF m 92 _ [])
            refine Go.on (g' := (mkF m 93 _ [(.int (0 : Int32))])) (fun t k => XS.iconst X0.here hx rfl (hb hby at_92) k) ?_
            refine Go.on (g' := (mkF m 95 #[.val (.int p0), .val (.int kk), .val (.int (0 : Int32)), .val (.int (0 : Int32)), .val (.int (0 : Int32)), .val (.int (0 : Int32)), .val (.int (0 : Int32))] [])) (fun t k => XS.istore X0.here hx rfl (hb hby at_93) rfl (l' := #[.val (.int p0), .val (.int kk), .val (.int (0 : Int32)), .val (.int (0 : Int32)), .val (.int (0 : Int32)), .val (.int (0 : Int32)), .val (.int (0 : Int32))]) rfl k) ?_
            refine Go.on (g' := (mkF m 96 _ [(.int kk)])) (fun t k => XS.iloadN X0.here hx rfl (hb hby at_95) rfl k) ?_
            refine Go.callS X0 hx hZ hby (by rw [hml]; rfl) (y := (⟨"com/example/cantilever/cantilever/http/Headers", "isFieldValueChar", "(C)Z"⟩ : MethodName)) hown (hw _ (List.mem_of_getElem? (i := 1) rfl)) (hw _ (List.mem_of_getElem? (i := 2) rfl)) (hw _ (List.mem_of_getElem? (i := 3) rfl)) (hw _ (List.mem_of_getElem? (i := 4) rfl)) (by decide) (argsL := [(.int kk)]) (rest := []) (rmB l Z w0 hw [] kk h0) e0 0 (by decide) (by decide) (by decide) (by decide) rfl pdB rfl (Nat.le_of_eq rfl) at_96 (pcF := 99) rfl ?_
            intro v2 T2 L2 X2 hQ2
            obtain ⟨rfl, rfl, e2⟩ := hQ2
            rw [List.append_nil] at X2
            show Go p e below _ _ (mkF m 99 _ [(.int (own_f kk))])
            refine Go.on (g' := (mkF m 101 _ [(.int (0 : Int32)), (.int (own_f kk))])) (fun t k => XS.iload X2.here hx rfl (hb hby at_99) rfl k) ?_
            refine Go.icmp X2 hx hby at_101 (pcT := 108) (pcF := 104) (by decide) (by decide) rfl (fun q => absurd q (fun q => (iNe.1 q) (own_0 kk q1 q2 (Or.inl q3) (Or.inr q5)))) (fun q => ?_)
            clear q
            show Go p e below _ _ (mkF m 104 _ [])
            refine Go.on (g' := (mkF m 105 _ [(.int (1 : Int32))])) (fun t k => XS.iconst X2.here hx rfl (hb hby at_104) k) ?_
            refine Go.on (g' := (mkF m 109 _ [(.int (1 : Int32))])) (fun t k => XS.goto X2.here hx rfl (pc0 := 105) (pc' := 109) rfl (hb hby at_105) (by decide) (by decide) k) ?_
            exact Go.retI X2 hx hlk hret hby at_109 rfl (by simp) (by decide) (by decide) ⟨rfl, N0⟩
          · have q5 := iGt.2 q
            clear q
            show Go p e below _ _ (mkF m 63 _ [])
            refine Go.on (g' := (mkF m 64 _ [(.int (1 : Int32))])) (fun t k => XS.iconst X0.here hx rfl (hb hby at_63) k) ?_
            refine Go.on (g' := (mkF m 68 _ [(.int (1 : Int32))])) (fun t k => XS.goto X0.here hx rfl (pc0 := 64) (pc' := 68) rfl (hb hby at_64) (by decide) (by decide) k) ?_
            refine Go.on (g' := (mkF m 70 #[.val (.int p0), .val (.int kk), .val (.int (0 : Int32)), .val (.int (0 : Int32)), .val (.int (0 : Int32)), .val (.int (1 : Int32)), .unset] [])) (fun t k => XS.istore X0.here hx rfl (hb hby at_68) rfl (l' := #[.val (.int p0), .val (.int kk), .val (.int (0 : Int32)), .val (.int (0 : Int32)), .val (.int (0 : Int32)), .val (.int (1 : Int32)), .unset]) rfl k) ?_
            refine Go.on (g' := (mkF m 71 _ [(.int (0 : Int32))])) (fun t k => XS.iloadN X0.here hx rfl (hb hby at_70) rfl k) ?_
            refine Go.ifc X0 hx hby at_71 (pcT := 88) (pcF := 74) (by decide) (by decide) rfl (fun q => absurd q (by decide)) (fun q => ?_)
            clear q
            show Go p e below _ _ (mkF m 74 _ [])
            refine Go.on (g' := (mkF m 75 _ [(.int (0 : Int32))])) (fun t k => XS.iloadN X0.here hx rfl (hb hby at_74) rfl k) ?_
            refine Go.ifc X0 hx hby at_75 (pcT := 88) (pcF := 78) (by decide) (by decide) rfl (fun q => absurd q (by decide)) (fun q => ?_)
            clear q
            show Go p e below _ _ (mkF m 78 _ [])
            refine Go.on (g' := (mkF m 80 _ [(.int (0 : Int32))])) (fun t k => XS.iload X0.here hx rfl (hb hby at_78) rfl k) ?_
            refine Go.ifc X0 hx hby at_80 (pcT := 88) (pcF := 83) (by decide) (by decide) rfl (fun q => absurd q (by decide)) (fun q => ?_)
            clear q
            show Go p e below _ _ (mkF m 83 _ [])
            refine Go.on (g' := (mkF m 85 _ [(.int (1 : Int32))])) (fun t k => XS.iload X0.here hx rfl (hb hby at_83) rfl k) ?_
            refine Go.ifc X0 hx hby at_85 (pcT := 92) (pcF := 88) (by decide) (by decide) rfl (fun q => absurd q (by decide)) (fun q => ?_)
            clear q
            show Go p e below _ _ (mkF m 88 _ [])
            refine Go.on (g' := (mkF m 89 _ [(.int (1 : Int32))])) (fun t k => XS.iconst X0.here hx rfl (hb hby at_88) k) ?_
            refine Go.on (g' := (mkF m 93 _ [(.int (1 : Int32))])) (fun t k => XS.goto X0.here hx rfl (pc0 := 89) (pc' := 93) rfl (hb hby at_89) (by decide) (by decide) k) ?_
            refine Go.on (g' := (mkF m 95 #[.val (.int p0), .val (.int kk), .val (.int (0 : Int32)), .val (.int (0 : Int32)), .val (.int (0 : Int32)), .val (.int (1 : Int32)), .val (.int (1 : Int32))] [])) (fun t k => XS.istore X0.here hx rfl (hb hby at_93) rfl (l' := #[.val (.int p0), .val (.int kk), .val (.int (0 : Int32)), .val (.int (0 : Int32)), .val (.int (0 : Int32)), .val (.int (1 : Int32)), .val (.int (1 : Int32))]) rfl k) ?_
            refine Go.on (g' := (mkF m 96 _ [(.int kk)])) (fun t k => XS.iloadN X0.here hx rfl (hb hby at_95) rfl k) ?_
            refine Go.callS X0 hx hZ hby (by rw [hml]; rfl) (y := (⟨"com/example/cantilever/cantilever/http/Headers", "isFieldValueChar", "(C)Z"⟩ : MethodName)) hown (hw _ (List.mem_of_getElem? (i := 1) rfl)) (hw _ (List.mem_of_getElem? (i := 2) rfl)) (hw _ (List.mem_of_getElem? (i := 3) rfl)) (hw _ (List.mem_of_getElem? (i := 4) rfl)) (by decide) (argsL := [(.int kk)]) (rest := []) (rmB l Z w0 hw [] kk h0) e0 0 (by decide) (by decide) (by decide) (by decide) rfl pdB rfl (Nat.le_of_eq rfl) at_96 (pcF := 99) rfl ?_
            intro v3 T3 L3 X3 hQ3
            obtain ⟨rfl, rfl, e3⟩ := hQ3
            rw [List.append_nil] at X3
            show Go p e below _ _ (mkF m 99 _ [(.int (own_f kk))])
            refine Go.on (g' := (mkF m 101 _ [(.int (1 : Int32)), (.int (own_f kk))])) (fun t k => XS.iload X3.here hx rfl (hb hby at_99) rfl k) ?_
            refine Go.icmp X3 hx hby at_101 (pcT := 108) (pcF := 104) (by decide) (by decide) rfl (fun q => absurd q (fun q => (iNe.1 q) (own_1 kk (Or.inr (Or.inr (Or.inr ⟨q4, q5⟩)))))) (fun q => ?_)
            clear q
            show Go p e below _ _ (mkF m 104 _ [])
            refine Go.on (g' := (mkF m 105 _ [(.int (1 : Int32))])) (fun t k => XS.iconst X3.here hx rfl (hb hby at_104) k) ?_
            refine Go.on (g' := (mkF m 109 _ [(.int (1 : Int32))])) (fun t k => XS.goto X3.here hx rfl (pc0 := 105) (pc' := 109) rfl (hb hby at_105) (by decide) (by decide) k) ?_
            exact Go.retI X3 hx hlk hret hby at_109 rfl (by simp) (by decide) (by decide) ⟨rfl, N0⟩
      · have q3 := iLt.2 q
        clear q
        show Go p e below _ _ (mkF m 36 _ [])
        refine Go.on (g' := (mkF m 37 _ [(.int kk)])) (fun t k => XS.iloadN X0.here hx rfl (hb hby at_36) rfl k) ?_
        refine Go.on (g' := (mkF m 39 _ [(.int (126 : Int32)), (.int kk)])) (fun t k => XS.bipush X0.here hx rfl (hb hby at_37) k) ?_
        refine Go.icmp X0 hx hby at_39 (pcT := 46) (pcF := 42) (by decide) (by decide) rfl (fun q => ?_) (fun q => ?_)
        · have q6 := iGt.1 q
          clear q
          show Go p e below _ _ (mkF m 46 _ [])
          refine Go.on (g' := (mkF m 47 _ [(.int (0 : Int32))])) (fun t k => XS.iconst X0.here hx rfl (hb hby at_46) k) ?_
          refine Go.on (g' := (mkF m 49 #[.val (.int p0), .val (.int kk), .val (.int (0 : Int32)), .val (.int (0 : Int32)), .val (.int (0 : Int32)), .unset, .unset] [])) (fun t k => XS.istore X0.here hx rfl (hb hby at_47) rfl (l' := #[.val (.int p0), .val (.int kk), .val (.int (0 : Int32)), .val (.int (0 : Int32)), .val (.int (0 : Int32)), .unset, .unset]) rfl k) ?_
          refine Go.on (g' := (mkF m 50 _ [(.int kk)])) (fun t k => XS.iloadN X0.here hx rfl (hb hby at_49) rfl k) ?_
          refine Go.on (g' := (mkF m 53 _ [(.int (128 : Int32)), (.int kk)])) (fun t k => XS.sipush X0.here hx rfl (hb hby at_50) k) ?_
          refine Go.icmp X0 hx hby at_53 (pcT := 67) (pcF := 56) (by decide) (by decide) rfl (fun q => ?_) (fun q => ?_)
          · have q7 := iLt.1 q
            clear q
            show Go p e below _ _ (mkF m 67 _ [])
            refine Go.on (g' := (mkF m 68 _ [(.int (0 : Int32))])) (fun t k => XS.iconst X0.here hx rfl (hb hby at_67) k) ?_
            refine Go.on (g' := (mkF m 70 #[.val (.int p0), .val (.int kk), .val (.int (0 : Int32)), .val (.int (0 : Int32)), .val (.int (0 : Int32)), .val (.int (0 : Int32)), .unset] [])) (fun t k => XS.istore X0.here hx rfl (hb hby at_68) rfl (l' := #[.val (.int p0), .val (.int kk), .val (.int (0 : Int32)), .val (.int (0 : Int32)), .val (.int (0 : Int32)), .val (.int (0 : Int32)), .unset]) rfl k) ?_
            refine Go.on (g' := (mkF m 71 _ [(.int (0 : Int32))])) (fun t k => XS.iloadN X0.here hx rfl (hb hby at_70) rfl k) ?_
            refine Go.ifc X0 hx hby at_71 (pcT := 88) (pcF := 74) (by decide) (by decide) rfl (fun q => absurd q (by decide)) (fun q => ?_)
            clear q
            show Go p e below _ _ (mkF m 74 _ [])
            refine Go.on (g' := (mkF m 75 _ [(.int (0 : Int32))])) (fun t k => XS.iloadN X0.here hx rfl (hb hby at_74) rfl k) ?_
            refine Go.ifc X0 hx hby at_75 (pcT := 88) (pcF := 78) (by decide) (by decide) rfl (fun q => absurd q (by decide)) (fun q => ?_)
            clear q
            show Go p e below _ _ (mkF m 78 _ [])
            refine Go.on (g' := (mkF m 80 _ [(.int (0 : Int32))])) (fun t k => XS.iload X0.here hx rfl (hb hby at_78) rfl k) ?_
            refine Go.ifc X0 hx hby at_80 (pcT := 88) (pcF := 83) (by decide) (by decide) rfl (fun q => absurd q (by decide)) (fun q => ?_)
            clear q
            show Go p e below _ _ (mkF m 83 _ [])
            refine Go.on (g' := (mkF m 85 _ [(.int (0 : Int32))])) (fun t k => XS.iload X0.here hx rfl (hb hby at_83) rfl k) ?_
            refine Go.ifc X0 hx hby at_85 (pcT := 92) (pcF := 88) (by decide) (by decide) rfl (fun q => ?_) (fun q => absurd q (by decide))
            clear q
            show Go p e below _ _ (mkF m 92 _ [])
            refine Go.on (g' := (mkF m 93 _ [(.int (0 : Int32))])) (fun t k => XS.iconst X0.here hx rfl (hb hby at_92) k) ?_
            refine Go.on (g' := (mkF m 95 #[.val (.int p0), .val (.int kk), .val (.int (0 : Int32)), .val (.int (0 : Int32)), .val (.int (0 : Int32)), .val (.int (0 : Int32)), .val (.int (0 : Int32))] [])) (fun t k => XS.istore X0.here hx rfl (hb hby at_93) rfl (l' := #[.val (.int p0), .val (.int kk), .val (.int (0 : Int32)), .val (.int (0 : Int32)), .val (.int (0 : Int32)), .val (.int (0 : Int32)), .val (.int (0 : Int32))]) rfl k) ?_
            refine Go.on (g' := (mkF m 96 _ [(.int kk)])) (fun t k => XS.iloadN X0.here hx rfl (hb hby at_95) rfl k) ?_
            refine Go.callS X0 hx hZ hby (by rw [hml]; rfl) (y := (⟨"com/example/cantilever/cantilever/http/Headers", "isFieldValueChar", "(C)Z"⟩ : MethodName)) hown (hw _ (List.mem_of_getElem? (i := 1) rfl)) (hw _ (List.mem_of_getElem? (i := 2) rfl)) (hw _ (List.mem_of_getElem? (i := 3) rfl)) (hw _ (List.mem_of_getElem? (i := 4) rfl)) (by decide) (argsL := [(.int kk)]) (rest := []) (rmB l Z w0 hw [] kk h0) e0 0 (by decide) (by decide) (by decide) (by decide) rfl pdB rfl (Nat.le_of_eq rfl) at_96 (pcF := 99) rfl ?_
            intro v4 T4 L4 X4 hQ4
            obtain ⟨rfl, rfl, e4⟩ := hQ4
            rw [List.append_nil] at X4
            show Go p e below _ _ (mkF m 99 _ [(.int (own_f kk))])
            refine Go.on (g' := (mkF m 101 _ [(.int (0 : Int32)), (.int (own_f kk))])) (fun t k => XS.iload X4.here hx rfl (hb hby at_99) rfl k) ?_
            refine Go.icmp X4 hx hby at_101 (pcT := 108) (pcF := 104) (by decide) (by decide) rfl (fun q => absurd q (fun q => (iNe.1 q) (own_0 kk q1 q2 (Or.inr q6) (Or.inl q7)))) (fun q => ?_)
            clear q
            show Go p e below _ _ (mkF m 104 _ [])
            refine Go.on (g' := (mkF m 105 _ [(.int (1 : Int32))])) (fun t k => XS.iconst X4.here hx rfl (hb hby at_104) k) ?_
            refine Go.on (g' := (mkF m 109 _ [(.int (1 : Int32))])) (fun t k => XS.goto X4.here hx rfl (pc0 := 105) (pc' := 109) rfl (hb hby at_105) (by decide) (by decide) k) ?_
            exact Go.retI X4 hx hlk hret hby at_109 rfl (by simp) (by decide) (by decide) ⟨rfl, N0⟩
          · have q7 := iLt.2 q
            clear q
            show Go p e below _ _ (mkF m 56 _ [])
            refine Go.on (g' := (mkF m 57 _ [(.int kk)])) (fun t k => XS.iloadN X0.here hx rfl (hb hby at_56) rfl k) ?_
            refine Go.on (g' := (mkF m 60 _ [(.int (255 : Int32)), (.int kk)])) (fun t k => XS.sipush X0.here hx rfl (hb hby at_57) k) ?_
            refine Go.icmp X0 hx hby at_60 (pcT := 67) (pcF := 63) (by decide) (by decide) rfl (fun q => ?_) (fun q => ?_)
            · have q8 := iGt.1 q
              clear q
              show Go p e below _ _ (mkF m 67 _ [])
              refine Go.on (g' := (mkF m 68 _ [(.int (0 : Int32))])) (fun t k => XS.iconst X0.here hx rfl (hb hby at_67) k) ?_
              refine Go.on (g' := (mkF m 70 #[.val (.int p0), .val (.int kk), .val (.int (0 : Int32)), .val (.int (0 : Int32)), .val (.int (0 : Int32)), .val (.int (0 : Int32)), .unset] [])) (fun t k => XS.istore X0.here hx rfl (hb hby at_68) rfl (l' := #[.val (.int p0), .val (.int kk), .val (.int (0 : Int32)), .val (.int (0 : Int32)), .val (.int (0 : Int32)), .val (.int (0 : Int32)), .unset]) rfl k) ?_
              refine Go.on (g' := (mkF m 71 _ [(.int (0 : Int32))])) (fun t k => XS.iloadN X0.here hx rfl (hb hby at_70) rfl k) ?_
              refine Go.ifc X0 hx hby at_71 (pcT := 88) (pcF := 74) (by decide) (by decide) rfl (fun q => absurd q (by decide)) (fun q => ?_)
              clear q
              show Go p e below _ _ (mkF m 74 _ [])
              refine Go.on (g' := (mkF m 75 _ [(.int (0 : Int32))])) (fun t k => XS.iloadN X0.here hx rfl (hb hby at_74) rfl k) ?_
              refine Go.ifc X0 hx hby at_75 (pcT := 88) (pcF := 78) (by decide) (by decide) rfl (fun q => absurd q (by decide)) (fun q => ?_)
              clear q
              show Go p e below _ _ (mkF m 78 _ [])
              refine Go.on (g' := (mkF m 80 _ [(.int (0 : Int32))])) (fun t k => XS.iload X0.here hx rfl (hb hby at_78) rfl k) ?_
              refine Go.ifc X0 hx hby at_80 (pcT := 88) (pcF := 83) (by decide) (by decide) rfl (fun q => absurd q (by decide)) (fun q => ?_)
              clear q
              show Go p e below _ _ (mkF m 83 _ [])
              refine Go.on (g' := (mkF m 85 _ [(.int (0 : Int32))])) (fun t k => XS.iload X0.here hx rfl (hb hby at_83) rfl k) ?_
              refine Go.ifc X0 hx hby at_85 (pcT := 92) (pcF := 88) (by decide) (by decide) rfl (fun q => ?_) (fun q => absurd q (by decide))
              clear q
              show Go p e below _ _ (mkF m 92 _ [])
              refine Go.on (g' := (mkF m 93 _ [(.int (0 : Int32))])) (fun t k => XS.iconst X0.here hx rfl (hb hby at_92) k) ?_
              refine Go.on (g' := (mkF m 95 #[.val (.int p0), .val (.int kk), .val (.int (0 : Int32)), .val (.int (0 : Int32)), .val (.int (0 : Int32)), .val (.int (0 : Int32)), .val (.int (0 : Int32))] [])) (fun t k => XS.istore X0.here hx rfl (hb hby at_93) rfl (l' := #[.val (.int p0), .val (.int kk), .val (.int (0 : Int32)), .val (.int (0 : Int32)), .val (.int (0 : Int32)), .val (.int (0 : Int32)), .val (.int (0 : Int32))]) rfl k) ?_
              refine Go.on (g' := (mkF m 96 _ [(.int kk)])) (fun t k => XS.iloadN X0.here hx rfl (hb hby at_95) rfl k) ?_
              refine Go.callS X0 hx hZ hby (by rw [hml]; rfl) (y := (⟨"com/example/cantilever/cantilever/http/Headers", "isFieldValueChar", "(C)Z"⟩ : MethodName)) hown (hw _ (List.mem_of_getElem? (i := 1) rfl)) (hw _ (List.mem_of_getElem? (i := 2) rfl)) (hw _ (List.mem_of_getElem? (i := 3) rfl)) (hw _ (List.mem_of_getElem? (i := 4) rfl)) (by decide) (argsL := [(.int kk)]) (rest := []) (rmB l Z w0 hw [] kk h0) e0 0 (by decide) (by decide) (by decide) (by decide) rfl pdB rfl (Nat.le_of_eq rfl) at_96 (pcF := 99) rfl ?_
              intro v5 T5 L5 X5 hQ5
              obtain ⟨rfl, rfl, e5⟩ := hQ5
              rw [List.append_nil] at X5
              show Go p e below _ _ (mkF m 99 _ [(.int (own_f kk))])
              refine Go.on (g' := (mkF m 101 _ [(.int (0 : Int32)), (.int (own_f kk))])) (fun t k => XS.iload X5.here hx rfl (hb hby at_99) rfl k) ?_
              refine Go.icmp X5 hx hby at_101 (pcT := 108) (pcF := 104) (by decide) (by decide) rfl (fun q => absurd q (fun q => (iNe.1 q) (own_0 kk q1 q2 (Or.inr q6) (Or.inr q8)))) (fun q => ?_)
              clear q
              show Go p e below _ _ (mkF m 104 _ [])
              refine Go.on (g' := (mkF m 105 _ [(.int (1 : Int32))])) (fun t k => XS.iconst X5.here hx rfl (hb hby at_104) k) ?_
              refine Go.on (g' := (mkF m 109 _ [(.int (1 : Int32))])) (fun t k => XS.goto X5.here hx rfl (pc0 := 105) (pc' := 109) rfl (hb hby at_105) (by decide) (by decide) k) ?_
              exact Go.retI X5 hx hlk hret hby at_109 rfl (by simp) (by decide) (by decide) ⟨rfl, N0⟩
            · have q8 := iGt.2 q
              clear q
              show Go p e below _ _ (mkF m 63 _ [])
              refine Go.on (g' := (mkF m 64 _ [(.int (1 : Int32))])) (fun t k => XS.iconst X0.here hx rfl (hb hby at_63) k) ?_
              refine Go.on (g' := (mkF m 68 _ [(.int (1 : Int32))])) (fun t k => XS.goto X0.here hx rfl (pc0 := 64) (pc' := 68) rfl (hb hby at_64) (by decide) (by decide) k) ?_
              refine Go.on (g' := (mkF m 70 #[.val (.int p0), .val (.int kk), .val (.int (0 : Int32)), .val (.int (0 : Int32)), .val (.int (0 : Int32)), .val (.int (1 : Int32)), .unset] [])) (fun t k => XS.istore X0.here hx rfl (hb hby at_68) rfl (l' := #[.val (.int p0), .val (.int kk), .val (.int (0 : Int32)), .val (.int (0 : Int32)), .val (.int (0 : Int32)), .val (.int (1 : Int32)), .unset]) rfl k) ?_
              refine Go.on (g' := (mkF m 71 _ [(.int (0 : Int32))])) (fun t k => XS.iloadN X0.here hx rfl (hb hby at_70) rfl k) ?_
              refine Go.ifc X0 hx hby at_71 (pcT := 88) (pcF := 74) (by decide) (by decide) rfl (fun q => absurd q (by decide)) (fun q => ?_)
              clear q
              show Go p e below _ _ (mkF m 74 _ [])
              refine Go.on (g' := (mkF m 75 _ [(.int (0 : Int32))])) (fun t k => XS.iloadN X0.here hx rfl (hb hby at_74) rfl k) ?_
              refine Go.ifc X0 hx hby at_75 (pcT := 88) (pcF := 78) (by decide) (by decide) rfl (fun q => absurd q (by decide)) (fun q => ?_)
              clear q
              show Go p e below _ _ (mkF m 78 _ [])
              refine Go.on (g' := (mkF m 80 _ [(.int (0 : Int32))])) (fun t k => XS.iload X0.here hx rfl (hb hby at_78) rfl k) ?_
              refine Go.ifc X0 hx hby at_80 (pcT := 88) (pcF := 83) (by decide) (by decide) rfl (fun q => absurd q (by decide)) (fun q => ?_)
              clear q
              show Go p e below _ _ (mkF m 83 _ [])
              refine Go.on (g' := (mkF m 85 _ [(.int (1 : Int32))])) (fun t k => XS.iload X0.here hx rfl (hb hby at_83) rfl k) ?_
              refine Go.ifc X0 hx hby at_85 (pcT := 92) (pcF := 88) (by decide) (by decide) rfl (fun q => absurd q (by decide)) (fun q => ?_)
              clear q
              show Go p e below _ _ (mkF m 88 _ [])
              refine Go.on (g' := (mkF m 89 _ [(.int (1 : Int32))])) (fun t k => XS.iconst X0.here hx rfl (hb hby at_88) k) ?_
              refine Go.on (g' := (mkF m 93 _ [(.int (1 : Int32))])) (fun t k => XS.goto X0.here hx rfl (pc0 := 89) (pc' := 93) rfl (hb hby at_89) (by decide) (by decide) k) ?_
              refine Go.on (g' := (mkF m 95 #[.val (.int p0), .val (.int kk), .val (.int (0 : Int32)), .val (.int (0 : Int32)), .val (.int (0 : Int32)), .val (.int (1 : Int32)), .val (.int (1 : Int32))] [])) (fun t k => XS.istore X0.here hx rfl (hb hby at_93) rfl (l' := #[.val (.int p0), .val (.int kk), .val (.int (0 : Int32)), .val (.int (0 : Int32)), .val (.int (0 : Int32)), .val (.int (1 : Int32)), .val (.int (1 : Int32))]) rfl k) ?_
              refine Go.on (g' := (mkF m 96 _ [(.int kk)])) (fun t k => XS.iloadN X0.here hx rfl (hb hby at_95) rfl k) ?_
              refine Go.callS X0 hx hZ hby (by rw [hml]; rfl) (y := (⟨"com/example/cantilever/cantilever/http/Headers", "isFieldValueChar", "(C)Z"⟩ : MethodName)) hown (hw _ (List.mem_of_getElem? (i := 1) rfl)) (hw _ (List.mem_of_getElem? (i := 2) rfl)) (hw _ (List.mem_of_getElem? (i := 3) rfl)) (hw _ (List.mem_of_getElem? (i := 4) rfl)) (by decide) (argsL := [(.int kk)]) (rest := []) (rmB l Z w0 hw [] kk h0) e0 0 (by decide) (by decide) (by decide) (by decide) rfl pdB rfl (Nat.le_of_eq rfl) at_96 (pcF := 99) rfl ?_
              intro v6 T6 L6 X6 hQ6
              obtain ⟨rfl, rfl, e6⟩ := hQ6
              rw [List.append_nil] at X6
              show Go p e below _ _ (mkF m 99 _ [(.int (own_f kk))])
              refine Go.on (g' := (mkF m 101 _ [(.int (1 : Int32)), (.int (own_f kk))])) (fun t k => XS.iload X6.here hx rfl (hb hby at_99) rfl k) ?_
              refine Go.icmp X6 hx hby at_101 (pcT := 108) (pcF := 104) (by decide) (by decide) rfl (fun q => absurd q (fun q => (iNe.1 q) (own_1 kk (Or.inr (Or.inr (Or.inr ⟨q7, q8⟩)))))) (fun q => ?_)
              clear q
              show Go p e below _ _ (mkF m 104 _ [])
              refine Go.on (g' := (mkF m 105 _ [(.int (1 : Int32))])) (fun t k => XS.iconst X6.here hx rfl (hb hby at_104) k) ?_
              refine Go.on (g' := (mkF m 109 _ [(.int (1 : Int32))])) (fun t k => XS.goto X6.here hx rfl (pc0 := 105) (pc' := 109) rfl (hb hby at_105) (by decide) (by decide) k) ?_
              exact Go.retI X6 hx hlk hret hby at_109 rfl (by simp) (by decide) (by decide) ⟨rfl, N0⟩
        · have q6 := iGt.2 q
          clear q
          show Go p e below _ _ (mkF m 42 _ [])
          refine Go.on (g' := (mkF m 43 _ [(.int (1 : Int32))])) (fun t k => XS.iconst X0.here hx rfl (hb hby at_42) k) ?_
          refine Go.on (g' := (mkF m 47 _ [(.int (1 : Int32))])) (fun t k => XS.goto X0.here hx rfl (pc0 := 43) (pc' := 47) rfl (hb hby at_43) (by decide) (by decide) k) ?_
          refine Go.on (g' := (mkF m 49 #[.val (.int p0), .val (.int kk), .val (.int (0 : Int32)), .val (.int (0 : Int32)), .val (.int (1 : Int32)), .unset, .unset] [])) (fun t k => XS.istore X0.here hx rfl (hb hby at_47) rfl (l' := #[.val (.int p0), .val (.int kk), .val (.int (0 : Int32)), .val (.int (0 : Int32)), .val (.int (1 : Int32)), .unset, .unset]) rfl k) ?_
          refine Go.on (g' := (mkF m 50 _ [(.int kk)])) (fun t k => XS.iloadN X0.here hx rfl (hb hby at_49) rfl k) ?_
          refine Go.on (g' := (mkF m 53 _ [(.int (128 : Int32)), (.int kk)])) (fun t k => XS.sipush X0.here hx rfl (hb hby at_50) k) ?_
          refine Go.icmp X0 hx hby at_53 (pcT := 67) (pcF := 56) (by decide) (by decide) rfl (fun q => ?_) (fun q => ?_)
          · have q9 := iLt.1 q
            clear q
            show Go p e below _ _ (mkF m 67 _ [])
            refine Go.on (g' := (mkF m 68 _ [(.int (0 : Int32))])) (fun t k => XS.iconst X0.here hx rfl (hb hby at_67) k) ?_
            refine Go.on (g' := (mkF m 70 #[.val (.int p0), .val (.int kk), .val (.int (0 : Int32)), .val (.int (0 : Int32)), .val (.int (1 : Int32)), .val (.int (0 : Int32)), .unset] [])) (fun t k => XS.istore X0.here hx rfl (hb hby at_68) rfl (l' := #[.val (.int p0), .val (.int kk), .val (.int (0 : Int32)), .val (.int (0 : Int32)), .val (.int (1 : Int32)), .val (.int (0 : Int32)), .unset]) rfl k) ?_
            refine Go.on (g' := (mkF m 71 _ [(.int (0 : Int32))])) (fun t k => XS.iloadN X0.here hx rfl (hb hby at_70) rfl k) ?_
            refine Go.ifc X0 hx hby at_71 (pcT := 88) (pcF := 74) (by decide) (by decide) rfl (fun q => absurd q (by decide)) (fun q => ?_)
            clear q
            show Go p e below _ _ (mkF m 74 _ [])
            refine Go.on (g' := (mkF m 75 _ [(.int (0 : Int32))])) (fun t k => XS.iloadN X0.here hx rfl (hb hby at_74) rfl k) ?_
            refine Go.ifc X0 hx hby at_75 (pcT := 88) (pcF := 78) (by decide) (by decide) rfl (fun q => absurd q (by decide)) (fun q => ?_)
            clear q
            show Go p e below _ _ (mkF m 78 _ [])
            refine Go.on (g' := (mkF m 80 _ [(.int (1 : Int32))])) (fun t k => XS.iload X0.here hx rfl (hb hby at_78) rfl k) ?_
            refine Go.ifc X0 hx hby at_80 (pcT := 88) (pcF := 83) (by decide) (by decide) rfl (fun q => ?_) (fun q => absurd q (by decide))
            clear q
            show Go p e below _ _ (mkF m 88 _ [])
            refine Go.on (g' := (mkF m 89 _ [(.int (1 : Int32))])) (fun t k => XS.iconst X0.here hx rfl (hb hby at_88) k) ?_
            refine Go.on (g' := (mkF m 93 _ [(.int (1 : Int32))])) (fun t k => XS.goto X0.here hx rfl (pc0 := 89) (pc' := 93) rfl (hb hby at_89) (by decide) (by decide) k) ?_
            refine Go.on (g' := (mkF m 95 #[.val (.int p0), .val (.int kk), .val (.int (0 : Int32)), .val (.int (0 : Int32)), .val (.int (1 : Int32)), .val (.int (0 : Int32)), .val (.int (1 : Int32))] [])) (fun t k => XS.istore X0.here hx rfl (hb hby at_93) rfl (l' := #[.val (.int p0), .val (.int kk), .val (.int (0 : Int32)), .val (.int (0 : Int32)), .val (.int (1 : Int32)), .val (.int (0 : Int32)), .val (.int (1 : Int32))]) rfl k) ?_
            refine Go.on (g' := (mkF m 96 _ [(.int kk)])) (fun t k => XS.iloadN X0.here hx rfl (hb hby at_95) rfl k) ?_
            refine Go.callS X0 hx hZ hby (by rw [hml]; rfl) (y := (⟨"com/example/cantilever/cantilever/http/Headers", "isFieldValueChar", "(C)Z"⟩ : MethodName)) hown (hw _ (List.mem_of_getElem? (i := 1) rfl)) (hw _ (List.mem_of_getElem? (i := 2) rfl)) (hw _ (List.mem_of_getElem? (i := 3) rfl)) (hw _ (List.mem_of_getElem? (i := 4) rfl)) (by decide) (argsL := [(.int kk)]) (rest := []) (rmB l Z w0 hw [] kk h0) e0 0 (by decide) (by decide) (by decide) (by decide) rfl pdB rfl (Nat.le_of_eq rfl) at_96 (pcF := 99) rfl ?_
            intro v7 T7 L7 X7 hQ7
            obtain ⟨rfl, rfl, e7⟩ := hQ7
            rw [List.append_nil] at X7
            show Go p e below _ _ (mkF m 99 _ [(.int (own_f kk))])
            refine Go.on (g' := (mkF m 101 _ [(.int (1 : Int32)), (.int (own_f kk))])) (fun t k => XS.iload X7.here hx rfl (hb hby at_99) rfl k) ?_
            refine Go.icmp X7 hx hby at_101 (pcT := 108) (pcF := 104) (by decide) (by decide) rfl (fun q => absurd q (fun q => (iNe.1 q) (own_1 kk (Or.inr (Or.inr (Or.inl ⟨q3, q6⟩)))))) (fun q => ?_)
            clear q
            show Go p e below _ _ (mkF m 104 _ [])
            refine Go.on (g' := (mkF m 105 _ [(.int (1 : Int32))])) (fun t k => XS.iconst X7.here hx rfl (hb hby at_104) k) ?_
            refine Go.on (g' := (mkF m 109 _ [(.int (1 : Int32))])) (fun t k => XS.goto X7.here hx rfl (pc0 := 105) (pc' := 109) rfl (hb hby at_105) (by decide) (by decide) k) ?_
            exact Go.retI X7 hx hlk hret hby at_109 rfl (by simp) (by decide) (by decide) ⟨rfl, N0⟩
          · have q9 := iLt.2 q
            clear q
            show Go p e below _ _ (mkF m 56 _ [])
            refine Go.on (g' := (mkF m 57 _ [(.int kk)])) (fun t k => XS.iloadN X0.here hx rfl (hb hby at_56) rfl k) ?_
            refine Go.on (g' := (mkF m 60 _ [(.int (255 : Int32)), (.int kk)])) (fun t k => XS.sipush X0.here hx rfl (hb hby at_57) k) ?_
            refine Go.icmp X0 hx hby at_60 (pcT := 67) (pcF := 63) (by decide) (by decide) rfl (fun q => ?_) (fun q => ?_)
            · have q10 := iGt.1 q
              clear q
              show Go p e below _ _ (mkF m 67 _ [])
              refine Go.on (g' := (mkF m 68 _ [(.int (0 : Int32))])) (fun t k => XS.iconst X0.here hx rfl (hb hby at_67) k) ?_
              refine Go.on (g' := (mkF m 70 #[.val (.int p0), .val (.int kk), .val (.int (0 : Int32)), .val (.int (0 : Int32)), .val (.int (1 : Int32)), .val (.int (0 : Int32)), .unset] [])) (fun t k => XS.istore X0.here hx rfl (hb hby at_68) rfl (l' := #[.val (.int p0), .val (.int kk), .val (.int (0 : Int32)), .val (.int (0 : Int32)), .val (.int (1 : Int32)), .val (.int (0 : Int32)), .unset]) rfl k) ?_
              refine Go.on (g' := (mkF m 71 _ [(.int (0 : Int32))])) (fun t k => XS.iloadN X0.here hx rfl (hb hby at_70) rfl k) ?_
              refine Go.ifc X0 hx hby at_71 (pcT := 88) (pcF := 74) (by decide) (by decide) rfl (fun q => absurd q (by decide)) (fun q => ?_)
              clear q
              show Go p e below _ _ (mkF m 74 _ [])
              refine Go.on (g' := (mkF m 75 _ [(.int (0 : Int32))])) (fun t k => XS.iloadN X0.here hx rfl (hb hby at_74) rfl k) ?_
              refine Go.ifc X0 hx hby at_75 (pcT := 88) (pcF := 78) (by decide) (by decide) rfl (fun q => absurd q (by decide)) (fun q => ?_)
              clear q
              show Go p e below _ _ (mkF m 78 _ [])
              refine Go.on (g' := (mkF m 80 _ [(.int (1 : Int32))])) (fun t k => XS.iload X0.here hx rfl (hb hby at_78) rfl k) ?_
              refine Go.ifc X0 hx hby at_80 (pcT := 88) (pcF := 83) (by decide) (by decide) rfl (fun q => ?_) (fun q => absurd q (by decide))
              clear q
              show Go p e below _ _ (mkF m 88 _ [])
              refine Go.on (g' := (mkF m 89 _ [(.int (1 : Int32))])) (fun t k => XS.iconst X0.here hx rfl (hb hby at_88) k) ?_
              refine Go.on (g' := (mkF m 93 _ [(.int (1 : Int32))])) (fun t k => XS.goto X0.here hx rfl (pc0 := 89) (pc' := 93) rfl (hb hby at_89) (by decide) (by decide) k) ?_
              refine Go.on (g' := (mkF m 95 #[.val (.int p0), .val (.int kk), .val (.int (0 : Int32)), .val (.int (0 : Int32)), .val (.int (1 : Int32)), .val (.int (0 : Int32)), .val (.int (1 : Int32))] [])) (fun t k => XS.istore X0.here hx rfl (hb hby at_93) rfl (l' := #[.val (.int p0), .val (.int kk), .val (.int (0 : Int32)), .val (.int (0 : Int32)), .val (.int (1 : Int32)), .val (.int (0 : Int32)), .val (.int (1 : Int32))]) rfl k) ?_
              refine Go.on (g' := (mkF m 96 _ [(.int kk)])) (fun t k => XS.iloadN X0.here hx rfl (hb hby at_95) rfl k) ?_
              refine Go.callS X0 hx hZ hby (by rw [hml]; rfl) (y := (⟨"com/example/cantilever/cantilever/http/Headers", "isFieldValueChar", "(C)Z"⟩ : MethodName)) hown (hw _ (List.mem_of_getElem? (i := 1) rfl)) (hw _ (List.mem_of_getElem? (i := 2) rfl)) (hw _ (List.mem_of_getElem? (i := 3) rfl)) (hw _ (List.mem_of_getElem? (i := 4) rfl)) (by decide) (argsL := [(.int kk)]) (rest := []) (rmB l Z w0 hw [] kk h0) e0 0 (by decide) (by decide) (by decide) (by decide) rfl pdB rfl (Nat.le_of_eq rfl) at_96 (pcF := 99) rfl ?_
              intro v8 T8 L8 X8 hQ8
              obtain ⟨rfl, rfl, e8⟩ := hQ8
              rw [List.append_nil] at X8
              show Go p e below _ _ (mkF m 99 _ [(.int (own_f kk))])
              refine Go.on (g' := (mkF m 101 _ [(.int (1 : Int32)), (.int (own_f kk))])) (fun t k => XS.iload X8.here hx rfl (hb hby at_99) rfl k) ?_
              refine Go.icmp X8 hx hby at_101 (pcT := 108) (pcF := 104) (by decide) (by decide) rfl (fun q => absurd q (fun q => (iNe.1 q) (own_1 kk (Or.inr (Or.inr (Or.inl ⟨q3, q6⟩)))))) (fun q => ?_)
              clear q
              show Go p e below _ _ (mkF m 104 _ [])
              refine Go.on (g' := (mkF m 105 _ [(.int (1 : Int32))])) (fun t k => XS.iconst X8.here hx rfl (hb hby at_104) k) ?_
              refine Go.on (g' := (mkF m 109 _ [(.int (1 : Int32))])) (fun t k => XS.goto X8.here hx rfl (pc0 := 105) (pc' := 109) rfl (hb hby at_105) (by decide) (by decide) k) ?_
              exact Go.retI X8 hx hlk hret hby at_109 rfl (by simp) (by decide) (by decide) ⟨rfl, N0⟩
            · have q10 := iGt.2 q
              clear q
              show Go p e below _ _ (mkF m 63 _ [])
              refine Go.on (g' := (mkF m 64 _ [(.int (1 : Int32))])) (fun t k => XS.iconst X0.here hx rfl (hb hby at_63) k) ?_
              refine Go.on (g' := (mkF m 68 _ [(.int (1 : Int32))])) (fun t k => XS.goto X0.here hx rfl (pc0 := 64) (pc' := 68) rfl (hb hby at_64) (by decide) (by decide) k) ?_
              refine Go.on (g' := (mkF m 70 #[.val (.int p0), .val (.int kk), .val (.int (0 : Int32)), .val (.int (0 : Int32)), .val (.int (1 : Int32)), .val (.int (1 : Int32)), .unset] [])) (fun t k => XS.istore X0.here hx rfl (hb hby at_68) rfl (l' := #[.val (.int p0), .val (.int kk), .val (.int (0 : Int32)), .val (.int (0 : Int32)), .val (.int (1 : Int32)), .val (.int (1 : Int32)), .unset]) rfl k) ?_
              refine Go.on (g' := (mkF m 71 _ [(.int (0 : Int32))])) (fun t k => XS.iloadN X0.here hx rfl (hb hby at_70) rfl k) ?_
              refine Go.ifc X0 hx hby at_71 (pcT := 88) (pcF := 74) (by decide) (by decide) rfl (fun q => absurd q (by decide)) (fun q => ?_)
              clear q
              show Go p e below _ _ (mkF m 74 _ [])
              refine Go.on (g' := (mkF m 75 _ [(.int (0 : Int32))])) (fun t k => XS.iloadN X0.here hx rfl (hb hby at_74) rfl k) ?_
              refine Go.ifc X0 hx hby at_75 (pcT := 88) (pcF := 78) (by decide) (by decide) rfl (fun q => absurd q (by decide)) (fun q => ?_)
              clear q
              show Go p e below _ _ (mkF m 78 _ [])
              refine Go.on (g' := (mkF m 80 _ [(.int (1 : Int32))])) (fun t k => XS.iload X0.here hx rfl (hb hby at_78) rfl k) ?_
              refine Go.ifc X0 hx hby at_80 (pcT := 88) (pcF := 83) (by decide) (by decide) rfl (fun q => ?_) (fun q => absurd q (by decide))
              clear q
              show Go p e below _ _ (mkF m 88 _ [])
              refine Go.on (g' := (mkF m 89 _ [(.int (1 : Int32))])) (fun t k => XS.iconst X0.here hx rfl (hb hby at_88) k) ?_
              refine Go.on (g' := (mkF m 93 _ [(.int (1 : Int32))])) (fun t k => XS.goto X0.here hx rfl (pc0 := 89) (pc' := 93) rfl (hb hby at_89) (by decide) (by decide) k) ?_
              refine Go.on (g' := (mkF m 95 #[.val (.int p0), .val (.int kk), .val (.int (0 : Int32)), .val (.int (0 : Int32)), .val (.int (1 : Int32)), .val (.int (1 : Int32)), .val (.int (1 : Int32))] [])) (fun t k => XS.istore X0.here hx rfl (hb hby at_93) rfl (l' := #[.val (.int p0), .val (.int kk), .val (.int (0 : Int32)), .val (.int (0 : Int32)), .val (.int (1 : Int32)), .val (.int (1 : Int32)), .val (.int (1 : Int32))]) rfl k) ?_
              refine Go.on (g' := (mkF m 96 _ [(.int kk)])) (fun t k => XS.iloadN X0.here hx rfl (hb hby at_95) rfl k) ?_
              refine Go.callS X0 hx hZ hby (by rw [hml]; rfl) (y := (⟨"com/example/cantilever/cantilever/http/Headers", "isFieldValueChar", "(C)Z"⟩ : MethodName)) hown (hw _ (List.mem_of_getElem? (i := 1) rfl)) (hw _ (List.mem_of_getElem? (i := 2) rfl)) (hw _ (List.mem_of_getElem? (i := 3) rfl)) (hw _ (List.mem_of_getElem? (i := 4) rfl)) (by decide) (argsL := [(.int kk)]) (rest := []) (rmB l Z w0 hw [] kk h0) e0 0 (by decide) (by decide) (by decide) (by decide) rfl pdB rfl (Nat.le_of_eq rfl) at_96 (pcF := 99) rfl ?_
              intro v9 T9 L9 X9 hQ9
              obtain ⟨rfl, rfl, e9⟩ := hQ9
              rw [List.append_nil] at X9
              show Go p e below _ _ (mkF m 99 _ [(.int (own_f kk))])
              refine Go.on (g' := (mkF m 101 _ [(.int (1 : Int32)), (.int (own_f kk))])) (fun t k => XS.iload X9.here hx rfl (hb hby at_99) rfl k) ?_
              refine Go.icmp X9 hx hby at_101 (pcT := 108) (pcF := 104) (by decide) (by decide) rfl (fun q => absurd q (fun q => (iNe.1 q) (own_1 kk (Or.inr (Or.inr (Or.inl ⟨q3, q6⟩)))))) (fun q => ?_)
              clear q
              show Go p e below _ _ (mkF m 104 _ [])
              refine Go.on (g' := (mkF m 105 _ [(.int (1 : Int32))])) (fun t k => XS.iconst X9.here hx rfl (hb hby at_104) k) ?_
              refine Go.on (g' := (mkF m 109 _ [(.int (1 : Int32))])) (fun t k => XS.goto X9.here hx rfl (pc0 := 105) (pc' := 109) rfl (hb hby at_105) (by decide) (by decide) k) ?_
              exact Go.retI X9 hx hlk hret hby at_109 rfl (by simp) (by decide) (by decide) ⟨rfl, N0⟩
    · have q2 := iNe.2 q
      clear q
      show Go p e below _ _ (mkF m 24 _ [])
      refine Go.on (g' := (mkF m 25 _ [(.int (1 : Int32))])) (fun t k => XS.iconst X0.here hx rfl (hb hby at_24) k) ?_
      refine Go.on (g' := (mkF m 29 _ [(.int (1 : Int32))])) (fun t k => XS.goto X0.here hx rfl (pc0 := 25) (pc' := 29) rfl (hb hby at_25) (by decide) (by decide) k) ?_
      refine Go.on (g' := (mkF m 30 #[.val (.int p0), .val (.int kk), .val (.int (0 : Int32)), .val (.int (1 : Int32)), .unset, .unset, .unset] [])) (fun t k => XS.istoreN X0.here hx rfl (hb hby at_29) rfl (l' := #[.val (.int p0), .val (.int kk), .val (.int (0 : Int32)), .val (.int (1 : Int32)), .unset, .unset, .unset]) rfl k) ?_
      refine Go.on (g' := (mkF m 31 _ [(.int kk)])) (fun t k => XS.iloadN X0.here hx rfl (hb hby at_30) rfl k) ?_
      refine Go.on (g' := (mkF m 33 _ [(.int (33 : Int32)), (.int kk)])) (fun t k => XS.bipush X0.here hx rfl (hb hby at_31) k) ?_
      refine Go.icmp X0 hx hby at_33 (pcT := 46) (pcF := 36) (by decide) (by decide) rfl (fun q => ?_) (fun q => ?_)
      · have q11 := iLt.1 q
        clear q
        show Go p e below _ _ (mkF m 46 _ [])
        refine Go.on (g' := (mkF m 47 _ [(.int (0 : Int32))])) (fun t k => XS.iconst X0.here hx rfl (hb hby at_46) k) ?_
        refine Go.on (g' := (mkF m 49 #[.val (.int p0), .val (.int kk), .val (.int (0 : Int32)), .val (.int (1 : Int32)), .val (.int (0 : Int32)), .unset, .unset] [])) (fun t k => XS.istore X0.here hx rfl (hb hby at_47) rfl (l' := #[.val (.int p0), .val (.int kk), .val (.int (0 : Int32)), .val (.int (1 : Int32)), .val (.int (0 : Int32)), .unset, .unset]) rfl k) ?_
        refine Go.on (g' := (mkF m 50 _ [(.int kk)])) (fun t k => XS.iloadN X0.here hx rfl (hb hby at_49) rfl k) ?_
        refine Go.on (g' := (mkF m 53 _ [(.int (128 : Int32)), (.int kk)])) (fun t k => XS.sipush X0.here hx rfl (hb hby at_50) k) ?_
        refine Go.icmp X0 hx hby at_53 (pcT := 67) (pcF := 56) (by decide) (by decide) rfl (fun q => ?_) (fun q => ?_)
        · have q12 := iLt.1 q
          clear q
          show Go p e below _ _ (mkF m 67 _ [])
          refine Go.on (g' := (mkF m 68 _ [(.int (0 : Int32))])) (fun t k => XS.iconst X0.here hx rfl (hb hby at_67) k) ?_
          refine Go.on (g' := (mkF m 70 #[.val (.int p0), .val (.int kk), .val (.int (0 : Int32)), .val (.int (1 : Int32)), .val (.int (0 : Int32)), .val (.int (0 : Int32)), .unset] [])) (fun t k => XS.istore X0.here hx rfl (hb hby at_68) rfl (l' := #[.val (.int p0), .val (.int kk), .val (.int (0 : Int32)), .val (.int (1 : Int32)), .val (.int (0 : Int32)), .val (.int (0 : Int32)), .unset]) rfl k) ?_
          refine Go.on (g' := (mkF m 71 _ [(.int (0 : Int32))])) (fun t k => XS.iloadN X0.here hx rfl (hb hby at_70) rfl k) ?_
          refine Go.ifc X0 hx hby at_71 (pcT := 88) (pcF := 74) (by decide) (by decide) rfl (fun q => absurd q (by decide)) (fun q => ?_)
          clear q
          show Go p e below _ _ (mkF m 74 _ [])
          refine Go.on (g' := (mkF m 75 _ [(.int (1 : Int32))])) (fun t k => XS.iloadN X0.here hx rfl (hb hby at_74) rfl k) ?_
          refine Go.ifc X0 hx hby at_75 (pcT := 88) (pcF := 78) (by decide) (by decide) rfl (fun q => ?_) (fun q => absurd q (by decide))
          clear q
          show Go p e below _ _ (mkF m 88 _ [])
          refine Go.on (g' := (mkF m 89 _ [(.int (1 : Int32))])) (fun t k => XS.iconst X0.here hx rfl (hb hby at_88) k) ?_
          refine Go.on (g' := (mkF m 93 _ [(.int (1 : Int32))])) (fun t k => XS.goto X0.here hx rfl (pc0 := 89) (pc' := 93) rfl (hb hby at_89) (by decide) (by decide) k) ?_
          refine Go.on (g' := (mkF m 95 #[.val (.int p0), .val (.int kk), .val (.int (0 : Int32)), .val (.int (1 : Int32)), .val (.int (0 : Int32)), .val (.int (0 : Int32)), .val (.int (1 : Int32))] [])) (fun t k => XS.istore X0.here hx rfl (hb hby at_93) rfl (l' := #[.val (.int p0), .val (.int kk), .val (.int (0 : Int32)), .val (.int (1 : Int32)), .val (.int (0 : Int32)), .val (.int (0 : Int32)), .val (.int (1 : Int32))]) rfl k) ?_
          refine Go.on (g' := (mkF m 96 _ [(.int kk)])) (fun t k => XS.iloadN X0.here hx rfl (hb hby at_95) rfl k) ?_
          refine Go.callS X0 hx hZ hby (by rw [hml]; rfl) (y := (⟨"com/example/cantilever/cantilever/http/Headers", "isFieldValueChar", "(C)Z"⟩ : MethodName)) hown (hw _ (List.mem_of_getElem? (i := 1) rfl)) (hw _ (List.mem_of_getElem? (i := 2) rfl)) (hw _ (List.mem_of_getElem? (i := 3) rfl)) (hw _ (List.mem_of_getElem? (i := 4) rfl)) (by decide) (argsL := [(.int kk)]) (rest := []) (rmB l Z w0 hw [] kk h0) e0 0 (by decide) (by decide) (by decide) (by decide) rfl pdB rfl (Nat.le_of_eq rfl) at_96 (pcF := 99) rfl ?_
          intro v10 T10 L10 X10 hQ10
          obtain ⟨rfl, rfl, e10⟩ := hQ10
          rw [List.append_nil] at X10
          show Go p e below _ _ (mkF m 99 _ [(.int (own_f kk))])
          refine Go.on (g' := (mkF m 101 _ [(.int (1 : Int32)), (.int (own_f kk))])) (fun t k => XS.iload X10.here hx rfl (hb hby at_99) rfl k) ?_
          refine Go.icmp X10 hx hby at_101 (pcT := 108) (pcF := 104) (by decide) (by decide) rfl (fun q => absurd q (fun q => (iNe.1 q) (own_1 kk (Or.inr (Or.inl q2))))) (fun q => ?_)
          clear q
          show Go p e below _ _ (mkF m 104 _ [])
          refine Go.on (g' := (mkF m 105 _ [(.int (1 : Int32))])) (fun t k => XS.iconst X10.here hx rfl (hb hby at_104) k) ?_
          refine Go.on (g' := (mkF m 109 _ [(.int (1 : Int32))])) (fun t k => XS.goto X10.here hx rfl (pc0 := 105) (pc' := 109) rfl (hb hby at_105) (by decide) (by decide) k) ?_
          exact Go.retI X10 hx hlk hret hby at_109 rfl (by simp) (by decide) (by decide) ⟨rfl, N0⟩
        · have q12 := iLt.2 q
          clear q
          show Go p e below _ _ (mkF m 56 _ [])
          refine Go.on (g' := (mkF m 57 _ [(.int kk)])) (fun t k => XS.iloadN X0.here hx rfl (hb hby at_56) rfl k) ?_
          refine Go.on (g' := (mkF m 60 _ [(.int (255 : Int32)), (.int kk)])) (fun t k => XS.sipush X0.here hx rfl (hb hby at_57) k) ?_
          refine Go.icmp X0 hx hby at_60 (pcT := 67) (pcF := 63) (by decide) (by decide) rfl (fun q => ?_) (fun q => ?_)
          · have q13 := iGt.1 q
            clear q
            show Go p e below _ _ (mkF m 67 _ [])
            refine Go.on (g' := (mkF m 68 _ [(.int (0 : Int32))])) (fun t k => XS.iconst X0.here hx rfl (hb hby at_67) k) ?_
            refine Go.on (g' := (mkF m 70 #[.val (.int p0), .val (.int kk), .val (.int (0 : Int32)), .val (.int (1 : Int32)), .val (.int (0 : Int32)), .val (.int (0 : Int32)), .unset] [])) (fun t k => XS.istore X0.here hx rfl (hb hby at_68) rfl (l' := #[.val (.int p0), .val (.int kk), .val (.int (0 : Int32)), .val (.int (1 : Int32)), .val (.int (0 : Int32)), .val (.int (0 : Int32)), .unset]) rfl k) ?_
            refine Go.on (g' := (mkF m 71 _ [(.int (0 : Int32))])) (fun t k => XS.iloadN X0.here hx rfl (hb hby at_70) rfl k) ?_
            refine Go.ifc X0 hx hby at_71 (pcT := 88) (pcF := 74) (by decide) (by decide) rfl (fun q => absurd q (by decide)) (fun q => ?_)
            clear q
            show Go p e below _ _ (mkF m 74 _ [])
            refine Go.on (g' := (mkF m 75 _ [(.int (1 : Int32))])) (fun t k => XS.iloadN X0.here hx rfl (hb hby at_74) rfl k) ?_
            refine Go.ifc X0 hx hby at_75 (pcT := 88) (pcF := 78) (by decide) (by decide) rfl (fun q => ?_) (fun q => absurd q (by decide))
            clear q
            show Go p e below _ _ (mkF m 88 _ [])
            refine Go.on (g' := (mkF m 89 _ [(.int (1 : Int32))])) (fun t k => XS.iconst X0.here hx rfl (hb hby at_88) k) ?_
            refine Go.on (g' := (mkF m 93 _ [(.int (1 : Int32))])) (fun t k => XS.goto X0.here hx rfl (pc0 := 89) (pc' := 93) rfl (hb hby at_89) (by decide) (by decide) k) ?_
            refine Go.on (g' := (mkF m 95 #[.val (.int p0), .val (.int kk), .val (.int (0 : Int32)), .val (.int (1 : Int32)), .val (.int (0 : Int32)), .val (.int (0 : Int32)), .val (.int (1 : Int32))] [])) (fun t k => XS.istore X0.here hx rfl (hb hby at_93) rfl (l' := #[.val (.int p0), .val (.int kk), .val (.int (0 : Int32)), .val (.int (1 : Int32)), .val (.int (0 : Int32)), .val (.int (0 : Int32)), .val (.int (1 : Int32))]) rfl k) ?_
            refine Go.on (g' := (mkF m 96 _ [(.int kk)])) (fun t k => XS.iloadN X0.here hx rfl (hb hby at_95) rfl k) ?_
            refine Go.callS X0 hx hZ hby (by rw [hml]; rfl) (y := (⟨"com/example/cantilever/cantilever/http/Headers", "isFieldValueChar", "(C)Z"⟩ : MethodName)) hown (hw _ (List.mem_of_getElem? (i := 1) rfl)) (hw _ (List.mem_of_getElem? (i := 2) rfl)) (hw _ (List.mem_of_getElem? (i := 3) rfl)) (hw _ (List.mem_of_getElem? (i := 4) rfl)) (by decide) (argsL := [(.int kk)]) (rest := []) (rmB l Z w0 hw [] kk h0) e0 0 (by decide) (by decide) (by decide) (by decide) rfl pdB rfl (Nat.le_of_eq rfl) at_96 (pcF := 99) rfl ?_
            intro v11 T11 L11 X11 hQ11
            obtain ⟨rfl, rfl, e11⟩ := hQ11
            rw [List.append_nil] at X11
            show Go p e below _ _ (mkF m 99 _ [(.int (own_f kk))])
            refine Go.on (g' := (mkF m 101 _ [(.int (1 : Int32)), (.int (own_f kk))])) (fun t k => XS.iload X11.here hx rfl (hb hby at_99) rfl k) ?_
            refine Go.icmp X11 hx hby at_101 (pcT := 108) (pcF := 104) (by decide) (by decide) rfl (fun q => absurd q (fun q => (iNe.1 q) (own_1 kk (Or.inr (Or.inl q2))))) (fun q => ?_)
            clear q
            show Go p e below _ _ (mkF m 104 _ [])
            refine Go.on (g' := (mkF m 105 _ [(.int (1 : Int32))])) (fun t k => XS.iconst X11.here hx rfl (hb hby at_104) k) ?_
            refine Go.on (g' := (mkF m 109 _ [(.int (1 : Int32))])) (fun t k => XS.goto X11.here hx rfl (pc0 := 105) (pc' := 109) rfl (hb hby at_105) (by decide) (by decide) k) ?_
            exact Go.retI X11 hx hlk hret hby at_109 rfl (by simp) (by decide) (by decide) ⟨rfl, N0⟩
          · have q13 := iGt.2 q
            clear q
            show Go p e below _ _ (mkF m 63 _ [])
            refine Go.on (g' := (mkF m 64 _ [(.int (1 : Int32))])) (fun t k => XS.iconst X0.here hx rfl (hb hby at_63) k) ?_
            refine Go.on (g' := (mkF m 68 _ [(.int (1 : Int32))])) (fun t k => XS.goto X0.here hx rfl (pc0 := 64) (pc' := 68) rfl (hb hby at_64) (by decide) (by decide) k) ?_
            refine Go.on (g' := (mkF m 70 #[.val (.int p0), .val (.int kk), .val (.int (0 : Int32)), .val (.int (1 : Int32)), .val (.int (0 : Int32)), .val (.int (1 : Int32)), .unset] [])) (fun t k => XS.istore X0.here hx rfl (hb hby at_68) rfl (l' := #[.val (.int p0), .val (.int kk), .val (.int (0 : Int32)), .val (.int (1 : Int32)), .val (.int (0 : Int32)), .val (.int (1 : Int32)), .unset]) rfl k) ?_
            refine Go.on (g' := (mkF m 71 _ [(.int (0 : Int32))])) (fun t k => XS.iloadN X0.here hx rfl (hb hby at_70) rfl k) ?_
            refine Go.ifc X0 hx hby at_71 (pcT := 88) (pcF := 74) (by decide) (by decide) rfl (fun q => absurd q (by decide)) (fun q => ?_)
            clear q
            show Go p e below _ _ (mkF m 74 _ [])
            refine Go.on (g' := (mkF m 75 _ [(.int (1 : Int32))])) (fun t k => XS.iloadN X0.here hx rfl (hb hby at_74) rfl k) ?_
            refine Go.ifc X0 hx hby at_75 (pcT := 88) (pcF := 78) (by decide) (by decide) rfl (fun q => ?_) (fun q => absurd q (by decide))
            clear q
            show Go p e below _ _ (mkF m 88 _ [])
            refine Go.on (g' := (mkF m 89 _ [(.int (1 : Int32))])) (fun t k => XS.iconst X0.here hx rfl (hb hby at_88) k) ?_
            refine Go.on (g' := (mkF m 93 _ [(.int (1 : Int32))])) (fun t k => XS.goto X0.here hx rfl (pc0 := 89) (pc' := 93) rfl (hb hby at_89) (by decide) (by decide) k) ?_
            refine Go.on (g' := (mkF m 95 #[.val (.int p0), .val (.int kk), .val (.int (0 : Int32)), .val (.int (1 : Int32)), .val (.int (0 : Int32)), .val (.int (1 : Int32)), .val (.int (1 : Int32))] [])) (fun t k => XS.istore X0.here hx rfl (hb hby at_93) rfl (l' := #[.val (.int p0), .val (.int kk), .val (.int (0 : Int32)), .val (.int (1 : Int32)), .val (.int (0 : Int32)), .val (.int (1 : Int32)), .val (.int (1 : Int32))]) rfl k) ?_
            refine Go.on (g' := (mkF m 96 _ [(.int kk)])) (fun t k => XS.iloadN X0.here hx rfl (hb hby at_95) rfl k) ?_
            refine Go.callS X0 hx hZ hby (by rw [hml]; rfl) (y := (⟨"com/example/cantilever/cantilever/http/Headers", "isFieldValueChar", "(C)Z"⟩ : MethodName)) hown (hw _ (List.mem_of_getElem? (i := 1) rfl)) (hw _ (List.mem_of_getElem? (i := 2) rfl)) (hw _ (List.mem_of_getElem? (i := 3) rfl)) (hw _ (List.mem_of_getElem? (i := 4) rfl)) (by decide) (argsL := [(.int kk)]) (rest := []) (rmB l Z w0 hw [] kk h0) e0 0 (by decide) (by decide) (by decide) (by decide) rfl pdB rfl (Nat.le_of_eq rfl) at_96 (pcF := 99) rfl ?_
            intro v12 T12 L12 X12 hQ12
            obtain ⟨rfl, rfl, e12⟩ := hQ12
            rw [List.append_nil] at X12
            show Go p e below _ _ (mkF m 99 _ [(.int (own_f kk))])
            refine Go.on (g' := (mkF m 101 _ [(.int (1 : Int32)), (.int (own_f kk))])) (fun t k => XS.iload X12.here hx rfl (hb hby at_99) rfl k) ?_
            refine Go.icmp X12 hx hby at_101 (pcT := 108) (pcF := 104) (by decide) (by decide) rfl (fun q => absurd q (fun q => (iNe.1 q) (own_1 kk (Or.inr (Or.inl q2))))) (fun q => ?_)
            clear q
            show Go p e below _ _ (mkF m 104 _ [])
            refine Go.on (g' := (mkF m 105 _ [(.int (1 : Int32))])) (fun t k => XS.iconst X12.here hx rfl (hb hby at_104) k) ?_
            refine Go.on (g' := (mkF m 109 _ [(.int (1 : Int32))])) (fun t k => XS.goto X12.here hx rfl (pc0 := 105) (pc' := 109) rfl (hb hby at_105) (by decide) (by decide) k) ?_
            exact Go.retI X12 hx hlk hret hby at_109 rfl (by simp) (by decide) (by decide) ⟨rfl, N0⟩
      · have q11 := iLt.2 q
        clear q
        show Go p e below _ _ (mkF m 36 _ [])
        refine Go.on (g' := (mkF m 37 _ [(.int kk)])) (fun t k => XS.iloadN X0.here hx rfl (hb hby at_36) rfl k) ?_
        refine Go.on (g' := (mkF m 39 _ [(.int (126 : Int32)), (.int kk)])) (fun t k => XS.bipush X0.here hx rfl (hb hby at_37) k) ?_
        refine Go.icmp X0 hx hby at_39 (pcT := 46) (pcF := 42) (by decide) (by decide) rfl (fun q => ?_) (fun q => ?_)
        · have q14 := iGt.1 q
          clear q
          show Go p e below _ _ (mkF m 46 _ [])
          refine Go.on (g' := (mkF m 47 _ [(.int (0 : Int32))])) (fun t k => XS.iconst X0.here hx rfl (hb hby at_46) k) ?_
          refine Go.on (g' := (mkF m 49 #[.val (.int p0), .val (.int kk), .val (.int (0 : Int32)), .val (.int (1 : Int32)), .val (.int (0 : Int32)), .unset, .unset] [])) (fun t k => XS.istore X0.here hx rfl (hb hby at_47) rfl (l' := #[.val (.int p0), .val (.int kk), .val (.int (0 : Int32)), .val (.int (1 : Int32)), .val (.int (0 : Int32)), .unset, .unset]) rfl k) ?_
          refine Go.on (g' := (mkF m 50 _ [(.int kk)])) (fun t k => XS.iloadN X0.here hx rfl (hb hby at_49) rfl k) ?_
          refine Go.on (g' := (mkF m 53 _ [(.int (128 : Int32)), (.int kk)])) (fun t k => XS.sipush X0.here hx rfl (hb hby at_50) k) ?_
          refine Go.icmp X0 hx hby at_53 (pcT := 67) (pcF := 56) (by decide) (by decide) rfl (fun q => ?_) (fun q => ?_)
          · have q15 := iLt.1 q
            clear q
            show Go p e below _ _ (mkF m 67 _ [])
            refine Go.on (g' := (mkF m 68 _ [(.int (0 : Int32))])) (fun t k => XS.iconst X0.here hx rfl (hb hby at_67) k) ?_
            refine Go.on (g' := (mkF m 70 #[.val (.int p0), .val (.int kk), .val (.int (0 : Int32)), .val (.int (1 : Int32)), .val (.int (0 : Int32)), .val (.int (0 : Int32)), .unset] [])) (fun t k => XS.istore X0.here hx rfl (hb hby at_68) rfl (l' := #[.val (.int p0), .val (.int kk), .val (.int (0 : Int32)), .val (.int (1 : Int32)), .val (.int (0 : Int32)), .val (.int (0 : Int32)), .unset]) rfl k) ?_
            refine Go.on (g' := (mkF m 71 _ [(.int (0 : Int32))])) (fun t k => XS.iloadN X0.here hx rfl (hb hby at_70) rfl k) ?_
            refine Go.ifc X0 hx hby at_71 (pcT := 88) (pcF := 74) (by decide) (by decide) rfl (fun q => absurd q (by decide)) (fun q => ?_)
            clear q
            show Go p e below _ _ (mkF m 74 _ [])
            refine Go.on (g' := (mkF m 75 _ [(.int (1 : Int32))])) (fun t k => XS.iloadN X0.here hx rfl (hb hby at_74) rfl k) ?_
            refine Go.ifc X0 hx hby at_75 (pcT := 88) (pcF := 78) (by decide) (by decide) rfl (fun q => ?_) (fun q => absurd q (by decide))
            clear q
            show Go p e below _ _ (mkF m 88 _ [])
            refine Go.on (g' := (mkF m 89 _ [(.int (1 : Int32))])) (fun t k => XS.iconst X0.here hx rfl (hb hby at_88) k) ?_
            refine Go.on (g' := (mkF m 93 _ [(.int (1 : Int32))])) (fun t k => XS.goto X0.here hx rfl (pc0 := 89) (pc' := 93) rfl (hb hby at_89) (by decide) (by decide) k) ?_
            refine Go.on (g' := (mkF m 95 #[.val (.int p0), .val (.int kk), .val (.int (0 : Int32)), .val (.int (1 : Int32)), .val (.int (0 : Int32)), .val (.int (0 : Int32)), .val (.int (1 : Int32))] [])) (fun t k => XS.istore X0.here hx rfl (hb hby at_93) rfl (l' := #[.val (.int p0), .val (.int kk), .val (.int (0 : Int32)), .val (.int (1 : Int32)), .val (.int (0 : Int32)), .val (.int (0 : Int32)), .val (.int (1 : Int32))]) rfl k) ?_
            refine Go.on (g' := (mkF m 96 _ [(.int kk)])) (fun t k => XS.iloadN X0.here hx rfl (hb hby at_95) rfl k) ?_
            refine Go.callS X0 hx hZ hby (by rw [hml]; rfl) (y := (⟨"com/example/cantilever/cantilever/http/Headers", "isFieldValueChar", "(C)Z"⟩ : MethodName)) hown (hw _ (List.mem_of_getElem? (i := 1) rfl)) (hw _ (List.mem_of_getElem? (i := 2) rfl)) (hw _ (List.mem_of_getElem? (i := 3) rfl)) (hw _ (List.mem_of_getElem? (i := 4) rfl)) (by decide) (argsL := [(.int kk)]) (rest := []) (rmB l Z w0 hw [] kk h0) e0 0 (by decide) (by decide) (by decide) (by decide) rfl pdB rfl (Nat.le_of_eq rfl) at_96 (pcF := 99) rfl ?_
            intro v13 T13 L13 X13 hQ13
            obtain ⟨rfl, rfl, e13⟩ := hQ13
            rw [List.append_nil] at X13
            show Go p e below _ _ (mkF m 99 _ [(.int (own_f kk))])
            refine Go.on (g' := (mkF m 101 _ [(.int (1 : Int32)), (.int (own_f kk))])) (fun t k => XS.iload X13.here hx rfl (hb hby at_99) rfl k) ?_
            refine Go.icmp X13 hx hby at_101 (pcT := 108) (pcF := 104) (by decide) (by decide) rfl (fun q => absurd q (fun q => (iNe.1 q) (own_1 kk (Or.inr (Or.inl q2))))) (fun q => ?_)
            clear q
            show Go p e below _ _ (mkF m 104 _ [])
            refine Go.on (g' := (mkF m 105 _ [(.int (1 : Int32))])) (fun t k => XS.iconst X13.here hx rfl (hb hby at_104) k) ?_
            refine Go.on (g' := (mkF m 109 _ [(.int (1 : Int32))])) (fun t k => XS.goto X13.here hx rfl (pc0 := 105) (pc' := 109) rfl (hb hby at_105) (by decide) (by decide) k) ?_
            exact Go.retI X13 hx hlk hret hby at_109 rfl (by simp) (by decide) (by decide) ⟨rfl, N0⟩
          · have q15 := iLt.2 q
            clear q
            show Go p e below _ _ (mkF m 56 _ [])
            refine Go.on (g' := (mkF m 57 _ [(.int kk)])) (fun t k => XS.iloadN X0.here hx rfl (hb hby at_56) rfl k) ?_
            refine Go.on (g' := (mkF m 60 _ [(.int (255 : Int32)), (.int kk)])) (fun t k => XS.sipush X0.here hx rfl (hb hby at_57) k) ?_
            refine Go.icmp X0 hx hby at_60 (pcT := 67) (pcF := 63) (by decide) (by decide) rfl (fun q => ?_) (fun q => ?_)
            · have q16 := iGt.1 q
              clear q
              show Go p e below _ _ (mkF m 67 _ [])
              refine Go.on (g' := (mkF m 68 _ [(.int (0 : Int32))])) (fun t k => XS.iconst X0.here hx rfl (hb hby at_67) k) ?_
              refine Go.on (g' := (mkF m 70 #[.val (.int p0), .val (.int kk), .val (.int (0 : Int32)), .val (.int (1 : Int32)), .val (.int (0 : Int32)), .val (.int (0 : Int32)), .unset] [])) (fun t k => XS.istore X0.here hx rfl (hb hby at_68) rfl (l' := #[.val (.int p0), .val (.int kk), .val (.int (0 : Int32)), .val (.int (1 : Int32)), .val (.int (0 : Int32)), .val (.int (0 : Int32)), .unset]) rfl k) ?_
              refine Go.on (g' := (mkF m 71 _ [(.int (0 : Int32))])) (fun t k => XS.iloadN X0.here hx rfl (hb hby at_70) rfl k) ?_
              refine Go.ifc X0 hx hby at_71 (pcT := 88) (pcF := 74) (by decide) (by decide) rfl (fun q => absurd q (by decide)) (fun q => ?_)
              clear q
              show Go p e below _ _ (mkF m 74 _ [])
              refine Go.on (g' := (mkF m 75 _ [(.int (1 : Int32))])) (fun t k => XS.iloadN X0.here hx rfl (hb hby at_74) rfl k) ?_
              refine Go.ifc X0 hx hby at_75 (pcT := 88) (pcF := 78) (by decide) (by decide) rfl (fun q => ?_) (fun q => absurd q (by decide))
              clear q
              show Go p e below _ _ (mkF m 88 _ [])
              refine Go.on (g' := (mkF m 89 _ [(.int (1 : Int32))])) (fun t k => XS.iconst X0.here hx rfl (hb hby at_88) k) ?_
              refine Go.on (g' := (mkF m 93 _ [(.int (1 : Int32))])) (fun t k => XS.goto X0.here hx rfl (pc0 := 89) (pc' := 93) rfl (hb hby at_89) (by decide) (by decide) k) ?_
              refine Go.on (g' := (mkF m 95 #[.val (.int p0), .val (.int kk), .val (.int (0 : Int32)), .val (.int (1 : Int32)), .val (.int (0 : Int32)), .val (.int (0 : Int32)), .val (.int (1 : Int32))] [])) (fun t k => XS.istore X0.here hx rfl (hb hby at_93) rfl (l' := #[.val (.int p0), .val (.int kk), .val (.int (0 : Int32)), .val (.int (1 : Int32)), .val (.int (0 : Int32)), .val (.int (0 : Int32)), .val (.int (1 : Int32))]) rfl k) ?_
              refine Go.on (g' := (mkF m 96 _ [(.int kk)])) (fun t k => XS.iloadN X0.here hx rfl (hb hby at_95) rfl k) ?_
              refine Go.callS X0 hx hZ hby (by rw [hml]; rfl) (y := (⟨"com/example/cantilever/cantilever/http/Headers", "isFieldValueChar", "(C)Z"⟩ : MethodName)) hown (hw _ (List.mem_of_getElem? (i := 1) rfl)) (hw _ (List.mem_of_getElem? (i := 2) rfl)) (hw _ (List.mem_of_getElem? (i := 3) rfl)) (hw _ (List.mem_of_getElem? (i := 4) rfl)) (by decide) (argsL := [(.int kk)]) (rest := []) (rmB l Z w0 hw [] kk h0) e0 0 (by decide) (by decide) (by decide) (by decide) rfl pdB rfl (Nat.le_of_eq rfl) at_96 (pcF := 99) rfl ?_
              intro v14 T14 L14 X14 hQ14
              obtain ⟨rfl, rfl, e14⟩ := hQ14
              rw [List.append_nil] at X14
              show Go p e below _ _ (mkF m 99 _ [(.int (own_f kk))])
              refine Go.on (g' := (mkF m 101 _ [(.int (1 : Int32)), (.int (own_f kk))])) (fun t k => XS.iload X14.here hx rfl (hb hby at_99) rfl k) ?_
              refine Go.icmp X14 hx hby at_101 (pcT := 108) (pcF := 104) (by decide) (by decide) rfl (fun q => absurd q (fun q => (iNe.1 q) (own_1 kk (Or.inr (Or.inl q2))))) (fun q => ?_)
              clear q
              show Go p e below _ _ (mkF m 104 _ [])
              refine Go.on (g' := (mkF m 105 _ [(.int (1 : Int32))])) (fun t k => XS.iconst X14.here hx rfl (hb hby at_104) k) ?_
              refine Go.on (g' := (mkF m 109 _ [(.int (1 : Int32))])) (fun t k => XS.goto X14.here hx rfl (pc0 := 105) (pc' := 109) rfl (hb hby at_105) (by decide) (by decide) k) ?_
              exact Go.retI X14 hx hlk hret hby at_109 rfl (by simp) (by decide) (by decide) ⟨rfl, N0⟩
            · have q16 := iGt.2 q
              clear q
              show Go p e below _ _ (mkF m 63 _ [])
              refine Go.on (g' := (mkF m 64 _ [(.int (1 : Int32))])) (fun t k => XS.iconst X0.here hx rfl (hb hby at_63) k) ?_
              refine Go.on (g' := (mkF m 68 _ [(.int (1 : Int32))])) (fun t k => XS.goto X0.here hx rfl (pc0 := 64) (pc' := 68) rfl (hb hby at_64) (by decide) (by decide) k) ?_
              refine Go.on (g' := (mkF m 70 #[.val (.int p0), .val (.int kk), .val (.int (0 : Int32)), .val (.int (1 : Int32)), .val (.int (0 : Int32)), .val (.int (1 : Int32)), .unset] [])) (fun t k => XS.istore X0.here hx rfl (hb hby at_68) rfl (l' := #[.val (.int p0), .val (.int kk), .val (.int (0 : Int32)), .val (.int (1 : Int32)), .val (.int (0 : Int32)), .val (.int (1 : Int32)), .unset]) rfl k) ?_
              refine Go.on (g' := (mkF m 71 _ [(.int (0 : Int32))])) (fun t k => XS.iloadN X0.here hx rfl (hb hby at_70) rfl k) ?_
              refine Go.ifc X0 hx hby at_71 (pcT := 88) (pcF := 74) (by decide) (by decide) rfl (fun q => absurd q (by decide)) (fun q => ?_)
              clear q
              show Go p e below _ _ (mkF m 74 _ [])
              refine Go.on (g' := (mkF m 75 _ [(.int (1 : Int32))])) (fun t k => XS.iloadN X0.here hx rfl (hb hby at_74) rfl k) ?_
              refine Go.ifc X0 hx hby at_75 (pcT := 88) (pcF := 78) (by decide) (by decide) rfl (fun q => ?_) (fun q => absurd q (by decide))
              clear q
              show Go p e below _ _ (mkF m 88 _ [])
              refine Go.on (g' := (mkF m 89 _ [(.int (1 : Int32))])) (fun t k => XS.iconst X0.here hx rfl (hb hby at_88) k) ?_
              refine Go.on (g' := (mkF m 93 _ [(.int (1 : Int32))])) (fun t k => XS.goto X0.here hx rfl (pc0 := 89) (pc' := 93) rfl (hb hby at_89) (by decide) (by decide) k) ?_
              refine Go.on (g' := (mkF m 95 #[.val (.int p0), .val (.int kk), .val (.int (0 : Int32)), .val (.int (1 : Int32)), .val (.int (0 : Int32)), .val (.int (1 : Int32)), .val (.int (1 : Int32))] [])) (fun t k => XS.istore X0.here hx rfl (hb hby at_93) rfl (l' := #[.val (.int p0), .val (.int kk), .val (.int (0 : Int32)), .val (.int (1 : Int32)), .val (.int (0 : Int32)), .val (.int (1 : Int32)), .val (.int (1 : Int32))]) rfl k) ?_
              refine Go.on (g' := (mkF m 96 _ [(.int kk)])) (fun t k => XS.iloadN X0.here hx rfl (hb hby at_95) rfl k) ?_
              refine Go.callS X0 hx hZ hby (by rw [hml]; rfl) (y := (⟨"com/example/cantilever/cantilever/http/Headers", "isFieldValueChar", "(C)Z"⟩ : MethodName)) hown (hw _ (List.mem_of_getElem? (i := 1) rfl)) (hw _ (List.mem_of_getElem? (i := 2) rfl)) (hw _ (List.mem_of_getElem? (i := 3) rfl)) (hw _ (List.mem_of_getElem? (i := 4) rfl)) (by decide) (argsL := [(.int kk)]) (rest := []) (rmB l Z w0 hw [] kk h0) e0 0 (by decide) (by decide) (by decide) (by decide) rfl pdB rfl (Nat.le_of_eq rfl) at_96 (pcF := 99) rfl ?_
              intro v15 T15 L15 X15 hQ15
              obtain ⟨rfl, rfl, e15⟩ := hQ15
              rw [List.append_nil] at X15
              show Go p e below _ _ (mkF m 99 _ [(.int (own_f kk))])
              refine Go.on (g' := (mkF m 101 _ [(.int (1 : Int32)), (.int (own_f kk))])) (fun t k => XS.iload X15.here hx rfl (hb hby at_99) rfl k) ?_
              refine Go.icmp X15 hx hby at_101 (pcT := 108) (pcF := 104) (by decide) (by decide) rfl (fun q => absurd q (fun q => (iNe.1 q) (own_1 kk (Or.inr (Or.inl q2))))) (fun q => ?_)
              clear q
              show Go p e below _ _ (mkF m 104 _ [])
              refine Go.on (g' := (mkF m 105 _ [(.int (1 : Int32))])) (fun t k => XS.iconst X15.here hx rfl (hb hby at_104) k) ?_
              refine Go.on (g' := (mkF m 109 _ [(.int (1 : Int32))])) (fun t k => XS.goto X15.here hx rfl (pc0 := 105) (pc' := 109) rfl (hb hby at_105) (by decide) (by decide) k) ?_
              exact Go.retI X15 hx hlk hret hby at_109 rfl (by simp) (by decide) (by decide) ⟨rfl, N0⟩
        · have q14 := iGt.2 q
          clear q
          show Go p e below _ _ (mkF m 42 _ [])
          refine Go.on (g' := (mkF m 43 _ [(.int (1 : Int32))])) (fun t k => XS.iconst X0.here hx rfl (hb hby at_42) k) ?_
          refine Go.on (g' := (mkF m 47 _ [(.int (1 : Int32))])) (fun t k => XS.goto X0.here hx rfl (pc0 := 43) (pc' := 47) rfl (hb hby at_43) (by decide) (by decide) k) ?_
          refine Go.on (g' := (mkF m 49 #[.val (.int p0), .val (.int kk), .val (.int (0 : Int32)), .val (.int (1 : Int32)), .val (.int (1 : Int32)), .unset, .unset] [])) (fun t k => XS.istore X0.here hx rfl (hb hby at_47) rfl (l' := #[.val (.int p0), .val (.int kk), .val (.int (0 : Int32)), .val (.int (1 : Int32)), .val (.int (1 : Int32)), .unset, .unset]) rfl k) ?_
          refine Go.on (g' := (mkF m 50 _ [(.int kk)])) (fun t k => XS.iloadN X0.here hx rfl (hb hby at_49) rfl k) ?_
          refine Go.on (g' := (mkF m 53 _ [(.int (128 : Int32)), (.int kk)])) (fun t k => XS.sipush X0.here hx rfl (hb hby at_50) k) ?_
          refine Go.icmp X0 hx hby at_53 (pcT := 67) (pcF := 56) (by decide) (by decide) rfl (fun q => ?_) (fun q => ?_)
          · have q17 := iLt.1 q
            clear q
            show Go p e below _ _ (mkF m 67 _ [])
            refine Go.on (g' := (mkF m 68 _ [(.int (0 : Int32))])) (fun t k => XS.iconst X0.here hx rfl (hb hby at_67) k) ?_
            refine Go.on (g' := (mkF m 70 #[.val (.int p0), .val (.int kk), .val (.int (0 : Int32)), .val (.int (1 : Int32)), .val (.int (1 : Int32)), .val (.int (0 : Int32)), .unset] [])) (fun t k => XS.istore X0.here hx rfl (hb hby at_68) rfl (l' := #[.val (.int p0), .val (.int kk), .val (.int (0 : Int32)), .val (.int (1 : Int32)), .val (.int (1 : Int32)), .val (.int (0 : Int32)), .unset]) rfl k) ?_
            refine Go.on (g' := (mkF m 71 _ [(.int (0 : Int32))])) (fun t k => XS.iloadN X0.here hx rfl (hb hby at_70) rfl k) ?_
            refine Go.ifc X0 hx hby at_71 (pcT := 88) (pcF := 74) (by decide) (by decide) rfl (fun q => absurd q (by decide)) (fun q => ?_)
            clear q
            show Go p e below _ _ (mkF m 74 _ [])
            refine Go.on (g' := (mkF m 75 _ [(.int (1 : Int32))])) (fun t k => XS.iloadN X0.here hx rfl (hb hby at_74) rfl k) ?_
            refine Go.ifc X0 hx hby at_75 (pcT := 88) (pcF := 78) (by decide) (by decide) rfl (fun q => ?_) (fun q => absurd q (by decide))
            clear q
            show Go p e below _ _ (mkF m 88 _ [])
            refine Go.on (g' := (mkF m 89 _ [(.int (1 : Int32))])) (fun t k => XS.iconst X0.here hx rfl (hb hby at_88) k) ?_
            refine Go.on (g' := (mkF m 93 _ [(.int (1 : Int32))])) (fun t k => XS.goto X0.here hx rfl (pc0 := 89) (pc' := 93) rfl (hb hby at_89) (by decide) (by decide) k) ?_
            refine Go.on (g' := (mkF m 95 #[.val (.int p0), .val (.int kk), .val (.int (0 : Int32)), .val (.int (1 : Int32)), .val (.int (1 : Int32)), .val (.int (0 : Int32)), .val (.int (1 : Int32))] [])) (fun t k => XS.istore X0.here hx rfl (hb hby at_93) rfl (l' := #[.val (.int p0), .val (.int kk), .val (.int (0 : Int32)), .val (.int (1 : Int32)), .val (.int (1 : Int32)), .val (.int (0 : Int32)), .val (.int (1 : Int32))]) rfl k) ?_
            refine Go.on (g' := (mkF m 96 _ [(.int kk)])) (fun t k => XS.iloadN X0.here hx rfl (hb hby at_95) rfl k) ?_
            refine Go.callS X0 hx hZ hby (by rw [hml]; rfl) (y := (⟨"com/example/cantilever/cantilever/http/Headers", "isFieldValueChar", "(C)Z"⟩ : MethodName)) hown (hw _ (List.mem_of_getElem? (i := 1) rfl)) (hw _ (List.mem_of_getElem? (i := 2) rfl)) (hw _ (List.mem_of_getElem? (i := 3) rfl)) (hw _ (List.mem_of_getElem? (i := 4) rfl)) (by decide) (argsL := [(.int kk)]) (rest := []) (rmB l Z w0 hw [] kk h0) e0 0 (by decide) (by decide) (by decide) (by decide) rfl pdB rfl (Nat.le_of_eq rfl) at_96 (pcF := 99) rfl ?_
            intro v16 T16 L16 X16 hQ16
            obtain ⟨rfl, rfl, e16⟩ := hQ16
            rw [List.append_nil] at X16
            show Go p e below _ _ (mkF m 99 _ [(.int (own_f kk))])
            refine Go.on (g' := (mkF m 101 _ [(.int (1 : Int32)), (.int (own_f kk))])) (fun t k => XS.iload X16.here hx rfl (hb hby at_99) rfl k) ?_
            refine Go.icmp X16 hx hby at_101 (pcT := 108) (pcF := 104) (by decide) (by decide) rfl (fun q => absurd q (fun q => (iNe.1 q) (own_1 kk (Or.inr (Or.inl q2))))) (fun q => ?_)
            clear q
            show Go p e below _ _ (mkF m 104 _ [])
            refine Go.on (g' := (mkF m 105 _ [(.int (1 : Int32))])) (fun t k => XS.iconst X16.here hx rfl (hb hby at_104) k) ?_
            refine Go.on (g' := (mkF m 109 _ [(.int (1 : Int32))])) (fun t k => XS.goto X16.here hx rfl (pc0 := 105) (pc' := 109) rfl (hb hby at_105) (by decide) (by decide) k) ?_
            exact Go.retI X16 hx hlk hret hby at_109 rfl (by simp) (by decide) (by decide) ⟨rfl, N0⟩
          · have q17 := iLt.2 q
            clear q
            show Go p e below _ _ (mkF m 56 _ [])
            refine Go.on (g' := (mkF m 57 _ [(.int kk)])) (fun t k => XS.iloadN X0.here hx rfl (hb hby at_56) rfl k) ?_
            refine Go.on (g' := (mkF m 60 _ [(.int (255 : Int32)), (.int kk)])) (fun t k => XS.sipush X0.here hx rfl (hb hby at_57) k) ?_
            refine Go.icmp X0 hx hby at_60 (pcT := 67) (pcF := 63) (by decide) (by decide) rfl (fun q => ?_) (fun q => ?_)
            · have q18 := iGt.1 q
              clear q
              show Go p e below _ _ (mkF m 67 _ [])
              refine Go.on (g' := (mkF m 68 _ [(.int (0 : Int32))])) (fun t k => XS.iconst X0.here hx rfl (hb hby at_67) k) ?_
              refine Go.on (g' := (mkF m 70 #[.val (.int p0), .val (.int kk), .val (.int (0 : Int32)), .val (.int (1 : Int32)), .val (.int (1 : Int32)), .val (.int (0 : Int32)), .unset] [])) (fun t k => XS.istore X0.here hx rfl (hb hby at_68) rfl (l' := #[.val (.int p0), .val (.int kk), .val (.int (0 : Int32)), .val (.int (1 : Int32)), .val (.int (1 : Int32)), .val (.int (0 : Int32)), .unset]) rfl k) ?_
              refine Go.on (g' := (mkF m 71 _ [(.int (0 : Int32))])) (fun t k => XS.iloadN X0.here hx rfl (hb hby at_70) rfl k) ?_
              refine Go.ifc X0 hx hby at_71 (pcT := 88) (pcF := 74) (by decide) (by decide) rfl (fun q => absurd q (by decide)) (fun q => ?_)
              clear q
              show Go p e below _ _ (mkF m 74 _ [])
              refine Go.on (g' := (mkF m 75 _ [(.int (1 : Int32))])) (fun t k => XS.iloadN X0.here hx rfl (hb hby at_74) rfl k) ?_
              refine Go.ifc X0 hx hby at_75 (pcT := 88) (pcF := 78) (by decide) (by decide) rfl (fun q => ?_) (fun q => absurd q (by decide))
              clear q
              show Go p e below _ _ (mkF m 88 _ [])
              refine Go.on (g' := (mkF m 89 _ [(.int (1 : Int32))])) (fun t k => XS.iconst X0.here hx rfl (hb hby at_88) k) ?_
              refine Go.on (g' := (mkF m 93 _ [(.int (1 : Int32))])) (fun t k => XS.goto X0.here hx rfl (pc0 := 89) (pc' := 93) rfl (hb hby at_89) (by decide) (by decide) k) ?_
              refine Go.on (g' := (mkF m 95 #[.val (.int p0), .val (.int kk), .val (.int (0 : Int32)), .val (.int (1 : Int32)), .val (.int (1 : Int32)), .val (.int (0 : Int32)), .val (.int (1 : Int32))] [])) (fun t k => XS.istore X0.here hx rfl (hb hby at_93) rfl (l' := #[.val (.int p0), .val (.int kk), .val (.int (0 : Int32)), .val (.int (1 : Int32)), .val (.int (1 : Int32)), .val (.int (0 : Int32)), .val (.int (1 : Int32))]) rfl k) ?_
              refine Go.on (g' := (mkF m 96 _ [(.int kk)])) (fun t k => XS.iloadN X0.here hx rfl (hb hby at_95) rfl k) ?_
              refine Go.callS X0 hx hZ hby (by rw [hml]; rfl) (y := (⟨"com/example/cantilever/cantilever/http/Headers", "isFieldValueChar", "(C)Z"⟩ : MethodName)) hown (hw _ (List.mem_of_getElem? (i := 1) rfl)) (hw _ (List.mem_of_getElem? (i := 2) rfl)) (hw _ (List.mem_of_getElem? (i := 3) rfl)) (hw _ (List.mem_of_getElem? (i := 4) rfl)) (by decide) (argsL := [(.int kk)]) (rest := []) (rmB l Z w0 hw [] kk h0) e0 0 (by decide) (by decide) (by decide) (by decide) rfl pdB rfl (Nat.le_of_eq rfl) at_96 (pcF := 99) rfl ?_
              intro v17 T17 L17 X17 hQ17
              obtain ⟨rfl, rfl, e17⟩ := hQ17
              rw [List.append_nil] at X17
              show Go p e below _ _ (mkF m 99 _ [(.int (own_f kk))])
              refine Go.on (g' := (mkF m 101 _ [(.int (1 : Int32)), (.int (own_f kk))])) (fun t k => XS.iload X17.here hx rfl (hb hby at_99) rfl k) ?_
              refine Go.icmp X17 hx hby at_101 (pcT := 108) (pcF := 104) (by decide) (by decide) rfl (fun q => absurd q (fun q => (iNe.1 q) (own_1 kk (Or.inr (Or.inl q2))))) (fun q => ?_)
              clear q
              show Go p e below _ _ (mkF m 104 _ [])
              refine Go.on (g' := (mkF m 105 _ [(.int (1 : Int32))])) (fun t k => XS.iconst X17.here hx rfl (hb hby at_104) k) ?_
              refine Go.on (g' := (mkF m 109 _ [(.int (1 : Int32))])) (fun t k => XS.goto X17.here hx rfl (pc0 := 105) (pc' := 109) rfl (hb hby at_105) (by decide) (by decide) k) ?_
              exact Go.retI X17 hx hlk hret hby at_109 rfl (by simp) (by decide) (by decide) ⟨rfl, N0⟩
            · have q18 := iGt.2 q
              clear q
              show Go p e below _ _ (mkF m 63 _ [])
              refine Go.on (g' := (mkF m 64 _ [(.int (1 : Int32))])) (fun t k => XS.iconst X0.here hx rfl (hb hby at_63) k) ?_
              refine Go.on (g' := (mkF m 68 _ [(.int (1 : Int32))])) (fun t k => XS.goto X0.here hx rfl (pc0 := 64) (pc' := 68) rfl (hb hby at_64) (by decide) (by decide) k) ?_
              refine Go.on (g' := (mkF m 70 #[.val (.int p0), .val (.int kk), .val (.int (0 : Int32)), .val (.int (1 : Int32)), .val (.int (1 : Int32)), .val (.int (1 : Int32)), .unset] [])) (fun t k => XS.istore X0.here hx rfl (hb hby at_68) rfl (l' := #[.val (.int p0), .val (.int kk), .val (.int (0 : Int32)), .val (.int (1 : Int32)), .val (.int (1 : Int32)), .val (.int (1 : Int32)), .unset]) rfl k) ?_
              refine Go.on (g' := (mkF m 71 _ [(.int (0 : Int32))])) (fun t k => XS.iloadN X0.here hx rfl (hb hby at_70) rfl k) ?_
              refine Go.ifc X0 hx hby at_71 (pcT := 88) (pcF := 74) (by decide) (by decide) rfl (fun q => absurd q (by decide)) (fun q => ?_)
              clear q
              show Go p e below _ _ (mkF m 74 _ [])
              refine Go.on (g' := (mkF m 75 _ [(.int (1 : Int32))])) (fun t k => XS.iloadN X0.here hx rfl (hb hby at_74) rfl k) ?_
              refine Go.ifc X0 hx hby at_75 (pcT := 88) (pcF := 78) (by decide) (by decide) rfl (fun q => ?_) (fun q => absurd q (by decide))
              clear q
              show Go p e below _ _ (mkF m 88 _ [])
              refine Go.on (g' := (mkF m 89 _ [(.int (1 : Int32))])) (fun t k => XS.iconst X0.here hx rfl (hb hby at_88) k) ?_
              refine Go.on (g' := (mkF m 93 _ [(.int (1 : Int32))])) (fun t k => XS.goto X0.here hx rfl (pc0 := 89) (pc' := 93) rfl (hb hby at_89) (by decide) (by decide) k) ?_
              refine Go.on (g' := (mkF m 95 #[.val (.int p0), .val (.int kk), .val (.int (0 : Int32)), .val (.int (1 : Int32)), .val (.int (1 : Int32)), .val (.int (1 : Int32)), .val (.int (1 : Int32))] [])) (fun t k => XS.istore X0.here hx rfl (hb hby at_93) rfl (l' := #[.val (.int p0), .val (.int kk), .val (.int (0 : Int32)), .val (.int (1 : Int32)), .val (.int (1 : Int32)), .val (.int (1 : Int32)), .val (.int (1 : Int32))]) rfl k) ?_
              refine Go.on (g' := (mkF m 96 _ [(.int kk)])) (fun t k => XS.iloadN X0.here hx rfl (hb hby at_95) rfl k) ?_
              refine Go.callS X0 hx hZ hby (by rw [hml]; rfl) (y := (⟨"com/example/cantilever/cantilever/http/Headers", "isFieldValueChar", "(C)Z"⟩ : MethodName)) hown (hw _ (List.mem_of_getElem? (i := 1) rfl)) (hw _ (List.mem_of_getElem? (i := 2) rfl)) (hw _ (List.mem_of_getElem? (i := 3) rfl)) (hw _ (List.mem_of_getElem? (i := 4) rfl)) (by decide) (argsL := [(.int kk)]) (rest := []) (rmB l Z w0 hw [] kk h0) e0 0 (by decide) (by decide) (by decide) (by decide) rfl pdB rfl (Nat.le_of_eq rfl) at_96 (pcF := 99) rfl ?_
              intro v18 T18 L18 X18 hQ18
              obtain ⟨rfl, rfl, e18⟩ := hQ18
              rw [List.append_nil] at X18
              show Go p e below _ _ (mkF m 99 _ [(.int (own_f kk))])
              refine Go.on (g' := (mkF m 101 _ [(.int (1 : Int32)), (.int (own_f kk))])) (fun t k => XS.iload X18.here hx rfl (hb hby at_99) rfl k) ?_
              refine Go.icmp X18 hx hby at_101 (pcT := 108) (pcF := 104) (by decide) (by decide) rfl (fun q => absurd q (fun q => (iNe.1 q) (own_1 kk (Or.inr (Or.inl q2))))) (fun q => ?_)
              clear q
              show Go p e below _ _ (mkF m 104 _ [])
              refine Go.on (g' := (mkF m 105 _ [(.int (1 : Int32))])) (fun t k => XS.iconst X18.here hx rfl (hb hby at_104) k) ?_
              refine Go.on (g' := (mkF m 109 _ [(.int (1 : Int32))])) (fun t k => XS.goto X18.here hx rfl (pc0 := 105) (pc' := 109) rfl (hb hby at_105) (by decide) (by decide) k) ?_
              exact Go.retI X18 hx hlk hret hby at_109 rfl (by simp) (by decide) (by decide) ⟨rfl, N0⟩
  · have q1 := iNe.2 q
    clear q
    show Go p e below _ _ (mkF m 12 _ [])
    refine Go.on (g' := (mkF m 13 _ [(.int (1 : Int32))])) (fun t k => XS.iconst X0.here hx rfl (hb hby at_12) k) ?_
    refine Go.on (g' := (mkF m 17 _ [(.int (1 : Int32))])) (fun t k => XS.goto X0.here hx rfl (pc0 := 13) (pc' := 17) rfl (hb hby at_13) (by decide) (by decide) k) ?_
    refine Go.on (g' := (mkF m 18 #[.val (.int p0), .val (.int kk), .val (.int (1 : Int32)), .unset, .unset, .unset, .unset] [])) (fun t k => XS.istoreN X0.here hx rfl (hb hby at_17) rfl (l' := #[.val (.int p0), .val (.int kk), .val (.int (1 : Int32)), .unset, .unset, .unset, .unset]) rfl k) ?_
    refine Go.on (g' := (mkF m 19 _ [(.int kk)])) (fun t k => XS.iloadN X0.here hx rfl (hb hby at_18) rfl k) ?_
    refine Go.on (g' := (mkF m 21 _ [(.int (32 : Int32)), (.int kk)])) (fun t k => XS.bipush X0.here hx rfl (hb hby at_19) k) ?_
    refine Go.icmp X0 hx hby at_21 (pcT := 28) (pcF := 24) (by decide) (by decide) rfl (fun q => ?_) (fun q => ?_)
    · have q19 := iNe.1 q
      clear q
      show Go p e below _ _ (mkF m 28 _ [])
      refine Go.on (g' := (mkF m 29 _ [(.int (0 : Int32))])) (fun t k => XS.iconst X0.here hx rfl (hb hby at_28) k) ?_
      refine Go.on (g' := (mkF m 30 #[.val (.int p0), .val (.int kk), .val (.int (1 : Int32)), .val (.int (0 : Int32)), .unset, .unset, .unset] [])) (fun t k => XS.istoreN X0.here hx rfl (hb hby at_29) rfl (l' := #[.val (.int p0), .val (.int kk), .val (.int (1 : Int32)), .val (.int (0 : Int32)), .unset, .unset, .unset]) rfl k) ?_
      refine Go.on (g' := (mkF m 31 _ [(.int kk)])) (fun t k => XS.iloadN X0.here hx rfl (hb hby at_30) rfl k) ?_
      refine Go.on (g' := (mkF m 33 _ [(.int (33 : Int32)), (.int kk)])) (fun t k => XS.bipush X0.here hx rfl (hb hby at_31) k) ?_
      refine Go.icmp X0 hx hby at_33 (pcT := 46) (pcF := 36) (by decide) (by decide) rfl (fun q => ?_) (fun q => ?_)
      · have q20 := iLt.1 q
        clear q
        show Go p e below _ _ (mkF m 46 _ [])
        refine Go.on (g' := (mkF m 47 _ [(.int (0 : Int32))])) (fun t k => XS.iconst X0.here hx rfl (hb hby at_46) k) ?_
        refine Go.on (g' := (mkF m 49 #[.val (.int p0), .val (.int kk), .val (.int (1 : Int32)), .val (.int (0 : Int32)), .val (.int (0 : Int32)), .unset, .unset] [])) (fun t k => XS.istore X0.here hx rfl (hb hby at_47) rfl (l' := #[.val (.int p0), .val (.int kk), .val (.int (1 : Int32)), .val (.int (0 : Int32)), .val (.int (0 : Int32)), .unset, .unset]) rfl k) ?_
        refine Go.on (g' := (mkF m 50 _ [(.int kk)])) (fun t k => XS.iloadN X0.here hx rfl (hb hby at_49) rfl k) ?_
        refine Go.on (g' := (mkF m 53 _ [(.int (128 : Int32)), (.int kk)])) (fun t k => XS.sipush X0.here hx rfl (hb hby at_50) k) ?_
        refine Go.icmp X0 hx hby at_53 (pcT := 67) (pcF := 56) (by decide) (by decide) rfl (fun q => ?_) (fun q => ?_)
        · have q21 := iLt.1 q
          clear q
          show Go p e below _ _ (mkF m 67 _ [])
          refine Go.on (g' := (mkF m 68 _ [(.int (0 : Int32))])) (fun t k => XS.iconst X0.here hx rfl (hb hby at_67) k) ?_
          refine Go.on (g' := (mkF m 70 #[.val (.int p0), .val (.int kk), .val (.int (1 : Int32)), .val (.int (0 : Int32)), .val (.int (0 : Int32)), .val (.int (0 : Int32)), .unset] [])) (fun t k => XS.istore X0.here hx rfl (hb hby at_68) rfl (l' := #[.val (.int p0), .val (.int kk), .val (.int (1 : Int32)), .val (.int (0 : Int32)), .val (.int (0 : Int32)), .val (.int (0 : Int32)), .unset]) rfl k) ?_
          refine Go.on (g' := (mkF m 71 _ [(.int (1 : Int32))])) (fun t k => XS.iloadN X0.here hx rfl (hb hby at_70) rfl k) ?_
          refine Go.ifc X0 hx hby at_71 (pcT := 88) (pcF := 74) (by decide) (by decide) rfl (fun q => ?_) (fun q => absurd q (by decide))
          clear q
          show Go p e below _ _ (mkF m 88 _ [])
          refine Go.on (g' := (mkF m 89 _ [(.int (1 : Int32))])) (fun t k => XS.iconst X0.here hx rfl (hb hby at_88) k) ?_
          refine Go.on (g' := (mkF m 93 _ [(.int (1 : Int32))])) (fun t k => XS.goto X0.here hx rfl (pc0 := 89) (pc' := 93) rfl (hb hby at_89) (by decide) (by decide) k) ?_
          refine Go.on (g' := (mkF m 95 #[.val (.int p0), .val (.int kk), .val (.int (1 : Int32)), .val (.int (0 : Int32)), .val (.int (0 : Int32)), .val (.int (0 : Int32)), .val (.int (1 : Int32))] [])) (fun t k => XS.istore X0.here hx rfl (hb hby at_93) rfl (l' := #[.val (.int p0), .val (.int kk), .val (.int (1 : Int32)), .val (.int (0 : Int32)), .val (.int (0 : Int32)), .val (.int (0 : Int32)), .val (.int (1 : Int32))]) rfl k) ?_
          refine Go.on (g' := (mkF m 96 _ [(.int kk)])) (fun t k => XS.iloadN X0.here hx rfl (hb hby at_95) rfl k) ?_
          refine Go.callS X0 hx hZ hby (by rw [hml]; rfl) (y := (⟨"com/example/cantilever/cantilever/http/Headers", "isFieldValueChar", "(C)Z"⟩ : MethodName)) hown (hw _ (List.mem_of_getElem? (i := 1) rfl)) (hw _ (List.mem_of_getElem? (i := 2) rfl)) (hw _ (List.mem_of_getElem? (i := 3) rfl)) (hw _ (List.mem_of_getElem? (i := 4) rfl)) (by decide) (argsL := [(.int kk)]) (rest := []) (rmB l Z w0 hw [] kk h0) e0 0 (by decide) (by decide) (by decide) (by decide) rfl pdB rfl (Nat.le_of_eq rfl) at_96 (pcF := 99) rfl ?_
          intro v19 T19 L19 X19 hQ19
          obtain ⟨rfl, rfl, e19⟩ := hQ19
          rw [List.append_nil] at X19
          show Go p e below _ _ (mkF m 99 _ [(.int (own_f kk))])
          refine Go.on (g' := (mkF m 101 _ [(.int (1 : Int32)), (.int (own_f kk))])) (fun t k => XS.iload X19.here hx rfl (hb hby at_99) rfl k) ?_
          refine Go.icmp X19 hx hby at_101 (pcT := 108) (pcF := 104) (by decide) (by decide) rfl (fun q => absurd q (fun q => (iNe.1 q) (own_1 kk (Or.inl q1)))) (fun q => ?_)
          clear q
          show Go p e below _ _ (mkF m 104 _ [])
          refine Go.on (g' := (mkF m 105 _ [(.int (1 : Int32))])) (fun t k => XS.iconst X19.here hx rfl (hb hby at_104) k) ?_
          refine Go.on (g' := (mkF m 109 _ [(.int (1 : Int32))])) (fun t k => XS.goto X19.here hx rfl (pc0 := 105) (pc' := 109) rfl (hb hby at_105) (by decide) (by decide) k) ?_
          exact Go.retI X19 hx hlk hret hby at_109 rfl (by simp) (by decide) (by decide) ⟨rfl, N0⟩
        · have q21 := iLt.2 q
          clear q
          show Go p e below _ _ (mkF m 56 _ [])
          refine Go.on (g' := (mkF m 57 _ [(.int kk)])) (fun t k => XS.iloadN X0.here hx rfl (hb hby at_56) rfl k) ?_
          refine Go.on (g' := (mkF m 60 _ [(.int (255 : Int32)), (.int kk)])) (fun t k => XS.sipush X0.here hx rfl (hb hby at_57) k) ?_
          refine Go.icmp X0 hx hby at_60 (pcT := 67) (pcF := 63) (by decide) (by decide) rfl (fun q => ?_) (fun q => ?_)
          · have q22 := iGt.1 q
            clear q
            show Go p e below _ _ (mkF m 67 _ [])
            refine Go.on (g' := (mkF m 68 _ [(.int (0 : Int32))])) (fun t k => XS.iconst X0.here hx rfl (hb hby at_67) k) ?_
            refine Go.on (g' := (mkF m 70 #[.val (.int p0), .val (.int kk), .val (.int (1 : Int32)), .val (.int (0 : Int32)), .val (.int (0 : Int32)), .val (.int (0 : Int32)), .unset] [])) (fun t k => XS.istore X0.here hx rfl (hb hby at_68) rfl (l' := #[.val (.int p0), .val (.int kk), .val (.int (1 : Int32)), .val (.int (0 : Int32)), .val (.int (0 : Int32)), .val (.int (0 : Int32)), .unset]) rfl k) ?_
            refine Go.on (g' := (mkF m 71 _ [(.int (1 : Int32))])) (fun t k => XS.iloadN X0.here hx rfl (hb hby at_70) rfl k) ?_
            refine Go.ifc X0 hx hby at_71 (pcT := 88) (pcF := 74) (by decide) (by decide) rfl (fun q => ?_) (fun q => absurd q (by decide))
            clear q
            show Go p e below _ _ (mkF m 88 _ [])
            refine Go.on (g' := (mkF m 89 _ [(.int (1 : Int32))])) (fun t k => XS.iconst X0.here hx rfl (hb hby at_88) k) ?_
            refine Go.on (g' := (mkF m 93 _ [(.int (1 : Int32))])) (fun t k => XS.goto X0.here hx rfl (pc0 := 89) (pc' := 93) rfl (hb hby at_89) (by decide) (by decide) k) ?_
            refine Go.on (g' := (mkF m 95 #[.val (.int p0), .val (.int kk), .val (.int (1 : Int32)), .val (.int (0 : Int32)), .val (.int (0 : Int32)), .val (.int (0 : Int32)), .val (.int (1 : Int32))] [])) (fun t k => XS.istore X0.here hx rfl (hb hby at_93) rfl (l' := #[.val (.int p0), .val (.int kk), .val (.int (1 : Int32)), .val (.int (0 : Int32)), .val (.int (0 : Int32)), .val (.int (0 : Int32)), .val (.int (1 : Int32))]) rfl k) ?_
            refine Go.on (g' := (mkF m 96 _ [(.int kk)])) (fun t k => XS.iloadN X0.here hx rfl (hb hby at_95) rfl k) ?_
            refine Go.callS X0 hx hZ hby (by rw [hml]; rfl) (y := (⟨"com/example/cantilever/cantilever/http/Headers", "isFieldValueChar", "(C)Z"⟩ : MethodName)) hown (hw _ (List.mem_of_getElem? (i := 1) rfl)) (hw _ (List.mem_of_getElem? (i := 2) rfl)) (hw _ (List.mem_of_getElem? (i := 3) rfl)) (hw _ (List.mem_of_getElem? (i := 4) rfl)) (by decide) (argsL := [(.int kk)]) (rest := []) (rmB l Z w0 hw [] kk h0) e0 0 (by decide) (by decide) (by decide) (by decide) rfl pdB rfl (Nat.le_of_eq rfl) at_96 (pcF := 99) rfl ?_
            intro v20 T20 L20 X20 hQ20
            obtain ⟨rfl, rfl, e20⟩ := hQ20
            rw [List.append_nil] at X20
            show Go p e below _ _ (mkF m 99 _ [(.int (own_f kk))])
            refine Go.on (g' := (mkF m 101 _ [(.int (1 : Int32)), (.int (own_f kk))])) (fun t k => XS.iload X20.here hx rfl (hb hby at_99) rfl k) ?_
            refine Go.icmp X20 hx hby at_101 (pcT := 108) (pcF := 104) (by decide) (by decide) rfl (fun q => absurd q (fun q => (iNe.1 q) (own_1 kk (Or.inl q1)))) (fun q => ?_)
            clear q
            show Go p e below _ _ (mkF m 104 _ [])
            refine Go.on (g' := (mkF m 105 _ [(.int (1 : Int32))])) (fun t k => XS.iconst X20.here hx rfl (hb hby at_104) k) ?_
            refine Go.on (g' := (mkF m 109 _ [(.int (1 : Int32))])) (fun t k => XS.goto X20.here hx rfl (pc0 := 105) (pc' := 109) rfl (hb hby at_105) (by decide) (by decide) k) ?_
            exact Go.retI X20 hx hlk hret hby at_109 rfl (by simp) (by decide) (by decide) ⟨rfl, N0⟩
          · have q22 := iGt.2 q
            clear q
            show Go p e below _ _ (mkF m 63 _ [])
            refine Go.on (g' := (mkF m 64 _ [(.int (1 : Int32))])) (fun t k => XS.iconst X0.here hx rfl (hb hby at_63) k) ?_
            refine Go.on (g' := (mkF m 68 _ [(.int (1 : Int32))])) (fun t k => XS.goto X0.here hx rfl (pc0 := 64) (pc' := 68) rfl (hb hby at_64) (by decide) (by decide) k) ?_
            refine Go.on (g' := (mkF m 70 #[.val (.int p0), .val (.int kk), .val (.int (1 : Int32)), .val (.int (0 : Int32)), .val (.int (0 : Int32)), .val (.int (1 : Int32)), .unset] [])) (fun t k => XS.istore X0.here hx rfl (hb hby at_68) rfl (l' := #[.val (.int p0), .val (.int kk), .val (.int (1 : Int32)), .val (.int (0 : Int32)), .val (.int (0 : Int32)), .val (.int (1 : Int32)), .unset]) rfl k) ?_
            refine Go.on (g' := (mkF m 71 _ [(.int (1 : Int32))])) (fun t k => XS.iloadN X0.here hx rfl (hb hby at_70) rfl k) ?_
            refine Go.ifc X0 hx hby at_71 (pcT := 88) (pcF := 74) (by decide) (by decide) rfl (fun q => ?_) (fun q => absurd q (by decide))
            clear q
            show Go p e below _ _ (mkF m 88 _ [])
            refine Go.on (g' := (mkF m 89 _ [(.int (1 : Int32))])) (fun t k => XS.iconst X0.here hx rfl (hb hby at_88) k) ?_
            refine Go.on (g' := (mkF m 93 _ [(.int (1 : Int32))])) (fun t k => XS.goto X0.here hx rfl (pc0 := 89) (pc' := 93) rfl (hb hby at_89) (by decide) (by decide) k) ?_
            refine Go.on (g' := (mkF m 95 #[.val (.int p0), .val (.int kk), .val (.int (1 : Int32)), .val (.int (0 : Int32)), .val (.int (0 : Int32)), .val (.int (1 : Int32)), .val (.int (1 : Int32))] [])) (fun t k => XS.istore X0.here hx rfl (hb hby at_93) rfl (l' := #[.val (.int p0), .val (.int kk), .val (.int (1 : Int32)), .val (.int (0 : Int32)), .val (.int (0 : Int32)), .val (.int (1 : Int32)), .val (.int (1 : Int32))]) rfl k) ?_
            refine Go.on (g' := (mkF m 96 _ [(.int kk)])) (fun t k => XS.iloadN X0.here hx rfl (hb hby at_95) rfl k) ?_
            refine Go.callS X0 hx hZ hby (by rw [hml]; rfl) (y := (⟨"com/example/cantilever/cantilever/http/Headers", "isFieldValueChar", "(C)Z"⟩ : MethodName)) hown (hw _ (List.mem_of_getElem? (i := 1) rfl)) (hw _ (List.mem_of_getElem? (i := 2) rfl)) (hw _ (List.mem_of_getElem? (i := 3) rfl)) (hw _ (List.mem_of_getElem? (i := 4) rfl)) (by decide) (argsL := [(.int kk)]) (rest := []) (rmB l Z w0 hw [] kk h0) e0 0 (by decide) (by decide) (by decide) (by decide) rfl pdB rfl (Nat.le_of_eq rfl) at_96 (pcF := 99) rfl ?_
            intro v21 T21 L21 X21 hQ21
            obtain ⟨rfl, rfl, e21⟩ := hQ21
            rw [List.append_nil] at X21
            show Go p e below _ _ (mkF m 99 _ [(.int (own_f kk))])
            refine Go.on (g' := (mkF m 101 _ [(.int (1 : Int32)), (.int (own_f kk))])) (fun t k => XS.iload X21.here hx rfl (hb hby at_99) rfl k) ?_
            refine Go.icmp X21 hx hby at_101 (pcT := 108) (pcF := 104) (by decide) (by decide) rfl (fun q => absurd q (fun q => (iNe.1 q) (own_1 kk (Or.inl q1)))) (fun q => ?_)
            clear q
            show Go p e below _ _ (mkF m 104 _ [])
            refine Go.on (g' := (mkF m 105 _ [(.int (1 : Int32))])) (fun t k => XS.iconst X21.here hx rfl (hb hby at_104) k) ?_
            refine Go.on (g' := (mkF m 109 _ [(.int (1 : Int32))])) (fun t k => XS.goto X21.here hx rfl (pc0 := 105) (pc' := 109) rfl (hb hby at_105) (by decide) (by decide) k) ?_
            exact Go.retI X21 hx hlk hret hby at_109 rfl (by simp) (by decide) (by decide) ⟨rfl, N0⟩
      · have q20 := iLt.2 q
        clear q
        show Go p e below _ _ (mkF m 36 _ [])
        refine Go.on (g' := (mkF m 37 _ [(.int kk)])) (fun t k => XS.iloadN X0.here hx rfl (hb hby at_36) rfl k) ?_
        refine Go.on (g' := (mkF m 39 _ [(.int (126 : Int32)), (.int kk)])) (fun t k => XS.bipush X0.here hx rfl (hb hby at_37) k) ?_
        refine Go.icmp X0 hx hby at_39 (pcT := 46) (pcF := 42) (by decide) (by decide) rfl (fun q => ?_) (fun q => ?_)
        · have q23 := iGt.1 q
          clear q
          show Go p e below _ _ (mkF m 46 _ [])
          refine Go.on (g' := (mkF m 47 _ [(.int (0 : Int32))])) (fun t k => XS.iconst X0.here hx rfl (hb hby at_46) k) ?_
          refine Go.on (g' := (mkF m 49 #[.val (.int p0), .val (.int kk), .val (.int (1 : Int32)), .val (.int (0 : Int32)), .val (.int (0 : Int32)), .unset, .unset] [])) (fun t k => XS.istore X0.here hx rfl (hb hby at_47) rfl (l' := #[.val (.int p0), .val (.int kk), .val (.int (1 : Int32)), .val (.int (0 : Int32)), .val (.int (0 : Int32)), .unset, .unset]) rfl k) ?_
          refine Go.on (g' := (mkF m 50 _ [(.int kk)])) (fun t k => XS.iloadN X0.here hx rfl (hb hby at_49) rfl k) ?_
          refine Go.on (g' := (mkF m 53 _ [(.int (128 : Int32)), (.int kk)])) (fun t k => XS.sipush X0.here hx rfl (hb hby at_50) k) ?_
          refine Go.icmp X0 hx hby at_53 (pcT := 67) (pcF := 56) (by decide) (by decide) rfl (fun q => ?_) (fun q => ?_)
          · have q24 := iLt.1 q
            clear q
            show Go p e below _ _ (mkF m 67 _ [])
            refine Go.on (g' := (mkF m 68 _ [(.int (0 : Int32))])) (fun t k => XS.iconst X0.here hx rfl (hb hby at_67) k) ?_
            refine Go.on (g' := (mkF m 70 #[.val (.int p0), .val (.int kk), .val (.int (1 : Int32)), .val (.int (0 : Int32)), .val (.int (0 : Int32)), .val (.int (0 : Int32)), .unset] [])) (fun t k => XS.istore X0.here hx rfl (hb hby at_68) rfl (l' := #[.val (.int p0), .val (.int kk), .val (.int (1 : Int32)), .val (.int (0 : Int32)), .val (.int (0 : Int32)), .val (.int (0 : Int32)), .unset]) rfl k) ?_
            refine Go.on (g' := (mkF m 71 _ [(.int (1 : Int32))])) (fun t k => XS.iloadN X0.here hx rfl (hb hby at_70) rfl k) ?_
            refine Go.ifc X0 hx hby at_71 (pcT := 88) (pcF := 74) (by decide) (by decide) rfl (fun q => ?_) (fun q => absurd q (by decide))
            clear q
            show Go p e below _ _ (mkF m 88 _ [])
            refine Go.on (g' := (mkF m 89 _ [(.int (1 : Int32))])) (fun t k => XS.iconst X0.here hx rfl (hb hby at_88) k) ?_
            refine Go.on (g' := (mkF m 93 _ [(.int (1 : Int32))])) (fun t k => XS.goto X0.here hx rfl (pc0 := 89) (pc' := 93) rfl (hb hby at_89) (by decide) (by decide) k) ?_
            refine Go.on (g' := (mkF m 95 #[.val (.int p0), .val (.int kk), .val (.int (1 : Int32)), .val (.int (0 : Int32)), .val (.int (0 : Int32)), .val (.int (0 : Int32)), .val (.int (1 : Int32))] [])) (fun t k => XS.istore X0.here hx rfl (hb hby at_93) rfl (l' := #[.val (.int p0), .val (.int kk), .val (.int (1 : Int32)), .val (.int (0 : Int32)), .val (.int (0 : Int32)), .val (.int (0 : Int32)), .val (.int (1 : Int32))]) rfl k) ?_
            refine Go.on (g' := (mkF m 96 _ [(.int kk)])) (fun t k => XS.iloadN X0.here hx rfl (hb hby at_95) rfl k) ?_
            refine Go.callS X0 hx hZ hby (by rw [hml]; rfl) (y := (⟨"com/example/cantilever/cantilever/http/Headers", "isFieldValueChar", "(C)Z"⟩ : MethodName)) hown (hw _ (List.mem_of_getElem? (i := 1) rfl)) (hw _ (List.mem_of_getElem? (i := 2) rfl)) (hw _ (List.mem_of_getElem? (i := 3) rfl)) (hw _ (List.mem_of_getElem? (i := 4) rfl)) (by decide) (argsL := [(.int kk)]) (rest := []) (rmB l Z w0 hw [] kk h0) e0 0 (by decide) (by decide) (by decide) (by decide) rfl pdB rfl (Nat.le_of_eq rfl) at_96 (pcF := 99) rfl ?_
            intro v22 T22 L22 X22 hQ22
            obtain ⟨rfl, rfl, e22⟩ := hQ22
            rw [List.append_nil] at X22
            show Go p e below _ _ (mkF m 99 _ [(.int (own_f kk))])
            refine Go.on (g' := (mkF m 101 _ [(.int (1 : Int32)), (.int (own_f kk))])) (fun t k => XS.iload X22.here hx rfl (hb hby at_99) rfl k) ?_
            refine Go.icmp X22 hx hby at_101 (pcT := 108) (pcF := 104) (by decide) (by decide) rfl (fun q => absurd q (fun q => (iNe.1 q) (own_1 kk (Or.inl q1)))) (fun q => ?_)
            clear q
            show Go p e below _ _ (mkF m 104 _ [])
            refine Go.on (g' := (mkF m 105 _ [(.int (1 : Int32))])) (fun t k => XS.iconst X22.here hx rfl (hb hby at_104) k) ?_
            refine Go.on (g' := (mkF m 109 _ [(.int (1 : Int32))])) (fun t k => XS.goto X22.here hx rfl (pc0 := 105) (pc' := 109) rfl (hb hby at_105) (by decide) (by decide) k) ?_
            exact Go.retI X22 hx hlk hret hby at_109 rfl (by simp) (by decide) (by decide) ⟨rfl, N0⟩
          · have q24 := iLt.2 q
            clear q
            show Go p e below _ _ (mkF m 56 _ [])
            refine Go.on (g' := (mkF m 57 _ [(.int kk)])) (fun t k => XS.iloadN X0.here hx rfl (hb hby at_56) rfl k) ?_
            refine Go.on (g' := (mkF m 60 _ [(.int (255 : Int32)), (.int kk)])) (fun t k => XS.sipush X0.here hx rfl (hb hby at_57) k) ?_
            refine Go.icmp X0 hx hby at_60 (pcT := 67) (pcF := 63) (by decide) (by decide) rfl (fun q => ?_) (fun q => ?_)
            · have q25 := iGt.1 q
              clear q
              show Go p e below _ _ (mkF m 67 _ [])
              refine Go.on (g' := (mkF m 68 _ [(.int (0 : Int32))])) (fun t k => XS.iconst X0.here hx rfl (hb hby at_67) k) ?_
              refine Go.on (g' := (mkF m 70 #[.val (.int p0), .val (.int kk), .val (.int (1 : Int32)), .val (.int (0 : Int32)), .val (.int (0 : Int32)), .val (.int (0 : Int32)), .unset] [])) (fun t k => XS.istore X0.here hx rfl (hb hby at_68) rfl (l' := #[.val (.int p0), .val (.int kk), .val (.int (1 : Int32)), .val (.int (0 : Int32)), .val (.int (0 : Int32)), .val (.int (0 : Int32)), .unset]) rfl k) ?_
              refine Go.on (g' := (mkF m 71 _ [(.int (1 : Int32))])) (fun t k => XS.iloadN X0.here hx rfl (hb hby at_70) rfl k) ?_
              refine Go.ifc X0 hx hby at_71 (pcT := 88) (pcF := 74) (by decide) (by decide) rfl (fun q => ?_) (fun q => absurd q (by decide))
              clear q
              show Go p e below _ _ (mkF m 88 _ [])
              refine Go.on (g' := (mkF m 89 _ [(.int (1 : Int32))])) (fun t k => XS.iconst X0.here hx rfl (hb hby at_88) k) ?_
              refine Go.on (g' := (mkF m 93 _ [(.int (1 : Int32))])) (fun t k => XS.goto X0.here hx rfl (pc0 := 89) (pc' := 93) rfl (hb hby at_89) (by decide) (by decide) k) ?_
              refine Go.on (g' := (mkF m 95 #[.val (.int p0), .val (.int kk), .val (.int (1 : Int32)), .val (.int (0 : Int32)), .val (.int (0 : Int32)), .val (.int (0 : Int32)), .val (.int (1 : Int32))] [])) (fun t k => XS.istore X0.here hx rfl (hb hby at_93) rfl (l' := #[.val (.int p0), .val (.int kk), .val (.int (1 : Int32)), .val (.int (0 : Int32)), .val (.int (0 : Int32)), .val (.int (0 : Int32)), .val (.int (1 : Int32))]) rfl k) ?_
              refine Go.on (g' := (mkF m 96 _ [(.int kk)])) (fun t k => XS.iloadN X0.here hx rfl (hb hby at_95) rfl k) ?_
              refine Go.callS X0 hx hZ hby (by rw [hml]; rfl) (y := (⟨"com/example/cantilever/cantilever/http/Headers", "isFieldValueChar", "(C)Z"⟩ : MethodName)) hown (hw _ (List.mem_of_getElem? (i := 1) rfl)) (hw _ (List.mem_of_getElem? (i := 2) rfl)) (hw _ (List.mem_of_getElem? (i := 3) rfl)) (hw _ (List.mem_of_getElem? (i := 4) rfl)) (by decide) (argsL := [(.int kk)]) (rest := []) (rmB l Z w0 hw [] kk h0) e0 0 (by decide) (by decide) (by decide) (by decide) rfl pdB rfl (Nat.le_of_eq rfl) at_96 (pcF := 99) rfl ?_
              intro v23 T23 L23 X23 hQ23
              obtain ⟨rfl, rfl, e23⟩ := hQ23
              rw [List.append_nil] at X23
              show Go p e below _ _ (mkF m 99 _ [(.int (own_f kk))])
              refine Go.on (g' := (mkF m 101 _ [(.int (1 : Int32)), (.int (own_f kk))])) (fun t k => XS.iload X23.here hx rfl (hb hby at_99) rfl k) ?_
              refine Go.icmp X23 hx hby at_101 (pcT := 108) (pcF := 104) (by decide) (by decide) rfl (fun q => absurd q (fun q => (iNe.1 q) (own_1 kk (Or.inl q1)))) (fun q => ?_)
              clear q
              show Go p e below _ _ (mkF m 104 _ [])
              refine Go.on (g' := (mkF m 105 _ [(.int (1 : Int32))])) (fun t k => XS.iconst X23.here hx rfl (hb hby at_104) k) ?_
              refine Go.on (g' := (mkF m 109 _ [(.int (1 : Int32))])) (fun t k => XS.goto X23.here hx rfl (pc0 := 105) (pc' := 109) rfl (hb hby at_105) (by decide) (by decide) k) ?_
              exact Go.retI X23 hx hlk hret hby at_109 rfl (by simp) (by decide) (by decide) ⟨rfl, N0⟩
            · have q25 := iGt.2 q
              clear q
              show Go p e below _ _ (mkF m 63 _ [])
              refine Go.on (g' := (mkF m 64 _ [(.int (1 : Int32))])) (fun t k => XS.iconst X0.here hx rfl (hb hby at_63) k) ?_
              refine Go.on (g' := (mkF m 68 _ [(.int (1 : Int32))])) (fun t k => XS.goto X0.here hx rfl (pc0 := 64) (pc' := 68) rfl (hb hby at_64) (by decide) (by decide) k) ?_
              refine Go.on (g' := (mkF m 70 #[.val (.int p0), .val (.int kk), .val (.int (1 : Int32)), .val (.int (0 : Int32)), .val (.int (0 : Int32)), .val (.int (1 : Int32)), .unset] [])) (fun t k => XS.istore X0.here hx rfl (hb hby at_68) rfl (l' := #[.val (.int p0), .val (.int kk), .val (.int (1 : Int32)), .val (.int (0 : Int32)), .val (.int (0 : Int32)), .val (.int (1 : Int32)), .unset]) rfl k) ?_
              refine Go.on (g' := (mkF m 71 _ [(.int (1 : Int32))])) (fun t k => XS.iloadN X0.here hx rfl (hb hby at_70) rfl k) ?_
              refine Go.ifc X0 hx hby at_71 (pcT := 88) (pcF := 74) (by decide) (by decide) rfl (fun q => ?_) (fun q => absurd q (by decide))
              clear q
              show Go p e below _ _ (mkF m 88 _ [])
              refine Go.on (g' := (mkF m 89 _ [(.int (1 : Int32))])) (fun t k => XS.iconst X0.here hx rfl (hb hby at_88) k) ?_
              refine Go.on (g' := (mkF m 93 _ [(.int (1 : Int32))])) (fun t k => XS.goto X0.here hx rfl (pc0 := 89) (pc' := 93) rfl (hb hby at_89) (by decide) (by decide) k) ?_
              refine Go.on (g' := (mkF m 95 #[.val (.int p0), .val (.int kk), .val (.int (1 : Int32)), .val (.int (0 : Int32)), .val (.int (0 : Int32)), .val (.int (1 : Int32)), .val (.int (1 : Int32))] [])) (fun t k => XS.istore X0.here hx rfl (hb hby at_93) rfl (l' := #[.val (.int p0), .val (.int kk), .val (.int (1 : Int32)), .val (.int (0 : Int32)), .val (.int (0 : Int32)), .val (.int (1 : Int32)), .val (.int (1 : Int32))]) rfl k) ?_
              refine Go.on (g' := (mkF m 96 _ [(.int kk)])) (fun t k => XS.iloadN X0.here hx rfl (hb hby at_95) rfl k) ?_
              refine Go.callS X0 hx hZ hby (by rw [hml]; rfl) (y := (⟨"com/example/cantilever/cantilever/http/Headers", "isFieldValueChar", "(C)Z"⟩ : MethodName)) hown (hw _ (List.mem_of_getElem? (i := 1) rfl)) (hw _ (List.mem_of_getElem? (i := 2) rfl)) (hw _ (List.mem_of_getElem? (i := 3) rfl)) (hw _ (List.mem_of_getElem? (i := 4) rfl)) (by decide) (argsL := [(.int kk)]) (rest := []) (rmB l Z w0 hw [] kk h0) e0 0 (by decide) (by decide) (by decide) (by decide) rfl pdB rfl (Nat.le_of_eq rfl) at_96 (pcF := 99) rfl ?_
              intro v24 T24 L24 X24 hQ24
              obtain ⟨rfl, rfl, e24⟩ := hQ24
              rw [List.append_nil] at X24
              show Go p e below _ _ (mkF m 99 _ [(.int (own_f kk))])
              refine Go.on (g' := (mkF m 101 _ [(.int (1 : Int32)), (.int (own_f kk))])) (fun t k => XS.iload X24.here hx rfl (hb hby at_99) rfl k) ?_
              refine Go.icmp X24 hx hby at_101 (pcT := 108) (pcF := 104) (by decide) (by decide) rfl (fun q => absurd q (fun q => (iNe.1 q) (own_1 kk (Or.inl q1)))) (fun q => ?_)
              clear q
              show Go p e below _ _ (mkF m 104 _ [])
              refine Go.on (g' := (mkF m 105 _ [(.int (1 : Int32))])) (fun t k => XS.iconst X24.here hx rfl (hb hby at_104) k) ?_
              refine Go.on (g' := (mkF m 109 _ [(.int (1 : Int32))])) (fun t k => XS.goto X24.here hx rfl (pc0 := 105) (pc' := 109) rfl (hb hby at_105) (by decide) (by decide) k) ?_
              exact Go.retI X24 hx hlk hret hby at_109 rfl (by simp) (by decide) (by decide) ⟨rfl, N0⟩
        · have q23 := iGt.2 q
          clear q
          show Go p e below _ _ (mkF m 42 _ [])
          refine Go.on (g' := (mkF m 43 _ [(.int (1 : Int32))])) (fun t k => XS.iconst X0.here hx rfl (hb hby at_42) k) ?_
          refine Go.on (g' := (mkF m 47 _ [(.int (1 : Int32))])) (fun t k => XS.goto X0.here hx rfl (pc0 := 43) (pc' := 47) rfl (hb hby at_43) (by decide) (by decide) k) ?_
          refine Go.on (g' := (mkF m 49 #[.val (.int p0), .val (.int kk), .val (.int (1 : Int32)), .val (.int (0 : Int32)), .val (.int (1 : Int32)), .unset, .unset] [])) (fun t k => XS.istore X0.here hx rfl (hb hby at_47) rfl (l' := #[.val (.int p0), .val (.int kk), .val (.int (1 : Int32)), .val (.int (0 : Int32)), .val (.int (1 : Int32)), .unset, .unset]) rfl k) ?_
          refine Go.on (g' := (mkF m 50 _ [(.int kk)])) (fun t k => XS.iloadN X0.here hx rfl (hb hby at_49) rfl k) ?_
          refine Go.on (g' := (mkF m 53 _ [(.int (128 : Int32)), (.int kk)])) (fun t k => XS.sipush X0.here hx rfl (hb hby at_50) k) ?_
          refine Go.icmp X0 hx hby at_53 (pcT := 67) (pcF := 56) (by decide) (by decide) rfl (fun q => ?_) (fun q => ?_)
          · have q26 := iLt.1 q
            clear q
            show Go p e below _ _ (mkF m 67 _ [])
            refine Go.on (g' := (mkF m 68 _ [(.int (0 : Int32))])) (fun t k => XS.iconst X0.here hx rfl (hb hby at_67) k) ?_
            refine Go.on (g' := (mkF m 70 #[.val (.int p0), .val (.int kk), .val (.int (1 : Int32)), .val (.int (0 : Int32)), .val (.int (1 : Int32)), .val (.int (0 : Int32)), .unset] [])) (fun t k => XS.istore X0.here hx rfl (hb hby at_68) rfl (l' := #[.val (.int p0), .val (.int kk), .val (.int (1 : Int32)), .val (.int (0 : Int32)), .val (.int (1 : Int32)), .val (.int (0 : Int32)), .unset]) rfl k) ?_
            refine Go.on (g' := (mkF m 71 _ [(.int (1 : Int32))])) (fun t k => XS.iloadN X0.here hx rfl (hb hby at_70) rfl k) ?_
            refine Go.ifc X0 hx hby at_71 (pcT := 88) (pcF := 74) (by decide) (by decide) rfl (fun q => ?_) (fun q => absurd q (by decide))
            clear q
            show Go p e below _ _ (mkF m 88 _ [])
            refine Go.on (g' := (mkF m 89 _ [(.int (1 : Int32))])) (fun t k => XS.iconst X0.here hx rfl (hb hby at_88) k) ?_
            refine Go.on (g' := (mkF m 93 _ [(.int (1 : Int32))])) (fun t k => XS.goto X0.here hx rfl (pc0 := 89) (pc' := 93) rfl (hb hby at_89) (by decide) (by decide) k) ?_
            refine Go.on (g' := (mkF m 95 #[.val (.int p0), .val (.int kk), .val (.int (1 : Int32)), .val (.int (0 : Int32)), .val (.int (1 : Int32)), .val (.int (0 : Int32)), .val (.int (1 : Int32))] [])) (fun t k => XS.istore X0.here hx rfl (hb hby at_93) rfl (l' := #[.val (.int p0), .val (.int kk), .val (.int (1 : Int32)), .val (.int (0 : Int32)), .val (.int (1 : Int32)), .val (.int (0 : Int32)), .val (.int (1 : Int32))]) rfl k) ?_
            refine Go.on (g' := (mkF m 96 _ [(.int kk)])) (fun t k => XS.iloadN X0.here hx rfl (hb hby at_95) rfl k) ?_
            refine Go.callS X0 hx hZ hby (by rw [hml]; rfl) (y := (⟨"com/example/cantilever/cantilever/http/Headers", "isFieldValueChar", "(C)Z"⟩ : MethodName)) hown (hw _ (List.mem_of_getElem? (i := 1) rfl)) (hw _ (List.mem_of_getElem? (i := 2) rfl)) (hw _ (List.mem_of_getElem? (i := 3) rfl)) (hw _ (List.mem_of_getElem? (i := 4) rfl)) (by decide) (argsL := [(.int kk)]) (rest := []) (rmB l Z w0 hw [] kk h0) e0 0 (by decide) (by decide) (by decide) (by decide) rfl pdB rfl (Nat.le_of_eq rfl) at_96 (pcF := 99) rfl ?_
            intro v25 T25 L25 X25 hQ25
            obtain ⟨rfl, rfl, e25⟩ := hQ25
            rw [List.append_nil] at X25
            show Go p e below _ _ (mkF m 99 _ [(.int (own_f kk))])
            refine Go.on (g' := (mkF m 101 _ [(.int (1 : Int32)), (.int (own_f kk))])) (fun t k => XS.iload X25.here hx rfl (hb hby at_99) rfl k) ?_
            refine Go.icmp X25 hx hby at_101 (pcT := 108) (pcF := 104) (by decide) (by decide) rfl (fun q => absurd q (fun q => (iNe.1 q) (own_1 kk (Or.inl q1)))) (fun q => ?_)
            clear q
            show Go p e below _ _ (mkF m 104 _ [])
            refine Go.on (g' := (mkF m 105 _ [(.int (1 : Int32))])) (fun t k => XS.iconst X25.here hx rfl (hb hby at_104) k) ?_
            refine Go.on (g' := (mkF m 109 _ [(.int (1 : Int32))])) (fun t k => XS.goto X25.here hx rfl (pc0 := 105) (pc' := 109) rfl (hb hby at_105) (by decide) (by decide) k) ?_
            exact Go.retI X25 hx hlk hret hby at_109 rfl (by simp) (by decide) (by decide) ⟨rfl, N0⟩
          · have q26 := iLt.2 q
            clear q
            show Go p e below _ _ (mkF m 56 _ [])
            refine Go.on (g' := (mkF m 57 _ [(.int kk)])) (fun t k => XS.iloadN X0.here hx rfl (hb hby at_56) rfl k) ?_
            refine Go.on (g' := (mkF m 60 _ [(.int (255 : Int32)), (.int kk)])) (fun t k => XS.sipush X0.here hx rfl (hb hby at_57) k) ?_
            refine Go.icmp X0 hx hby at_60 (pcT := 67) (pcF := 63) (by decide) (by decide) rfl (fun q => ?_) (fun q => ?_)
            · have q27 := iGt.1 q
              clear q
              show Go p e below _ _ (mkF m 67 _ [])
              refine Go.on (g' := (mkF m 68 _ [(.int (0 : Int32))])) (fun t k => XS.iconst X0.here hx rfl (hb hby at_67) k) ?_
              refine Go.on (g' := (mkF m 70 #[.val (.int p0), .val (.int kk), .val (.int (1 : Int32)), .val (.int (0 : Int32)), .val (.int (1 : Int32)), .val (.int (0 : Int32)), .unset] [])) (fun t k => XS.istore X0.here hx rfl (hb hby at_68) rfl (l' := #[.val (.int p0), .val (.int kk), .val (.int (1 : Int32)), .val (.int (0 : Int32)), .val (.int (1 : Int32)), .val (.int (0 : Int32)), .unset]) rfl k) ?_
              refine Go.on (g' := (mkF m 71 _ [(.int (1 : Int32))])) (fun t k => XS.iloadN X0.here hx rfl (hb hby at_70) rfl k) ?_
              refine Go.ifc X0 hx hby at_71 (pcT := 88) (pcF := 74) (by decide) (by decide) rfl (fun q => ?_) (fun q => absurd q (by decide))
              clear q
              show Go p e below _ _ (mkF m 88 _ [])
              refine Go.on (g' := (mkF m 89 _ [(.int (1 : Int32))])) (fun t k => XS.iconst X0.here hx rfl (hb hby at_88) k) ?_
              refine Go.on (g' := (mkF m 93 _ [(.int (1 : Int32))])) (fun t k => XS.goto X0.here hx rfl (pc0 := 89) (pc' := 93) rfl (hb hby at_89) (by decide) (by decide) k) ?_
              refine Go.on (g' := (mkF m 95 #[.val (.int p0), .val (.int kk), .val (.int (1 : Int32)), .val (.int (0 : Int32)), .val (.int (1 : Int32)), .val (.int (0 : Int32)), .val (.int (1 : Int32))] [])) (fun t k => XS.istore X0.here hx rfl (hb hby at_93) rfl (l' := #[.val (.int p0), .val (.int kk), .val (.int (1 : Int32)), .val (.int (0 : Int32)), .val (.int (1 : Int32)), .val (.int (0 : Int32)), .val (.int (1 : Int32))]) rfl k) ?_
              refine Go.on (g' := (mkF m 96 _ [(.int kk)])) (fun t k => XS.iloadN X0.here hx rfl (hb hby at_95) rfl k) ?_
              refine Go.callS X0 hx hZ hby (by rw [hml]; rfl) (y := (⟨"com/example/cantilever/cantilever/http/Headers", "isFieldValueChar", "(C)Z"⟩ : MethodName)) hown (hw _ (List.mem_of_getElem? (i := 1) rfl)) (hw _ (List.mem_of_getElem? (i := 2) rfl)) (hw _ (List.mem_of_getElem? (i := 3) rfl)) (hw _ (List.mem_of_getElem? (i := 4) rfl)) (by decide) (argsL := [(.int kk)]) (rest := []) (rmB l Z w0 hw [] kk h0) e0 0 (by decide) (by decide) (by decide) (by decide) rfl pdB rfl (Nat.le_of_eq rfl) at_96 (pcF := 99) rfl ?_
              intro v26 T26 L26 X26 hQ26
              obtain ⟨rfl, rfl, e26⟩ := hQ26
              rw [List.append_nil] at X26
              show Go p e below _ _ (mkF m 99 _ [(.int (own_f kk))])
              refine Go.on (g' := (mkF m 101 _ [(.int (1 : Int32)), (.int (own_f kk))])) (fun t k => XS.iload X26.here hx rfl (hb hby at_99) rfl k) ?_
              refine Go.icmp X26 hx hby at_101 (pcT := 108) (pcF := 104) (by decide) (by decide) rfl (fun q => absurd q (fun q => (iNe.1 q) (own_1 kk (Or.inl q1)))) (fun q => ?_)
              clear q
              show Go p e below _ _ (mkF m 104 _ [])
              refine Go.on (g' := (mkF m 105 _ [(.int (1 : Int32))])) (fun t k => XS.iconst X26.here hx rfl (hb hby at_104) k) ?_
              refine Go.on (g' := (mkF m 109 _ [(.int (1 : Int32))])) (fun t k => XS.goto X26.here hx rfl (pc0 := 105) (pc' := 109) rfl (hb hby at_105) (by decide) (by decide) k) ?_
              exact Go.retI X26 hx hlk hret hby at_109 rfl (by simp) (by decide) (by decide) ⟨rfl, N0⟩
            · have q27 := iGt.2 q
              clear q
              show Go p e below _ _ (mkF m 63 _ [])
              refine Go.on (g' := (mkF m 64 _ [(.int (1 : Int32))])) (fun t k => XS.iconst X0.here hx rfl (hb hby at_63) k) ?_
              refine Go.on (g' := (mkF m 68 _ [(.int (1 : Int32))])) (fun t k => XS.goto X0.here hx rfl (pc0 := 64) (pc' := 68) rfl (hb hby at_64) (by decide) (by decide) k) ?_
              refine Go.on (g' := (mkF m 70 #[.val (.int p0), .val (.int kk), .val (.int (1 : Int32)), .val (.int (0 : Int32)), .val (.int (1 : Int32)), .val (.int (1 : Int32)), .unset] [])) (fun t k => XS.istore X0.here hx rfl (hb hby at_68) rfl (l' := #[.val (.int p0), .val (.int kk), .val (.int (1 : Int32)), .val (.int (0 : Int32)), .val (.int (1 : Int32)), .val (.int (1 : Int32)), .unset]) rfl k) ?_
              refine Go.on (g' := (mkF m 71 _ [(.int (1 : Int32))])) (fun t k => XS.iloadN X0.here hx rfl (hb hby at_70) rfl k) ?_
              refine Go.ifc X0 hx hby at_71 (pcT := 88) (pcF := 74) (by decide) (by decide) rfl (fun q => ?_) (fun q => absurd q (by decide))
              clear q
              show Go p e below _ _ (mkF m 88 _ [])
              refine Go.on (g' := (mkF m 89 _ [(.int (1 : Int32))])) (fun t k => XS.iconst X0.here hx rfl (hb hby at_88) k) ?_
              refine Go.on (g' := (mkF m 93 _ [(.int (1 : Int32))])) (fun t k => XS.goto X0.here hx rfl (pc0 := 89) (pc' := 93) rfl (hb hby at_89) (by decide) (by decide) k) ?_
              refine Go.on (g' := (mkF m 95 #[.val (.int p0), .val (.int kk), .val (.int (1 : Int32)), .val (.int (0 : Int32)), .val (.int (1 : Int32)), .val (.int (1 : Int32)), .val (.int (1 : Int32))] [])) (fun t k => XS.istore X0.here hx rfl (hb hby at_93) rfl (l' := #[.val (.int p0), .val (.int kk), .val (.int (1 : Int32)), .val (.int (0 : Int32)), .val (.int (1 : Int32)), .val (.int (1 : Int32)), .val (.int (1 : Int32))]) rfl k) ?_
              refine Go.on (g' := (mkF m 96 _ [(.int kk)])) (fun t k => XS.iloadN X0.here hx rfl (hb hby at_95) rfl k) ?_
              refine Go.callS X0 hx hZ hby (by rw [hml]; rfl) (y := (⟨"com/example/cantilever/cantilever/http/Headers", "isFieldValueChar", "(C)Z"⟩ : MethodName)) hown (hw _ (List.mem_of_getElem? (i := 1) rfl)) (hw _ (List.mem_of_getElem? (i := 2) rfl)) (hw _ (List.mem_of_getElem? (i := 3) rfl)) (hw _ (List.mem_of_getElem? (i := 4) rfl)) (by decide) (argsL := [(.int kk)]) (rest := []) (rmB l Z w0 hw [] kk h0) e0 0 (by decide) (by decide) (by decide) (by decide) rfl pdB rfl (Nat.le_of_eq rfl) at_96 (pcF := 99) rfl ?_
              intro v27 T27 L27 X27 hQ27
              obtain ⟨rfl, rfl, e27⟩ := hQ27
              rw [List.append_nil] at X27
              show Go p e below _ _ (mkF m 99 _ [(.int (own_f kk))])
              refine Go.on (g' := (mkF m 101 _ [(.int (1 : Int32)), (.int (own_f kk))])) (fun t k => XS.iload X27.here hx rfl (hb hby at_99) rfl k) ?_
              refine Go.icmp X27 hx hby at_101 (pcT := 108) (pcF := 104) (by decide) (by decide) rfl (fun q => absurd q (fun q => (iNe.1 q) (own_1 kk (Or.inl q1)))) (fun q => ?_)
              clear q
              show Go p e below _ _ (mkF m 104 _ [])
              refine Go.on (g' := (mkF m 105 _ [(.int (1 : Int32))])) (fun t k => XS.iconst X27.here hx rfl (hb hby at_104) k) ?_
              refine Go.on (g' := (mkF m 109 _ [(.int (1 : Int32))])) (fun t k => XS.goto X27.here hx rfl (pc0 := 105) (pc' := 109) rfl (hb hby at_105) (by decide) (by decide) k) ?_
              exact Go.retI X27 hx hlk hret hby at_109 rfl (by simp) (by decide) (by decide) ⟨rfl, N0⟩
    · have q19 := iNe.2 q
      clear q
      show Go p e below _ _ (mkF m 24 _ [])
      refine Go.on (g' := (mkF m 25 _ [(.int (1 : Int32))])) (fun t k => XS.iconst X0.here hx rfl (hb hby at_24) k) ?_
      refine Go.on (g' := (mkF m 29 _ [(.int (1 : Int32))])) (fun t k => XS.goto X0.here hx rfl (pc0 := 25) (pc' := 29) rfl (hb hby at_25) (by decide) (by decide) k) ?_
      refine Go.on (g' := (mkF m 30 #[.val (.int p0), .val (.int kk), .val (.int (1 : Int32)), .val (.int (1 : Int32)), .unset, .unset, .unset] [])) (fun t k => XS.istoreN X0.here hx rfl (hb hby at_29) rfl (l' := #[.val (.int p0), .val (.int kk), .val (.int (1 : Int32)), .val (.int (1 : Int32)), .unset, .unset, .unset]) rfl k) ?_
      refine Go.on (g' := (mkF m 31 _ [(.int kk)])) (fun t k => XS.iloadN X0.here hx rfl (hb hby at_30) rfl k) ?_
      refine Go.on (g' := (mkF m 33 _ [(.int (33 : Int32)), (.int kk)])) (fun t k => XS.bipush X0.here hx rfl (hb hby at_31) k) ?_
      refine Go.icmp X0 hx hby at_33 (pcT := 46) (pcF := 36) (by decide) (by decide) rfl (fun q => ?_) (fun q => ?_)
      · have q28 := iLt.1 q
        clear q
        show Go p e below _ _ (mkF m 46 _ [])
        refine Go.on (g' := (mkF m 47 _ [(.int (0 : Int32))])) (fun t k => XS.iconst X0.here hx rfl (hb hby at_46) k) ?_
        refine Go.on (g' := (mkF m 49 #[.val (.int p0), .val (.int kk), .val (.int (1 : Int32)), .val (.int (1 : Int32)), .val (.int (0 : Int32)), .unset, .unset] [])) (fun t k => XS.istore X0.here hx rfl (hb hby at_47) rfl (l' := #[.val (.int p0), .val (.int kk), .val (.int (1 : Int32)), .val (.int (1 : Int32)), .val (.int (0 : Int32)), .unset, .unset]) rfl k) ?_
        refine Go.on (g' := (mkF m 50 _ [(.int kk)])) (fun t k => XS.iloadN X0.here hx rfl (hb hby at_49) rfl k) ?_
        refine Go.on (g' := (mkF m 53 _ [(.int (128 : Int32)), (.int kk)])) (fun t k => XS.sipush X0.here hx rfl (hb hby at_50) k) ?_
        refine Go.icmp X0 hx hby at_53 (pcT := 67) (pcF := 56) (by decide) (by decide) rfl (fun q => ?_) (fun q => ?_)
        · have q29 := iLt.1 q
          clear q
          show Go p e below _ _ (mkF m 67 _ [])
          refine Go.on (g' := (mkF m 68 _ [(.int (0 : Int32))])) (fun t k => XS.iconst X0.here hx rfl (hb hby at_67) k) ?_
          refine Go.on (g' := (mkF m 70 #[.val (.int p0), .val (.int kk), .val (.int (1 : Int32)), .val (.int (1 : Int32)), .val (.int (0 : Int32)), .val (.int (0 : Int32)), .unset] [])) (fun t k => XS.istore X0.here hx rfl (hb hby at_68) rfl (l' := #[.val (.int p0), .val (.int kk), .val (.int (1 : Int32)), .val (.int (1 : Int32)), .val (.int (0 : Int32)), .val (.int (0 : Int32)), .unset]) rfl k) ?_
          refine Go.on (g' := (mkF m 71 _ [(.int (1 : Int32))])) (fun t k => XS.iloadN X0.here hx rfl (hb hby at_70) rfl k) ?_
          refine Go.ifc X0 hx hby at_71 (pcT := 88) (pcF := 74) (by decide) (by decide) rfl (fun q => ?_) (fun q => absurd q (by decide))
          clear q
          show Go p e below _ _ (mkF m 88 _ [])
          refine Go.on (g' := (mkF m 89 _ [(.int (1 : Int32))])) (fun t k => XS.iconst X0.here hx rfl (hb hby at_88) k) ?_
          refine Go.on (g' := (mkF m 93 _ [(.int (1 : Int32))])) (fun t k => XS.goto X0.here hx rfl (pc0 := 89) (pc' := 93) rfl (hb hby at_89) (by decide) (by decide) k) ?_
          refine Go.on (g' := (mkF m 95 #[.val (.int p0), .val (.int kk), .val (.int (1 : Int32)), .val (.int (1 : Int32)), .val (.int (0 : Int32)), .val (.int (0 : Int32)), .val (.int (1 : Int32))] [])) (fun t k => XS.istore X0.here hx rfl (hb hby at_93) rfl (l' := #[.val (.int p0), .val (.int kk), .val (.int (1 : Int32)), .val (.int (1 : Int32)), .val (.int (0 : Int32)), .val (.int (0 : Int32)), .val (.int (1 : Int32))]) rfl k) ?_
          refine Go.on (g' := (mkF m 96 _ [(.int kk)])) (fun t k => XS.iloadN X0.here hx rfl (hb hby at_95) rfl k) ?_
          refine Go.callS X0 hx hZ hby (by rw [hml]; rfl) (y := (⟨"com/example/cantilever/cantilever/http/Headers", "isFieldValueChar", "(C)Z"⟩ : MethodName)) hown (hw _ (List.mem_of_getElem? (i := 1) rfl)) (hw _ (List.mem_of_getElem? (i := 2) rfl)) (hw _ (List.mem_of_getElem? (i := 3) rfl)) (hw _ (List.mem_of_getElem? (i := 4) rfl)) (by decide) (argsL := [(.int kk)]) (rest := []) (rmB l Z w0 hw [] kk h0) e0 0 (by decide) (by decide) (by decide) (by decide) rfl pdB rfl (Nat.le_of_eq rfl) at_96 (pcF := 99) rfl ?_
          intro v28 T28 L28 X28 hQ28
          obtain ⟨rfl, rfl, e28⟩ := hQ28
          rw [List.append_nil] at X28
          show Go p e below _ _ (mkF m 99 _ [(.int (own_f kk))])
          refine Go.on (g' := (mkF m 101 _ [(.int (1 : Int32)), (.int (own_f kk))])) (fun t k => XS.iload X28.here hx rfl (hb hby at_99) rfl k) ?_
          refine Go.icmp X28 hx hby at_101 (pcT := 108) (pcF := 104) (by decide) (by decide) rfl (fun q => absurd q (fun q => (iNe.1 q) (own_1 kk (Or.inl q1)))) (fun q => ?_)
          clear q
          show Go p e below _ _ (mkF m 104 _ [])
          refine Go.on (g' := (mkF m 105 _ [(.int (1 : Int32))])) (fun t k => XS.iconst X28.here hx rfl (hb hby at_104) k) ?_
          refine Go.on (g' := (mkF m 109 _ [(.int (1 : Int32))])) (fun t k => XS.goto X28.here hx rfl (pc0 := 105) (pc' := 109) rfl (hb hby at_105) (by decide) (by decide) k) ?_
          exact Go.retI X28 hx hlk hret hby at_109 rfl (by simp) (by decide) (by decide) ⟨rfl, N0⟩
        · have q29 := iLt.2 q
          clear q
          show Go p e below _ _ (mkF m 56 _ [])
          refine Go.on (g' := (mkF m 57 _ [(.int kk)])) (fun t k => XS.iloadN X0.here hx rfl (hb hby at_56) rfl k) ?_
          refine Go.on (g' := (mkF m 60 _ [(.int (255 : Int32)), (.int kk)])) (fun t k => XS.sipush X0.here hx rfl (hb hby at_57) k) ?_
          refine Go.icmp X0 hx hby at_60 (pcT := 67) (pcF := 63) (by decide) (by decide) rfl (fun q => ?_) (fun q => ?_)
          · have q30 := iGt.1 q
            clear q
            show Go p e below _ _ (mkF m 67 _ [])
            refine Go.on (g' := (mkF m 68 _ [(.int (0 : Int32))])) (fun t k => XS.iconst X0.here hx rfl (hb hby at_67) k) ?_
            refine Go.on (g' := (mkF m 70 #[.val (.int p0), .val (.int kk), .val (.int (1 : Int32)), .val (.int (1 : Int32)), .val (.int (0 : Int32)), .val (.int (0 : Int32)), .unset] [])) (fun t k => XS.istore X0.here hx rfl (hb hby at_68) rfl (l' := #[.val (.int p0), .val (.int kk), .val (.int (1 : Int32)), .val (.int (1 : Int32)), .val (.int (0 : Int32)), .val (.int (0 : Int32)), .unset]) rfl k) ?_
            refine Go.on (g' := (mkF m 71 _ [(.int (1 : Int32))])) (fun t k => XS.iloadN X0.here hx rfl (hb hby at_70) rfl k) ?_
            refine Go.ifc X0 hx hby at_71 (pcT := 88) (pcF := 74) (by decide) (by decide) rfl (fun q => ?_) (fun q => absurd q (by decide))
            clear q
            show Go p e below _ _ (mkF m 88 _ [])
            refine Go.on (g' := (mkF m 89 _ [(.int (1 : Int32))])) (fun t k => XS.iconst X0.here hx rfl (hb hby at_88) k) ?_
            refine Go.on (g' := (mkF m 93 _ [(.int (1 : Int32))])) (fun t k => XS.goto X0.here hx rfl (pc0 := 89) (pc' := 93) rfl (hb hby at_89) (by decide) (by decide) k) ?_
            refine Go.on (g' := (mkF m 95 #[.val (.int p0), .val (.int kk), .val (.int (1 : Int32)), .val (.int (1 : Int32)), .val (.int (0 : Int32)), .val (.int (0 : Int32)), .val (.int (1 : Int32))] [])) (fun t k => XS.istore X0.here hx rfl (hb hby at_93) rfl (l' := #[.val (.int p0), .val (.int kk), .val (.int (1 : Int32)), .val (.int (1 : Int32)), .val (.int (0 : Int32)), .val (.int (0 : Int32)), .val (.int (1 : Int32))]) rfl k) ?_
            refine Go.on (g' := (mkF m 96 _ [(.int kk)])) (fun t k => XS.iloadN X0.here hx rfl (hb hby at_95) rfl k) ?_
            refine Go.callS X0 hx hZ hby (by rw [hml]; rfl) (y := (⟨"com/example/cantilever/cantilever/http/Headers", "isFieldValueChar", "(C)Z"⟩ : MethodName)) hown (hw _ (List.mem_of_getElem? (i := 1) rfl)) (hw _ (List.mem_of_getElem? (i := 2) rfl)) (hw _ (List.mem_of_getElem? (i := 3) rfl)) (hw _ (List.mem_of_getElem? (i := 4) rfl)) (by decide) (argsL := [(.int kk)]) (rest := []) (rmB l Z w0 hw [] kk h0) e0 0 (by decide) (by decide) (by decide) (by decide) rfl pdB rfl (Nat.le_of_eq rfl) at_96 (pcF := 99) rfl ?_
            intro v29 T29 L29 X29 hQ29
            obtain ⟨rfl, rfl, e29⟩ := hQ29
            rw [List.append_nil] at X29
            show Go p e below _ _ (mkF m 99 _ [(.int (own_f kk))])
            refine Go.on (g' := (mkF m 101 _ [(.int (1 : Int32)), (.int (own_f kk))])) (fun t k => XS.iload X29.here hx rfl (hb hby at_99) rfl k) ?_
            refine Go.icmp X29 hx hby at_101 (pcT := 108) (pcF := 104) (by decide) (by decide) rfl (fun q => absurd q (fun q => (iNe.1 q) (own_1 kk (Or.inl q1)))) (fun q => ?_)
            clear q
            show Go p e below _ _ (mkF m 104 _ [])
            refine Go.on (g' := (mkF m 105 _ [(.int (1 : Int32))])) (fun t k => XS.iconst X29.here hx rfl (hb hby at_104) k) ?_
            refine Go.on (g' := (mkF m 109 _ [(.int (1 : Int32))])) (fun t k => XS.goto X29.here hx rfl (pc0 := 105) (pc' := 109) rfl (hb hby at_105) (by decide) (by decide) k) ?_
            exact Go.retI X29 hx hlk hret hby at_109 rfl (by simp) (by decide) (by decide) ⟨rfl, N0⟩
          · have q30 := iGt.2 q
            clear q
            show Go p e below _ _ (mkF m 63 _ [])
            refine Go.on (g' := (mkF m 64 _ [(.int (1 : Int32))])) (fun t k => XS.iconst X0.here hx rfl (hb hby at_63) k) ?_
            refine Go.on (g' := (mkF m 68 _ [(.int (1 : Int32))])) (fun t k => XS.goto X0.here hx rfl (pc0 := 64) (pc' := 68) rfl (hb hby at_64) (by decide) (by decide) k) ?_
            refine Go.on (g' := (mkF m 70 #[.val (.int p0), .val (.int kk), .val (.int (1 : Int32)), .val (.int (1 : Int32)), .val (.int (0 : Int32)), .val (.int (1 : Int32)), .unset] [])) (fun t k => XS.istore X0.here hx rfl (hb hby at_68) rfl (l' := #[.val (.int p0), .val (.int kk), .val (.int (1 : Int32)), .val (.int (1 : Int32)), .val (.int (0 : Int32)), .val (.int (1 : Int32)), .unset]) rfl k) ?_
            refine Go.on (g' := (mkF m 71 _ [(.int (1 : Int32))])) (fun t k => XS.iloadN X0.here hx rfl (hb hby at_70) rfl k) ?_
            refine Go.ifc X0 hx hby at_71 (pcT := 88) (pcF := 74) (by decide) (by decide) rfl (fun q => ?_) (fun q => absurd q (by decide))
            clear q
            show Go p e below _ _ (mkF m 88 _ [])
            refine Go.on (g' := (mkF m 89 _ [(.int (1 : Int32))])) (fun t k => XS.iconst X0.here hx rfl (hb hby at_88) k) ?_
            refine Go.on (g' := (mkF m 93 _ [(.int (1 : Int32))])) (fun t k => XS.goto X0.here hx rfl (pc0 := 89) (pc' := 93) rfl (hb hby at_89) (by decide) (by decide) k) ?_
            refine Go.on (g' := (mkF m 95 #[.val (.int p0), .val (.int kk), .val (.int (1 : Int32)), .val (.int (1 : Int32)), .val (.int (0 : Int32)), .val (.int (1 : Int32)), .val (.int (1 : Int32))] [])) (fun t k => XS.istore X0.here hx rfl (hb hby at_93) rfl (l' := #[.val (.int p0), .val (.int kk), .val (.int (1 : Int32)), .val (.int (1 : Int32)), .val (.int (0 : Int32)), .val (.int (1 : Int32)), .val (.int (1 : Int32))]) rfl k) ?_
            refine Go.on (g' := (mkF m 96 _ [(.int kk)])) (fun t k => XS.iloadN X0.here hx rfl (hb hby at_95) rfl k) ?_
            refine Go.callS X0 hx hZ hby (by rw [hml]; rfl) (y := (⟨"com/example/cantilever/cantilever/http/Headers", "isFieldValueChar", "(C)Z"⟩ : MethodName)) hown (hw _ (List.mem_of_getElem? (i := 1) rfl)) (hw _ (List.mem_of_getElem? (i := 2) rfl)) (hw _ (List.mem_of_getElem? (i := 3) rfl)) (hw _ (List.mem_of_getElem? (i := 4) rfl)) (by decide) (argsL := [(.int kk)]) (rest := []) (rmB l Z w0 hw [] kk h0) e0 0 (by decide) (by decide) (by decide) (by decide) rfl pdB rfl (Nat.le_of_eq rfl) at_96 (pcF := 99) rfl ?_
            intro v30 T30 L30 X30 hQ30
            obtain ⟨rfl, rfl, e30⟩ := hQ30
            rw [List.append_nil] at X30
            show Go p e below _ _ (mkF m 99 _ [(.int (own_f kk))])
            refine Go.on (g' := (mkF m 101 _ [(.int (1 : Int32)), (.int (own_f kk))])) (fun t k => XS.iload X30.here hx rfl (hb hby at_99) rfl k) ?_
            refine Go.icmp X30 hx hby at_101 (pcT := 108) (pcF := 104) (by decide) (by decide) rfl (fun q => absurd q (fun q => (iNe.1 q) (own_1 kk (Or.inl q1)))) (fun q => ?_)
            clear q
            show Go p e below _ _ (mkF m 104 _ [])
            refine Go.on (g' := (mkF m 105 _ [(.int (1 : Int32))])) (fun t k => XS.iconst X30.here hx rfl (hb hby at_104) k) ?_
            refine Go.on (g' := (mkF m 109 _ [(.int (1 : Int32))])) (fun t k => XS.goto X30.here hx rfl (pc0 := 105) (pc' := 109) rfl (hb hby at_105) (by decide) (by decide) k) ?_
            exact Go.retI X30 hx hlk hret hby at_109 rfl (by simp) (by decide) (by decide) ⟨rfl, N0⟩
      · have q28 := iLt.2 q
        clear q
        show Go p e below _ _ (mkF m 36 _ [])
        refine Go.on (g' := (mkF m 37 _ [(.int kk)])) (fun t k => XS.iloadN X0.here hx rfl (hb hby at_36) rfl k) ?_
        refine Go.on (g' := (mkF m 39 _ [(.int (126 : Int32)), (.int kk)])) (fun t k => XS.bipush X0.here hx rfl (hb hby at_37) k) ?_
        refine Go.icmp X0 hx hby at_39 (pcT := 46) (pcF := 42) (by decide) (by decide) rfl (fun q => ?_) (fun q => ?_)
        · have q31 := iGt.1 q
          clear q
          show Go p e below _ _ (mkF m 46 _ [])
          refine Go.on (g' := (mkF m 47 _ [(.int (0 : Int32))])) (fun t k => XS.iconst X0.here hx rfl (hb hby at_46) k) ?_
          refine Go.on (g' := (mkF m 49 #[.val (.int p0), .val (.int kk), .val (.int (1 : Int32)), .val (.int (1 : Int32)), .val (.int (0 : Int32)), .unset, .unset] [])) (fun t k => XS.istore X0.here hx rfl (hb hby at_47) rfl (l' := #[.val (.int p0), .val (.int kk), .val (.int (1 : Int32)), .val (.int (1 : Int32)), .val (.int (0 : Int32)), .unset, .unset]) rfl k) ?_
          refine Go.on (g' := (mkF m 50 _ [(.int kk)])) (fun t k => XS.iloadN X0.here hx rfl (hb hby at_49) rfl k) ?_
          refine Go.on (g' := (mkF m 53 _ [(.int (128 : Int32)), (.int kk)])) (fun t k => XS.sipush X0.here hx rfl (hb hby at_50) k) ?_
          refine Go.icmp X0 hx hby at_53 (pcT := 67) (pcF := 56) (by decide) (by decide) rfl (fun q => ?_) (fun q => ?_)
          · have q32 := iLt.1 q
            clear q
            show Go p e below _ _ (mkF m 67 _ [])
            refine Go.on (g' := (mkF m 68 _ [(.int (0 : Int32))])) (fun t k => XS.iconst X0.here hx rfl (hb hby at_67) k) ?_
            refine Go.on (g' := (mkF m 70 #[.val (.int p0), .val (.int kk), .val (.int (1 : Int32)), .val (.int (1 : Int32)), .val (.int (0 : Int32)), .val (.int (0 : Int32)), .unset] [])) (fun t k => XS.istore X0.here hx rfl (hb hby at_68) rfl (l' := #[.val (.int p0), .val (.int kk), .val (.int (1 : Int32)), .val (.int (1 : Int32)), .val (.int (0 : Int32)), .val (.int (0 : Int32)), .unset]) rfl k) ?_
            refine Go.on (g' := (mkF m 71 _ [(.int (1 : Int32))])) (fun t k => XS.iloadN X0.here hx rfl (hb hby at_70) rfl k) ?_
            refine Go.ifc X0 hx hby at_71 (pcT := 88) (pcF := 74) (by decide) (by decide) rfl (fun q => ?_) (fun q => absurd q (by decide))
            clear q
            show Go p e below _ _ (mkF m 88 _ [])
            refine Go.on (g' := (mkF m 89 _ [(.int (1 : Int32))])) (fun t k => XS.iconst X0.here hx rfl (hb hby at_88) k) ?_
            refine Go.on (g' := (mkF m 93 _ [(.int (1 : Int32))])) (fun t k => XS.goto X0.here hx rfl (pc0 := 89) (pc' := 93) rfl (hb hby at_89) (by decide) (by decide) k) ?_
            refine Go.on (g' := (mkF m 95 #[.val (.int p0), .val (.int kk), .val (.int (1 : Int32)), .val (.int (1 : Int32)), .val (.int (0 : Int32)), .val (.int (0 : Int32)), .val (.int (1 : Int32))] [])) (fun t k => XS.istore X0.here hx rfl (hb hby at_93) rfl (l' := #[.val (.int p0), .val (.int kk), .val (.int (1 : Int32)), .val (.int (1 : Int32)), .val (.int (0 : Int32)), .val (.int (0 : Int32)), .val (.int (1 : Int32))]) rfl k) ?_
            refine Go.on (g' := (mkF m 96 _ [(.int kk)])) (fun t k => XS.iloadN X0.here hx rfl (hb hby at_95) rfl k) ?_
            refine Go.callS X0 hx hZ hby (by rw [hml]; rfl) (y := (⟨"com/example/cantilever/cantilever/http/Headers", "isFieldValueChar", "(C)Z"⟩ : MethodName)) hown (hw _ (List.mem_of_getElem? (i := 1) rfl)) (hw _ (List.mem_of_getElem? (i := 2) rfl)) (hw _ (List.mem_of_getElem? (i := 3) rfl)) (hw _ (List.mem_of_getElem? (i := 4) rfl)) (by decide) (argsL := [(.int kk)]) (rest := []) (rmB l Z w0 hw [] kk h0) e0 0 (by decide) (by decide) (by decide) (by decide) rfl pdB rfl (Nat.le_of_eq rfl) at_96 (pcF := 99) rfl ?_
            intro v31 T31 L31 X31 hQ31
            obtain ⟨rfl, rfl, e31⟩ := hQ31
            rw [List.append_nil] at X31
            show Go p e below _ _ (mkF m 99 _ [(.int (own_f kk))])
            refine Go.on (g' := (mkF m 101 _ [(.int (1 : Int32)), (.int (own_f kk))])) (fun t k => XS.iload X31.here hx rfl (hb hby at_99) rfl k) ?_
            refine Go.icmp X31 hx hby at_101 (pcT := 108) (pcF := 104) (by decide) (by decide) rfl (fun q => absurd q (fun q => (iNe.1 q) (own_1 kk (Or.inl q1)))) (fun q => ?_)
            clear q
            show Go p e below _ _ (mkF m 104 _ [])
            refine Go.on (g' := (mkF m 105 _ [(.int (1 : Int32))])) (fun t k => XS.iconst X31.here hx rfl (hb hby at_104) k) ?_
            refine Go.on (g' := (mkF m 109 _ [(.int (1 : Int32))])) (fun t k => XS.goto X31.here hx rfl (pc0 := 105) (pc' := 109) rfl (hb hby at_105) (by decide) (by decide) k) ?_
            exact Go.retI X31 hx hlk hret hby at_109 rfl (by simp) (by decide) (by decide) ⟨rfl, N0⟩
          · have q32 := iLt.2 q
            clear q
            show Go p e below _ _ (mkF m 56 _ [])
            refine Go.on (g' := (mkF m 57 _ [(.int kk)])) (fun t k => XS.iloadN X0.here hx rfl (hb hby at_56) rfl k) ?_
            refine Go.on (g' := (mkF m 60 _ [(.int (255 : Int32)), (.int kk)])) (fun t k => XS.sipush X0.here hx rfl (hb hby at_57) k) ?_
            refine Go.icmp X0 hx hby at_60 (pcT := 67) (pcF := 63) (by decide) (by decide) rfl (fun q => ?_) (fun q => ?_)
            · have q33 := iGt.1 q
              clear q
              show Go p e below _ _ (mkF m 67 _ [])
              refine Go.on (g' := (mkF m 68 _ [(.int (0 : Int32))])) (fun t k => XS.iconst X0.here hx rfl (hb hby at_67) k) ?_
              refine Go.on (g' := (mkF m 70 #[.val (.int p0), .val (.int kk), .val (.int (1 : Int32)), .val (.int (1 : Int32)), .val (.int (0 : Int32)), .val (.int (0 : Int32)), .unset] [])) (fun t k => XS.istore X0.here hx rfl (hb hby at_68) rfl (l' := #[.val (.int p0), .val (.int kk), .val (.int (1 : Int32)), .val (.int (1 : Int32)), .val (.int (0 : Int32)), .val (.int (0 : Int32)), .unset]) rfl k) ?_
              refine Go.on (g' := (mkF m 71 _ [(.int (1 : Int32))])) (fun t k => XS.iloadN X0.here hx rfl (hb hby at_70) rfl k) ?_
              refine Go.ifc X0 hx hby at_71 (pcT := 88) (pcF := 74) (by decide) (by decide) rfl (fun q => ?_) (fun q => absurd q (by decide))
              clear q
              show Go p e below _ _ (mkF m 88 _ [])
              refine Go.on (g' := (mkF m 89 _ [(.int (1 : Int32))])) (fun t k => XS.iconst X0.here hx rfl (hb hby at_88) k) ?_
              refine Go.on (g' := (mkF m 93 _ [(.int (1 : Int32))])) (fun t k => XS.goto X0.here hx rfl (pc0 := 89) (pc' := 93) rfl (hb hby at_89) (by decide) (by decide) k) ?_
              refine Go.on (g' := (mkF m 95 #[.val (.int p0), .val (.int kk), .val (.int (1 : Int32)), .val (.int (1 : Int32)), .val (.int (0 : Int32)), .val (.int (0 : Int32)), .val (.int (1 : Int32))] [])) (fun t k => XS.istore X0.here hx rfl (hb hby at_93) rfl (l' := #[.val (.int p0), .val (.int kk), .val (.int (1 : Int32)), .val (.int (1 : Int32)), .val (.int (0 : Int32)), .val (.int (0 : Int32)), .val (.int (1 : Int32))]) rfl k) ?_
              refine Go.on (g' := (mkF m 96 _ [(.int kk)])) (fun t k => XS.iloadN X0.here hx rfl (hb hby at_95) rfl k) ?_
              refine Go.callS X0 hx hZ hby (by rw [hml]; rfl) (y := (⟨"com/example/cantilever/cantilever/http/Headers", "isFieldValueChar", "(C)Z"⟩ : MethodName)) hown (hw _ (List.mem_of_getElem? (i := 1) rfl)) (hw _ (List.mem_of_getElem? (i := 2) rfl)) (hw _ (List.mem_of_getElem? (i := 3) rfl)) (hw _ (List.mem_of_getElem? (i := 4) rfl)) (by decide) (argsL := [(.int kk)]) (rest := []) (rmB l Z w0 hw [] kk h0) e0 0 (by decide) (by decide) (by decide) (by decide) rfl pdB rfl (Nat.le_of_eq rfl) at_96 (pcF := 99) rfl ?_
              intro v32 T32 L32 X32 hQ32
              obtain ⟨rfl, rfl, e32⟩ := hQ32
              rw [List.append_nil] at X32
              show Go p e below _ _ (mkF m 99 _ [(.int (own_f kk))])
              refine Go.on (g' := (mkF m 101 _ [(.int (1 : Int32)), (.int (own_f kk))])) (fun t k => XS.iload X32.here hx rfl (hb hby at_99) rfl k) ?_
              refine Go.icmp X32 hx hby at_101 (pcT := 108) (pcF := 104) (by decide) (by decide) rfl (fun q => absurd q (fun q => (iNe.1 q) (own_1 kk (Or.inl q1)))) (fun q => ?_)
              clear q
              show Go p e below _ _ (mkF m 104 _ [])
              refine Go.on (g' := (mkF m 105 _ [(.int (1 : Int32))])) (fun t k => XS.iconst X32.here hx rfl (hb hby at_104) k) ?_
              refine Go.on (g' := (mkF m 109 _ [(.int (1 : Int32))])) (fun t k => XS.goto X32.here hx rfl (pc0 := 105) (pc' := 109) rfl (hb hby at_105) (by decide) (by decide) k) ?_
              exact Go.retI X32 hx hlk hret hby at_109 rfl (by simp) (by decide) (by decide) ⟨rfl, N0⟩
            · have q33 := iGt.2 q
              clear q
              show Go p e below _ _ (mkF m 63 _ [])
              refine Go.on (g' := (mkF m 64 _ [(.int (1 : Int32))])) (fun t k => XS.iconst X0.here hx rfl (hb hby at_63) k) ?_
              refine Go.on (g' := (mkF m 68 _ [(.int (1 : Int32))])) (fun t k => XS.goto X0.here hx rfl (pc0 := 64) (pc' := 68) rfl (hb hby at_64) (by decide) (by decide) k) ?_
              refine Go.on (g' := (mkF m 70 #[.val (.int p0), .val (.int kk), .val (.int (1 : Int32)), .val (.int (1 : Int32)), .val (.int (0 : Int32)), .val (.int (1 : Int32)), .unset] [])) (fun t k => XS.istore X0.here hx rfl (hb hby at_68) rfl (l' := #[.val (.int p0), .val (.int kk), .val (.int (1 : Int32)), .val (.int (1 : Int32)), .val (.int (0 : Int32)), .val (.int (1 : Int32)), .unset]) rfl k) ?_
              refine Go.on (g' := (mkF m 71 _ [(.int (1 : Int32))])) (fun t k => XS.iloadN X0.here hx rfl (hb hby at_70) rfl k) ?_
              refine Go.ifc X0 hx hby at_71 (pcT := 88) (pcF := 74) (by decide) (by decide) rfl (fun q => ?_) (fun q => absurd q (by decide))
              clear q
              show Go p e below _ _ (mkF m 88 _ [])
              refine Go.on (g' := (mkF m 89 _ [(.int (1 : Int32))])) (fun t k => XS.iconst X0.here hx rfl (hb hby at_88) k) ?_
              refine Go.on (g' := (mkF m 93 _ [(.int (1 : Int32))])) (fun t k => XS.goto X0.here hx rfl (pc0 := 89) (pc' := 93) rfl (hb hby at_89) (by decide) (by decide) k) ?_
              refine Go.on (g' := (mkF m 95 #[.val (.int p0), .val (.int kk), .val (.int (1 : Int32)), .val (.int (1 : Int32)), .val (.int (0 : Int32)), .val (.int (1 : Int32)), .val (.int (1 : Int32))] [])) (fun t k => XS.istore X0.here hx rfl (hb hby at_93) rfl (l' := #[.val (.int p0), .val (.int kk), .val (.int (1 : Int32)), .val (.int (1 : Int32)), .val (.int (0 : Int32)), .val (.int (1 : Int32)), .val (.int (1 : Int32))]) rfl k) ?_
              refine Go.on (g' := (mkF m 96 _ [(.int kk)])) (fun t k => XS.iloadN X0.here hx rfl (hb hby at_95) rfl k) ?_
              refine Go.callS X0 hx hZ hby (by rw [hml]; rfl) (y := (⟨"com/example/cantilever/cantilever/http/Headers", "isFieldValueChar", "(C)Z"⟩ : MethodName)) hown (hw _ (List.mem_of_getElem? (i := 1) rfl)) (hw _ (List.mem_of_getElem? (i := 2) rfl)) (hw _ (List.mem_of_getElem? (i := 3) rfl)) (hw _ (List.mem_of_getElem? (i := 4) rfl)) (by decide) (argsL := [(.int kk)]) (rest := []) (rmB l Z w0 hw [] kk h0) e0 0 (by decide) (by decide) (by decide) (by decide) rfl pdB rfl (Nat.le_of_eq rfl) at_96 (pcF := 99) rfl ?_
              intro v33 T33 L33 X33 hQ33
              obtain ⟨rfl, rfl, e33⟩ := hQ33
              rw [List.append_nil] at X33
              show Go p e below _ _ (mkF m 99 _ [(.int (own_f kk))])
              refine Go.on (g' := (mkF m 101 _ [(.int (1 : Int32)), (.int (own_f kk))])) (fun t k => XS.iload X33.here hx rfl (hb hby at_99) rfl k) ?_
              refine Go.icmp X33 hx hby at_101 (pcT := 108) (pcF := 104) (by decide) (by decide) rfl (fun q => absurd q (fun q => (iNe.1 q) (own_1 kk (Or.inl q1)))) (fun q => ?_)
              clear q
              show Go p e below _ _ (mkF m 104 _ [])
              refine Go.on (g' := (mkF m 105 _ [(.int (1 : Int32))])) (fun t k => XS.iconst X33.here hx rfl (hb hby at_104) k) ?_
              refine Go.on (g' := (mkF m 109 _ [(.int (1 : Int32))])) (fun t k => XS.goto X33.here hx rfl (pc0 := 105) (pc' := 109) rfl (hb hby at_105) (by decide) (by decide) k) ?_
              exact Go.retI X33 hx hlk hret hby at_109 rfl (by simp) (by decide) (by decide) ⟨rfl, N0⟩
        · have q31 := iGt.2 q
          clear q
          show Go p e below _ _ (mkF m 42 _ [])
          refine Go.on (g' := (mkF m 43 _ [(.int (1 : Int32))])) (fun t k => XS.iconst X0.here hx rfl (hb hby at_42) k) ?_
          refine Go.on (g' := (mkF m 47 _ [(.int (1 : Int32))])) (fun t k => XS.goto X0.here hx rfl (pc0 := 43) (pc' := 47) rfl (hb hby at_43) (by decide) (by decide) k) ?_
          refine Go.on (g' := (mkF m 49 #[.val (.int p0), .val (.int kk), .val (.int (1 : Int32)), .val (.int (1 : Int32)), .val (.int (1 : Int32)), .unset, .unset] [])) (fun t k => XS.istore X0.here hx rfl (hb hby at_47) rfl (l' := #[.val (.int p0), .val (.int kk), .val (.int (1 : Int32)), .val (.int (1 : Int32)), .val (.int (1 : Int32)), .unset, .unset]) rfl k) ?_
          refine Go.on (g' := (mkF m 50 _ [(.int kk)])) (fun t k => XS.iloadN X0.here hx rfl (hb hby at_49) rfl k) ?_
          refine Go.on (g' := (mkF m 53 _ [(.int (128 : Int32)), (.int kk)])) (fun t k => XS.sipush X0.here hx rfl (hb hby at_50) k) ?_
          refine Go.icmp X0 hx hby at_53 (pcT := 67) (pcF := 56) (by decide) (by decide) rfl (fun q => ?_) (fun q => ?_)
          · have q34 := iLt.1 q
            clear q
            show Go p e below _ _ (mkF m 67 _ [])
            refine Go.on (g' := (mkF m 68 _ [(.int (0 : Int32))])) (fun t k => XS.iconst X0.here hx rfl (hb hby at_67) k) ?_
            refine Go.on (g' := (mkF m 70 #[.val (.int p0), .val (.int kk), .val (.int (1 : Int32)), .val (.int (1 : Int32)), .val (.int (1 : Int32)), .val (.int (0 : Int32)), .unset] [])) (fun t k => XS.istore X0.here hx rfl (hb hby at_68) rfl (l' := #[.val (.int p0), .val (.int kk), .val (.int (1 : Int32)), .val (.int (1 : Int32)), .val (.int (1 : Int32)), .val (.int (0 : Int32)), .unset]) rfl k) ?_
            refine Go.on (g' := (mkF m 71 _ [(.int (1 : Int32))])) (fun t k => XS.iloadN X0.here hx rfl (hb hby at_70) rfl k) ?_
            refine Go.ifc X0 hx hby at_71 (pcT := 88) (pcF := 74) (by decide) (by decide) rfl (fun q => ?_) (fun q => absurd q (by decide))
            clear q
            show Go p e below _ _ (mkF m 88 _ [])
            refine Go.on (g' := (mkF m 89 _ [(.int (1 : Int32))])) (fun t k => XS.iconst X0.here hx rfl (hb hby at_88) k) ?_
            refine Go.on (g' := (mkF m 93 _ [(.int (1 : Int32))])) (fun t k => XS.goto X0.here hx rfl (pc0 := 89) (pc' := 93) rfl (hb hby at_89) (by decide) (by decide) k) ?_
            refine Go.on (g' := (mkF m 95 #[.val (.int p0), .val (.int kk), .val (.int (1 : Int32)), .val (.int (1 : Int32)), .val (.int (1 : Int32)), .val (.int (0 : Int32)), .val (.int (1 : Int32))] [])) (fun t k => XS.istore X0.here hx rfl (hb hby at_93) rfl (l' := #[.val (.int p0), .val (.int kk), .val (.int (1 : Int32)), .val (.int (1 : Int32)), .val (.int (1 : Int32)), .val (.int (0 : Int32)), .val (.int (1 : Int32))]) rfl k) ?_
            refine Go.on (g' := (mkF m 96 _ [(.int kk)])) (fun t k => XS.iloadN X0.here hx rfl (hb hby at_95) rfl k) ?_
            refine Go.callS X0 hx hZ hby (by rw [hml]; rfl) (y := (⟨"com/example/cantilever/cantilever/http/Headers", "isFieldValueChar", "(C)Z"⟩ : MethodName)) hown (hw _ (List.mem_of_getElem? (i := 1) rfl)) (hw _ (List.mem_of_getElem? (i := 2) rfl)) (hw _ (List.mem_of_getElem? (i := 3) rfl)) (hw _ (List.mem_of_getElem? (i := 4) rfl)) (by decide) (argsL := [(.int kk)]) (rest := []) (rmB l Z w0 hw [] kk h0) e0 0 (by decide) (by decide) (by decide) (by decide) rfl pdB rfl (Nat.le_of_eq rfl) at_96 (pcF := 99) rfl ?_
            intro v34 T34 L34 X34 hQ34
            obtain ⟨rfl, rfl, e34⟩ := hQ34
            rw [List.append_nil] at X34
            show Go p e below _ _ (mkF m 99 _ [(.int (own_f kk))])
            refine Go.on (g' := (mkF m 101 _ [(.int (1 : Int32)), (.int (own_f kk))])) (fun t k => XS.iload X34.here hx rfl (hb hby at_99) rfl k) ?_
            refine Go.icmp X34 hx hby at_101 (pcT := 108) (pcF := 104) (by decide) (by decide) rfl (fun q => absurd q (fun q => (iNe.1 q) (own_1 kk (Or.inl q1)))) (fun q => ?_)
            clear q
            show Go p e below _ _ (mkF m 104 _ [])
            refine Go.on (g' := (mkF m 105 _ [(.int (1 : Int32))])) (fun t k => XS.iconst X34.here hx rfl (hb hby at_104) k) ?_
            refine Go.on (g' := (mkF m 109 _ [(.int (1 : Int32))])) (fun t k => XS.goto X34.here hx rfl (pc0 := 105) (pc' := 109) rfl (hb hby at_105) (by decide) (by decide) k) ?_
            exact Go.retI X34 hx hlk hret hby at_109 rfl (by simp) (by decide) (by decide) ⟨rfl, N0⟩
          · have q34 := iLt.2 q
            clear q
            show Go p e below _ _ (mkF m 56 _ [])
            refine Go.on (g' := (mkF m 57 _ [(.int kk)])) (fun t k => XS.iloadN X0.here hx rfl (hb hby at_56) rfl k) ?_
            refine Go.on (g' := (mkF m 60 _ [(.int (255 : Int32)), (.int kk)])) (fun t k => XS.sipush X0.here hx rfl (hb hby at_57) k) ?_
            refine Go.icmp X0 hx hby at_60 (pcT := 67) (pcF := 63) (by decide) (by decide) rfl (fun q => ?_) (fun q => ?_)
            · have q35 := iGt.1 q
              clear q
              show Go p e below _ _ (mkF m 67 _ [])
              refine Go.on (g' := (mkF m 68 _ [(.int (0 : Int32))])) (fun t k => XS.iconst X0.here hx rfl (hb hby at_67) k) ?_
              refine Go.on (g' := (mkF m 70 #[.val (.int p0), .val (.int kk), .val (.int (1 : Int32)), .val (.int (1 : Int32)), .val (.int (1 : Int32)), .val (.int (0 : Int32)), .unset] [])) (fun t k => XS.istore X0.here hx rfl (hb hby at_68) rfl (l' := #[.val (.int p0), .val (.int kk), .val (.int (1 : Int32)), .val (.int (1 : Int32)), .val (.int (1 : Int32)), .val (.int (0 : Int32)), .unset]) rfl k) ?_
              refine Go.on (g' := (mkF m 71 _ [(.int (1 : Int32))])) (fun t k => XS.iloadN X0.here hx rfl (hb hby at_70) rfl k) ?_
              refine Go.ifc X0 hx hby at_71 (pcT := 88) (pcF := 74) (by decide) (by decide) rfl (fun q => ?_) (fun q => absurd q (by decide))
              clear q
              show Go p e below _ _ (mkF m 88 _ [])
              refine Go.on (g' := (mkF m 89 _ [(.int (1 : Int32))])) (fun t k => XS.iconst X0.here hx rfl (hb hby at_88) k) ?_
              refine Go.on (g' := (mkF m 93 _ [(.int (1 : Int32))])) (fun t k => XS.goto X0.here hx rfl (pc0 := 89) (pc' := 93) rfl (hb hby at_89) (by decide) (by decide) k) ?_
              refine Go.on (g' := (mkF m 95 #[.val (.int p0), .val (.int kk), .val (.int (1 : Int32)), .val (.int (1 : Int32)), .val (.int (1 : Int32)), .val (.int (0 : Int32)), .val (.int (1 : Int32))] [])) (fun t k => XS.istore X0.here hx rfl (hb hby at_93) rfl (l' := #[.val (.int p0), .val (.int kk), .val (.int (1 : Int32)), .val (.int (1 : Int32)), .val (.int (1 : Int32)), .val (.int (0 : Int32)), .val (.int (1 : Int32))]) rfl k) ?_
              refine Go.on (g' := (mkF m 96 _ [(.int kk)])) (fun t k => XS.iloadN X0.here hx rfl (hb hby at_95) rfl k) ?_
              refine Go.callS X0 hx hZ hby (by rw [hml]; rfl) (y := (⟨"com/example/cantilever/cantilever/http/Headers", "isFieldValueChar", "(C)Z"⟩ : MethodName)) hown (hw _ (List.mem_of_getElem? (i := 1) rfl)) (hw _ (List.mem_of_getElem? (i := 2) rfl)) (hw _ (List.mem_of_getElem? (i := 3) rfl)) (hw _ (List.mem_of_getElem? (i := 4) rfl)) (by decide) (argsL := [(.int kk)]) (rest := []) (rmB l Z w0 hw [] kk h0) e0 0 (by decide) (by decide) (by decide) (by decide) rfl pdB rfl (Nat.le_of_eq rfl) at_96 (pcF := 99) rfl ?_
              intro v35 T35 L35 X35 hQ35
              obtain ⟨rfl, rfl, e35⟩ := hQ35
              rw [List.append_nil] at X35
              show Go p e below _ _ (mkF m 99 _ [(.int (own_f kk))])
              refine Go.on (g' := (mkF m 101 _ [(.int (1 : Int32)), (.int (own_f kk))])) (fun t k => XS.iload X35.here hx rfl (hb hby at_99) rfl k) ?_
              refine Go.icmp X35 hx hby at_101 (pcT := 108) (pcF := 104) (by decide) (by decide) rfl (fun q => absurd q (fun q => (iNe.1 q) (own_1 kk (Or.inl q1)))) (fun q => ?_)
              clear q
              show Go p e below _ _ (mkF m 104 _ [])
              refine Go.on (g' := (mkF m 105 _ [(.int (1 : Int32))])) (fun t k => XS.iconst X35.here hx rfl (hb hby at_104) k) ?_
              refine Go.on (g' := (mkF m 109 _ [(.int (1 : Int32))])) (fun t k => XS.goto X35.here hx rfl (pc0 := 105) (pc' := 109) rfl (hb hby at_105) (by decide) (by decide) k) ?_
              exact Go.retI X35 hx hlk hret hby at_109 rfl (by simp) (by decide) (by decide) ⟨rfl, N0⟩
            · have q35 := iGt.2 q
              clear q
              show Go p e below _ _ (mkF m 63 _ [])
              refine Go.on (g' := (mkF m 64 _ [(.int (1 : Int32))])) (fun t k => XS.iconst X0.here hx rfl (hb hby at_63) k) ?_
              refine Go.on (g' := (mkF m 68 _ [(.int (1 : Int32))])) (fun t k => XS.goto X0.here hx rfl (pc0 := 64) (pc' := 68) rfl (hb hby at_64) (by decide) (by decide) k) ?_
              refine Go.on (g' := (mkF m 70 #[.val (.int p0), .val (.int kk), .val (.int (1 : Int32)), .val (.int (1 : Int32)), .val (.int (1 : Int32)), .val (.int (1 : Int32)), .unset] [])) (fun t k => XS.istore X0.here hx rfl (hb hby at_68) rfl (l' := #[.val (.int p0), .val (.int kk), .val (.int (1 : Int32)), .val (.int (1 : Int32)), .val (.int (1 : Int32)), .val (.int (1 : Int32)), .unset]) rfl k) ?_
              refine Go.on (g' := (mkF m 71 _ [(.int (1 : Int32))])) (fun t k => XS.iloadN X0.here hx rfl (hb hby at_70) rfl k) ?_
              refine Go.ifc X0 hx hby at_71 (pcT := 88) (pcF := 74) (by decide) (by decide) rfl (fun q => ?_) (fun q => absurd q (by decide))
              clear q
              show Go p e below _ _ (mkF m 88 _ [])
              refine Go.on (g' := (mkF m 89 _ [(.int (1 : Int32))])) (fun t k => XS.iconst X0.here hx rfl (hb hby at_88) k) ?_
              refine Go.on (g' := (mkF m 93 _ [(.int (1 : Int32))])) (fun t k => XS.goto X0.here hx rfl (pc0 := 89) (pc' := 93) rfl (hb hby at_89) (by decide) (by decide) k) ?_
              refine Go.on (g' := (mkF m 95 #[.val (.int p0), .val (.int kk), .val (.int (1 : Int32)), .val (.int (1 : Int32)), .val (.int (1 : Int32)), .val (.int (1 : Int32)), .val (.int (1 : Int32))] [])) (fun t k => XS.istore X0.here hx rfl (hb hby at_93) rfl (l' := #[.val (.int p0), .val (.int kk), .val (.int (1 : Int32)), .val (.int (1 : Int32)), .val (.int (1 : Int32)), .val (.int (1 : Int32)), .val (.int (1 : Int32))]) rfl k) ?_
              refine Go.on (g' := (mkF m 96 _ [(.int kk)])) (fun t k => XS.iloadN X0.here hx rfl (hb hby at_95) rfl k) ?_
              refine Go.callS X0 hx hZ hby (by rw [hml]; rfl) (y := (⟨"com/example/cantilever/cantilever/http/Headers", "isFieldValueChar", "(C)Z"⟩ : MethodName)) hown (hw _ (List.mem_of_getElem? (i := 1) rfl)) (hw _ (List.mem_of_getElem? (i := 2) rfl)) (hw _ (List.mem_of_getElem? (i := 3) rfl)) (hw _ (List.mem_of_getElem? (i := 4) rfl)) (by decide) (argsL := [(.int kk)]) (rest := []) (rmB l Z w0 hw [] kk h0) e0 0 (by decide) (by decide) (by decide) (by decide) rfl pdB rfl (Nat.le_of_eq rfl) at_96 (pcF := 99) rfl ?_
              intro v36 T36 L36 X36 hQ36
              obtain ⟨rfl, rfl, e36⟩ := hQ36
              rw [List.append_nil] at X36
              show Go p e below _ _ (mkF m 99 _ [(.int (own_f kk))])
              refine Go.on (g' := (mkF m 101 _ [(.int (1 : Int32)), (.int (own_f kk))])) (fun t k => XS.iload X36.here hx rfl (hb hby at_99) rfl k) ?_
              refine Go.icmp X36 hx hby at_101 (pcT := 108) (pcF := 104) (by decide) (by decide) rfl (fun q => absurd q (fun q => (iNe.1 q) (own_1 kk (Or.inl q1)))) (fun q => ?_)
              clear q
              show Go p e below _ _ (mkF m 104 _ [])
              refine Go.on (g' := (mkF m 105 _ [(.int (1 : Int32))])) (fun t k => XS.iconst X36.here hx rfl (hb hby at_104) k) ?_
              refine Go.on (g' := (mkF m 109 _ [(.int (1 : Int32))])) (fun t k => XS.goto X36.here hx rfl (pc0 := 105) (pc' := 109) rfl (hb hby at_105) (by decide) (by decide) k) ?_
              exact Go.retI X36 hx hlk hret hby at_109 rfl (by simp) (by decide) (by decide) ⟨rfl, N0⟩
set_option maxRecDepth 65536 in
set_option maxHeartbeats 40000000 in
theorem comes_1 {Post : Tables → Env → Array Value → State → Outcome → State → Prop} (hpost : ∀ tb e args s v u, (limb_1_1.after args s (.returned v) u = true ∧ limb_1_2.after args s (.returned v) u = true ∧ True) → FrameEnd s (.returned v) u (Jvm.fieldLocs frame_1_writes args s ++ Jvm.arrayLocs frame_1_arrays args s ++ Jvm.staticLocs frame_1_statics s) 0 0 → Post tb e args s (.returned v) u) :
    ArmFor flags0 classFile x code maxLocals ret World_1 tables_1 room_1 Calls_1 rest_1 Pre_1 Post := by
  intro l hfl _ _ p e ha hc hk s m args below hf hA hF happ hP
  obtain ⟨hcalls, hrest, hpre⟩ := hP
  obtain ⟨-, -, -, hnamed, -, -, -, hat⟩ := (Spec.applies_iff hf).mp happ
  obtain ⟨hg, hn⟩ := and_e (Cond.before_iff.mp (show (Jvm.Cond.and given_1 narrow_1).before args s = true from hpre))
  obtain ⟨hcount, hg⟩ := and_e hg
  have g0 := hg
  obtain ⟨w0, rfl⟩ : ∃ w0 : Value, args = #[w0] := by
    have hs : args.size = 1 := by simpa [Cond.value, given_1] using hcount
    obtain ⟨L⟩ := args
    match L, hs with
    | [w0], _ => exact ⟨w0, rfl⟩
  have hw := fun d (hd : d ∈ tables_1) => atoms_spec (ws := Jvm.Cond.code x code maxLocals ret :: tables_1) hat d (List.mem_cons_of_mem _ hd)
  have hfit : Fit s := fun {y c} hc i hi => by
    obtain ⟨ha, rfl⟩ := Array.getElem?_eq_some_iff.mp hc
    have q := List.all_eq_true.mp ((Array.all_eq_true_iff_forall_mem.mp hF) _ (Array.getElem_mem ha)) i (List.mem_range.mpr hi)
    simpa [Array.getElem?_eq_getElem hi] using q
  obtain ⟨i0, ev0⟩ := is_v g0
  obtain rfl : w0 = (.int i0) := Option.some.inj ev0
  obtain ⟨n, o, h1, h2, h3, _, L, rfl, ⟨rfl, N⟩, hq⟩ := rmLaw l s _ hw tables_1 i0 s.heap s.heap.size (Nat.le_refl _)  p e ha hc hk s m _ below hf ((Spec.applies_iff_loose hf).mp happ).1 ⟨rfl, State.Warmed39.refl s, rfl⟩ trivial
  refine ⟨n, _, h1, h2, h3, hpost _ _ _ _ _ _ ⟨Cond.after_iff.mpr rfl, Cond.after_iff.mpr (eq_i res_at (Term.int_eval (1)) rfl), trivial⟩ ⟨hq.1, hq.2.1, (hq.2.2.sift fun y hy => Or.inr (N y hy)).mono (by decide) (by decide)⟩⟩
theorem main_1_1 : Claimed_1_1 := comes_1 fun _ _ _ _ _ _ h hF => ⟨h.1, hF⟩
theorem main_1_2 : Claimed_1_2 := comes_1 fun _ _ _ _ _ _ h hF => ⟨h.2.1, hF⟩

end Jvm.Pilot.@@N@@
namespace Jvm.Pilot.@@N@@
open Jvm Jvm.ClassFile Sem Op Lib Jvm.Free Jvm.Stand Jvm.Pilot.@@N@@.Jvm.D
/-! MADE BY PROGRAM (witnessworld.py) out of the Statement's table words and the real class files: 9 classes; the members and pool entries that the words name. The judged class is class 1, her method 1. -/
namespace start1
open Jvm.ClassFile
def u (s : String) : CpInfo := .utf8 (stringToUtf16 s)
/-- a pool by its gaps: so many unusable entries, then the entry; so many at the end -/
def gap : Nat → List CpInfo → List CpInfo
  | 0, r => r
  | n + 1, r => .unusable :: gap n r
def poolList (es : List (Nat × CpInfo)) (last : Nat) : List CpInfo := es.foldr (fun e r => gap e.1 (e.2 :: r)) (gap last [])
def pool (es : List (Nat × CpInfo)) (last : Nat) : Array CpInfo := ⟨poolList es last⟩
def fileOf (pool : Array CpInfo) (this : Nat) (attrs : Array Attribute := #[]) (ms : Array MethodInfo := #[]) (fl : Nat := 33) (sup : Nat := 0) (ifs : Array Nat := #[]) (fds : Array FieldInfo := #[]) : ClassFile where
  minorVersion := 0
  majorVersion := 65
  constantPool := pool
  accessFlags := fl
  thisClass := this
  superClass := sup
  interfaces := ifs
  fields := fds
  methods := ms
  attributes := attrs
def plain (name : String) (sup : Option ClassId) : Class where
  name := name
  kind := .ordinary
  loader := none
  accessFlags := 33
  super := sup
  interfaces := #[]
  cf := none
  fields := #[]
  methods := #[]
  instanceTypes := #[]
  staticTypes := #[]
  resolved := #[]
  callSites := []
  init := .initialized
  statics := none
  mirror := none

def pool0 : Array CpInfo := pool [(5, u "<init>"), (0, u "()V"), (1, .class_ 10), (1, u "java/lang/Object")] 113

def k0m0 : Method := { name := "<init>", desc := "()V", sig := { parameters := [], returnType := none }, accessFlags := 1, code := none }
/-- java/lang/Object -/
def k0 : Class := { plain "java/lang/Object" none with
  accessFlags := 33
  interfaces := #[]
  cf := some (fileOf pool0 8 #[] #[{ accessFlags := 1, nameIndex := 5, descriptorIndex := 6, attributes := #[] }] 33 0 #[] #[])
  fields := #[]
  methods := #[k0m0]
  instanceTypes := #[]
  staticTypes := #[]
  resolved := Array.replicate 124 none
  statics := none }

def pool1 : Array CpInfo := pool [(2, .class_ 4), (1, u "java/lang/Object"), (0, u "<init>"), (0, u "()V"), (0, .integer 65535), (0, .methodref 9 10), (0, .class_ 11), (0, .nameAndType 12 13), (0, u "com/example/cantilever/cantilever/http/Headers"), (0, u "isFieldValueChar"), (0, u "(C)Z"), (0, .class_ 15), (0, u "com/example/cantilever/cantilever/http/HeadersIsFieldValueCharPinLaw"), (2, u "law"), (0, u "(I)Z")] 3

def k1m0 : Method := { name := "<init>", desc := "()V", sig := { parameters := [], returnType := none }, accessFlags := 1, code := none }
def k1c1 : Code := { maxStack := 2, maxLocals := 7, code := code, exceptionTable := #[], attributes := #[] }
def k1m1 : Method := { name := "law", desc := "(I)Z", sig := { parameters := [.int], returnType := some .boolean }, accessFlags := 9, code := some k1c1 }
/-- com/example/cantilever/cantilever/http/HeadersIsFieldValueCharPinLaw -/
def k1 : Class := { plain "com/example/cantilever/cantilever/http/HeadersIsFieldValueCharPinLaw" (some 0) with
  accessFlags := 49
  interfaces := #[]
  cf := some (fileOf pool1 14 #[] #[{ accessFlags := 1, nameIndex := 5, descriptorIndex := 6, attributes := #[] }, { accessFlags := 9, nameIndex := 18, descriptorIndex := 19, attributes := #[] }] 49 2 #[] #[])
  fields := #[]
  methods := #[k1m0, k1m1]
  instanceTypes := #[]
  staticTypes := #[]
  resolved := Array.replicate 23 none
  statics := none }

def pool2 : Array CpInfo := pool [(2, .class_ 4), (1, u "java/lang/Object"), (0, u "<init>"), (0, u "()V"), (4, .class_ 13), (1, u "com/example/cantilever/cantilever/http/Headers"), (0, u "names"), (0, u "Ljava/util/List;"), (2, u "values"), (42, u "isFieldValueChar"), (0, u "(C)Z")] 111

def k2m0 : Method := { name := "<init>", desc := "()V", sig := { parameters := [], returnType := none }, accessFlags := 1, code := none }
def k2c1 : Code := { maxStack := 2, maxLocals := 1, code := prog_19_method_19_code, exceptionTable := #[], attributes := #[] }
def k2m1 : Method := { name := "isFieldValueChar", desc := "(C)Z", sig := { parameters := [.char], returnType := some .boolean }, accessFlags := 8, code := some k2c1 }
/-- com/example/cantilever/cantilever/http/Headers -/
def k2 : Class := { plain "com/example/cantilever/cantilever/http/Headers" (some 0) with
  accessFlags := 33
  interfaces := #[]
  cf := some (fileOf pool2 11 #[] #[{ accessFlags := 1, nameIndex := 5, descriptorIndex := 6, attributes := #[] }, { accessFlags := 8, nameIndex := 61, descriptorIndex := 62, attributes := #[] }] 33 2 #[] #[{ accessFlags := 18, nameIndex := 14, descriptorIndex := 15, attributes := #[] }, { accessFlags := 18, nameIndex := 18, descriptorIndex := 15, attributes := #[] }])
  fields := #[{ name := "names", type := (.object "java/util/List"), accessFlags := 18, slot := 0, constantValue := 0 }, { name := "values", type := (.object "java/util/List"), accessFlags := 18, slot := 1, constantValue := 0 }]
  methods := #[k2m0, k2m1]
  instanceTypes := #[(.object "java/util/List"), (.object "java/util/List")]
  staticTypes := #[]
  resolved := Array.replicate 174 none
  statics := none }

def pool3 : Array CpInfo := pool [(1, u "java/lang/Cloneable"), (0, .class_ 1), (0, u "java/lang/Object"), (0, .class_ 3)] 3

/-- java/lang/Cloneable -/
def k3 : Class := { plain "java/lang/Cloneable" (some 0) with
  accessFlags := 1537
  interfaces := #[]
  cf := some (fileOf pool3 2 #[] #[] 1537 4 #[] #[])
  fields := #[]
  methods := #[]
  instanceTypes := #[]
  staticTypes := #[]
  resolved := Array.replicate 8 none
  statics := none }

def pool4 : Array CpInfo := pool [(1, u "java/io/Serializable"), (0, .class_ 1), (0, u "java/lang/Object"), (0, .class_ 3)] 3

/-- java/io/Serializable -/
def k4 : Class := { plain "java/io/Serializable" (some 0) with
  accessFlags := 1537
  interfaces := #[]
  cf := some (fileOf pool4 2 #[] #[] 1537 4 #[] #[])
  fields := #[]
  methods := #[]
  instanceTypes := #[]
  staticTypes := #[]
  resolved := Array.replicate 8 none
  statics := none }

/-- the primitive byte -/
def k5 : Class := { plain "byte" none with kind := .primitive 'B', accessFlags := 0x411 }
/-- [B -/
def k6 : Class := { plain "[B" (some 0) with kind := .array 5 .byte, interfaces := #[3, 4], accessFlags := 1041 }

/-- the primitive int -/
def k7 : Class := { plain "int" none with kind := .primitive 'I', accessFlags := 0x411 }
/-- [I -/
def k8 : Class := { plain "[I" (some 0) with kind := .array 7 .int, interfaces := #[3, 4], accessFlags := 1041 }

def heap : Heap := #[]
def classes : Array Class := #[k0, k1, k2, k3, k4, k5, k6, k7, k8]
def interned : List (Array UInt16 × Addr) := []
def slotsUsed : Nat := 0
def theMethod : MethodId := ⟨1, 1⟩
def args0 : Array Value := #[.int 70]
def aboutOver (below : List Frame) : State where
  vm := { classes := classes, interned := interned.toArray }
  heap := heap
  slotsUsed := slotsUsed
  threads := #[{ frames := .invoking theMethod args0 :: below }]
def below0 : List Frame := [.native { method := ⟨0, 0⟩, args := #[] }]
def about1 : State := aboutOver below0
def p0 : Program := .bare "" "" ""
def e0 : Env := launch0.env 0 0 0
theorem w_frames : about1.frames = Frame.invoking theMethod args0 :: below0 := rfl
set_option maxRecDepth 65536 in
theorem w_args : argsFit about1.vm theMethod args0 = true := by decide +kernel
set_option maxRecDepth 65536 in
theorem w_heap : heapFits about1 = true := by decide +kernel
set_option maxRecDepth 65536 in
theorem w_runnable : about1.curStatus? = some .runnable := by decide +kernel
set_option maxRecDepth 65536 in
theorem w_alone : about1.alone = true := by decide +kernel
set_option maxRecDepth 65536 in
theorem w_named : about1.methodNamed? x = some theMethod := by decide +kernel
set_option maxRecDepth 65536 in
theorem w_hears : about1.hears theMethod below0 = true := by decide +kernel
set_option maxRecDepth 65536 in
theorem w_ripe : about1.ripe theMethod args0 below0 = true := by decide +kernel
theorem w_running : about1.status = .running := rfl
set_option maxRecDepth 65536 in
theorem w_room : about1.hasRoom e0.platform room_1 = true :=
  launch0.hasRoom_least _ room_1 (by decide +kernel) (by decide +kernel) (by decide +kernel) (by decide +kernel) (by decide +kernel) (by decide +kernel)
theorem allAtoms_all (ts : List Jvm.Cond) (a : Array Jvm.Value) (st : Jvm.State) : (allAtoms ts).before a st = ts.all (fun c => c.before a st) := by
  induction ts with
  | nil => rfl
  | cons c t ih =>
    show (Jvm.Cond.and c (allAtoms t)).before a st = _
    rw [Jvm.Cond.before_and, ih, List.all_cons]
def words1 : List Jvm.Cond := Jvm.Cond.code x code maxLocals ret :: tables_1
/-- a 'code' word, met by the world's own term for the bytes: nothing is compared byte by byte -/
theorem code_word {y : MethodName} {bytes : ByteArray} {mx : Nat} {rt : Option FieldType} {a : Array Value} {s : State} {m : MethodId} {meth : Method} {c : Code} (h1 : s.methodNamed? y = some m) (h2 : s.vm.method? m = some meth) (h3 : meth.code = some c) (h4 : c.code = bytes)
    (h5 : (c.maxLocals == mx && c.exceptionTable.isEmpty && decide (c.maxStack ≤ mostOperands) && decide (meth.sig.returnType = rt) && !meth.locks && decide (parseMethodDescriptor y.desc = some meth.sig)) = true) : (Jvm.Cond.code y bytes mx rt).before a s = true := by
  simp only [Bool.and_eq_true, beq_iff_eq, Bool.not_eq_true', decide_eq_true_eq] at h5
  obtain ⟨⟨⟨⟨⟨g1, g2⟩, g3⟩, g4⟩, g5⟩, g6⟩ := h5
  simp [Cond.before, Cond.holds, Cond.value, h1, h2, h3, h4, g1, g2, g3, g4, g5, g6]
def isCode : Jvm.Cond → Bool
  | .code _ _ _ _ => true
  | _ => false
theorem all_split {L : List Jvm.Cond} {P : Jvm.Cond → Bool} (h1 : L.all (fun c => isCode c || P c) = true) (h2 : ∀ c ∈ L.filter isCode, P c = true) : L.all P = true := by
  refine List.all_eq_true.mpr fun c hc => ?_
  have h := List.all_eq_true.mp h1 c hc
  rcases Bool.eq_false_or_eq_true (isCode c) with hi | hi
  · exact h2 c (List.mem_filter.mpr ⟨hc, hi⟩)
  · simpa [hi] using h
set_option maxRecDepth 65536 in
theorem w_c0 : (Jvm.Cond.code x code maxLocals ret).before args0 about1 = true := code_word (m := ⟨1, 1⟩) (meth := k1m1) (c := k1c1) (by decide +kernel) rfl rfl rfl (by decide +kernel)
set_option maxRecDepth 65536 in
theorem w_c1 : (Jvm.Cond.code ({ cls := "com/example/cantilever/cantilever/http/Headers", name := "isFieldValueChar", desc := "(C)Z" } : Jvm.MethodName) prog_19_method_19_code (1 : Nat) (Option.some Jvm.ClassFile.FieldType.boolean)).before args0 about1 = true := code_word (m := ⟨2, 1⟩) (meth := k2m1) (c := k2c1) (by decide +kernel) rfl rfl rfl (by decide +kernel)
def codes1 : List Jvm.Cond := [Jvm.Cond.code x code maxLocals ret, Jvm.Cond.code ({ cls := "com/example/cantilever/cantilever/http/Headers", name := "isFieldValueChar", desc := "(C)Z" } : Jvm.MethodName) prog_19_method_19_code (1 : Nat) (Option.some Jvm.ClassFile.FieldType.boolean)]
set_option maxRecDepth 65536 in
theorem codes_eq : words1.filter isCode = codes1 := rfl
theorem w_codes : ∀ c ∈ words1.filter isCode, c.before args0 about1 = true := by
  rw [codes_eq]
  intro c hc
  simp only [codes1, List.mem_cons, List.not_mem_nil, or_false] at hc
  rcases hc with rfl | rfl
  · exact w_c0
  · exact w_c1
set_option maxRecDepth 65536 in
theorem w_t1 : words1.all (fun c => isCode c || c.before args0 about1) = true := by decide +kernel
theorem w_tables : (allAtoms (Jvm.Cond.code x code maxLocals ret :: tables_1)).before args0 about1 = true := by
  rw [allAtoms_all]
  show words1.all (fun c => c.before args0 about1) = true
  refine all_split ?_ w_codes
  rw [w_t1]
set_option maxRecDepth 65536 in
theorem w_case : (Jvm.Cond.and given_1 narrow_1).before args0 about1 = true := by decide +kernel
theorem w_applies : (headSpec (Jvm.Cond.code x code maxLocals ret :: tables_1) room_1).applies x e0.platform about1 = true :=
  (Spec.applies_iff w_frames).mpr ⟨w_running, w_runnable, w_alone, w_named, w_hears, w_ripe, w_room, w_tables⟩
theorem atStart : AtStart classFile x code maxLocals ret World_1 tables_1 room_1 Calls_1 rest_1 Pre_1 launch0 p0 e0 about1 theMethod args0 below0 :=
  ⟨lists_1, trivial, launch0.admits_env _ _ _, launch0.least_env, fairChoices_fair.cas, fairChoices_fair.clock, w_frames, w_args, w_heap, w_applies, trivial, trivial, w_case⟩
end start1
theorem witness_1 : WitnessClaimed_1 := ⟨start1.p0, start1.e0, start1.about1, start1.theMethod, start1.args0, start1.below0, start1.atStart⟩
end Jvm.Pilot.@@N@@
