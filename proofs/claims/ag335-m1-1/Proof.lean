import JvmDerived
import JvmDerived.Pilot.@@N@@Statement
import JvmDerived.Pilot.@@N@@Code
set_option linter.unusedVariables false
set_option linter.unusedSimpArgs false

namespace Jvm.RoadKit
open Sem ClassFile Op Lib Jvm.Stand Jvm.Free Jvm.LawKit
section Go
variable {p : Program} {l : Launch} {e : Env} {R : Room} {s : State} {m : MethodId} {args : Array Value} {below : List Frame} {meth : Method} {c : Code} {T T' : State} {locs : List Loc} {cells slots : Nat} {Z : State} {a0 : Array Value} {h : Heap} {B : ByteArray} {K : Outcome → State → Prop} {pc pcT pcF : Nat} {ls : Array Slot} {st : List Value}
/-- from T with the frame g the run comes to an end of which K holds -/
def Go (p : Program) (e : Env) (below : List Frame) (K : Outcome → State → Prop) (T : State) (g : JFrame) : Prop :=
  ∃ u o, Steps p.tables e below (T.setTop g) u ∧ u.status = .running ∧ Ended u below o ∧ K o u
theorem Go.on {g g' : JFrame} (st : ∀ t, Steps p.tables e below (T'.setTop g') t → Steps p.tables e below (T.setTop g) t) (h : Go p e below K T' g') : Go p e below K T g := by
  obtain ⟨u, o, h1, h2⟩ := h; exact ⟨u, o, st _ h1, h2⟩
theorem Go.join {α : Type} {P : α → Prop} {g : α → JFrame} {g0 : JFrame} (rest : ∀ z, P z → Go p e below K T (g z)) (here : (∀ z, P z → Go p e below K T (g z)) → Go p e below K T g0) : Go p e below K T g0 := here rest
theorem Go.joinV {α : Type} {P : α → Prop} {g : α → JFrame} {g0 : JFrame} (X : Stand p l e R s m args below meth c T locs cells slots) (eT : T.heap = h) (rest : ∀ (T' : State) (z : α), Stand p l e R s m args below meth c T' locs cells slots → T'.heap = h → P z → Go p e below K T' (g z))
    (here : (∀ (T' : State) (z : α), Stand p l e R s m args below meth c T' locs cells slots → T'.heap = h → P z → Go p e below K T' (g z)) → Go p e below K T g0) : Go p e below K T g0 := here rest
theorem Go.at {g g' : JFrame} (q : g = g') (h : Go p e below K T g') : Go p e below K T g := q ▸ h
def EndK (s : State) (Q : Option Value → Heap → List Loc → Prop) (k n : Nat) : Outcome → State → Prop := fun o u => ∃ v L, o = .returned v ∧ Q v u.heap L ∧ FrameEnd s o u L k n
abbrev Pact (l : Launch) (Z : State) (y : MethodName) (bytes : ByteArray) (ml : Nat) (ret : Option FieldType) (ws : List Jvm.Cond) (rm : Room) (as : Array Value) (h0 : Heap) (Q : Option Value → Heap → List Loc → Prop) : Prop :=
  MetFree l y (head1 (Jvm.Cond.code y bytes ml ret :: ws) rm) (fun a U => a = as ∧ Z.Warmed39 U.vm ∧ U.heap = h0) (fun _ _ _ _ _ => True) (fun _ U o U' => ∃ v L, o = .returned v ∧ Q v U'.heap L ∧ FrameEnd U o U' L rm.cells rm.slots)
theorem Pact.intro {y : MethodName} {bytes : ByteArray} {ml : Nat} {ret : Option FieldType} {ws : List Jvm.Cond} {rm : Room} {as : Array Value} {h0 : Heap} {Q : Option Value → Heap → List Loc → Prop} (hp : plainFor y = true)
    (body : ∀ (p : Program) (e : Env) (s : State) (m : MethodId) (below : List Frame) (meth : Method) (c : Code) (T : State), Stand p l e rm s m as below meth c T [] 0 0 → p.tables.exec = Jvm.exec → c.code = bytes → c.maxLocals = ml → meth.sig.returnType = ret → meth.locks = false →
      s.vm.findClass y.cls = some m.cls → meth.name = y.name → Z.Warmed39 s.vm → T.heap = h0 → Go p e below (EndK s Q rm.cells rm.slots) T (entryFrame m as ml)) : Pact l Z y bytes ml ret ws rm as h0 Q := by
  refine MetFree.of_bodySF hp hisR ?_
  intro p e s m args below meth c s₁ Bd hml0 hP hK
  obtain ⟨rfl, hZ, hh⟩ := hP
  exact body p e s m below meth c s₁ (Stand.of_body Bd) Bd.exec Bd.bytes hml0 Bd.returns (BodyLoose.notSynchronized Bd) (findClass_of_methodNamed Bd.named) (name_of_methodNamed Bd.named Bd.method).1 hZ (by rw [← hh, Bd.state]; rfl)
theorem Go.icmp (X : Stand p l e R s m args below meth c T locs cells slots) (hx : p.tables.exec = Jvm.exec) (hby : c.code = B) {cd : ClassFile.Cond} {x y : Int32} {o : Int} (hd : decode B pc = .ok (.if_icmp cd o, 3)) (ho : 0 ≤ (pc : Int) + o) (hp : ((pc : Int) + o).toNat = pcT) (hq : pc + 3 = pcF)
    (hT : if_icmp.holds cd x y = true → Go p e below K T (mkF m pcT ls st)) (hF : if_icmp.holds cd x y = false → Go p e below K T (mkF m pcF ls st)) : Go p e below K T (mkF m pc ls (.int y :: .int x :: st)) := by
  subst hq
  cases q : if_icmp.holds cd x y
  · exact Go.on (fun t k => XS.icmpNo X.here hx rfl (hb hby hd) rfl q k) (hF q)
  · exact Go.on (fun t k => XS.icmpYes X.here hx rfl (pc0 := pc) rfl (hb hby hd) rfl q ho hp k) (hT q)
theorem Go.ifc (X : Stand p l e R s m args below meth c T locs cells slots) (hx : p.tables.exec = Jvm.exec) (hby : c.code = B) {cd : ClassFile.Cond} {x : Int32} {o : Int} (hd : decode B pc = .ok (.ifCond cd o, 3)) (ho : 0 ≤ (pc : Int) + o) (hp : ((pc : Int) + o).toNat = pcT) (hq : pc + 3 = pcF)
    (hT : if_icmp.holds cd x 0 = true → Go p e below K T (mkF m pcT ls st)) (hF : if_icmp.holds cd x 0 = false → Go p e below K T (mkF m pcF ls st)) : Go p e below K T (mkF m pc ls (.int x :: st)) := by
  subst hq
  rw [← if0] at hT hF
  cases q : ifCond.holds cd x
  · exact Go.on (fun t k => XS.ifNo X.here hx rfl (hb hby hd) rfl q k) (hF q)
  · exact Go.on (fun t k => XS.ifYes X.here hx rfl (pc0 := pc) rfl (hb hby hd) rfl q ho hp k) (hT q)
theorem iEq {x y : Int32} : (if_icmp.holds .eq x y = true → x = y) ∧ (if_icmp.holds .eq x y = false → ¬ x = y) := by constructor <;> intro h <;> simpa [if_icmp.holds] using h
theorem iNe {x y : Int32} : (if_icmp.holds .ne x y = true → ¬ x = y) ∧ (if_icmp.holds .ne x y = false → x = y) := by constructor <;> intro h <;> simpa [if_icmp.holds] using h
theorem iLt {x y : Int32} : (if_icmp.holds .lt x y = true → x < y) ∧ (if_icmp.holds .lt x y = false → ¬ x < y) := by constructor <;> intro h <;> simpa [if_icmp.holds] using h
theorem iGe {x y : Int32} : (if_icmp.holds .ge x y = true → ¬ x < y) ∧ (if_icmp.holds .ge x y = false → x < y) := by constructor <;> intro h <;> simpa [if_icmp.holds] using h
theorem iGt {x y : Int32} : (if_icmp.holds .gt x y = true → y < x) ∧ (if_icmp.holds .gt x y = false → ¬ y < x) := by constructor <;> intro h <;> simpa [if_icmp.holds] using h
theorem iLe {x y : Int32} : (if_icmp.holds .le x y = true → ¬ y < x) ∧ (if_icmp.holds .le x y = false → y < x) := by constructor <;> intro h <;> simpa [if_icmp.holds] using h
theorem Go.acmp (X : Stand p l e R s m args below meth c T locs cells slots) (hx : p.tables.exec = Jvm.exec) (hby : c.code = B) {cd : ACond} {x y : Value} (h1 : x.isRef = true) (h2 : y.isRef = true) {o : Int} (hd : decode B pc = .ok (.if_acmp cd o, 3)) (ho : 0 ≤ (pc : Int) + o) (hp : ((pc : Int) + o).toNat = pcT) (hq : pc + 3 = pcF)
    (hT : XT.acmp cd x y = true → Go p e below K T (mkF m pcT ls st)) (hF : XT.acmp cd x y = false → Go p e below K T (mkF m pcF ls st)) : Go p e below K T (mkF m pc ls (y :: x :: st)) := by
  subst hq
  cases q : XT.acmp cd x y
  · exact Go.on (fun t k => XT.acmpNo X.here hx rfl (hb hby hd) rfl h1 h2 q k) (hF q)
  · exact Go.on (fun t k => XT.acmpYes X.here hx rfl (pc0 := pc) rfl (hb hby hd) rfl h1 h2 q ho hp k) (hT q)
theorem aEq {x y : Value} : (XT.acmp .eq x y = true → x = y) ∧ (XT.acmp .eq x y = false → ¬ x = y) := by constructor <;> intro h <;> simpa [XT.acmp] using h
theorem aNe {x y : Value} : (XT.acmp .ne x y = true → ¬ x = y) ∧ (XT.acmp .ne x y = false → x = y) := by constructor <;> intro h <;> simpa [XT.acmp] using h
theorem rEq {x y : Addr} : (XT.acmp .eq (.ref x) (.ref y) = true → x = y) ∧ (XT.acmp .eq (.ref x) (.ref y) = false → ¬ x = y) := by constructor <;> intro h <;> simpa [XT.acmp] using h
theorem rNe {x y : Addr} : (XT.acmp .ne (.ref x) (.ref y) = true → ¬ x = y) ∧ (XT.acmp .ne (.ref x) (.ref y) = false → x = y) := by constructor <;> intro h <;> simpa [XT.acmp] using h
theorem cat_ref {x : Value} (h : x.isRef = true) : x.category = 1 := by rcases ref_cases h with rfl | ⟨a, rfl⟩ <;> rfl
theorem eqInt {first : State} {o : Option Outcome} {idx : List Nat} {t : Term} {k : Int32} (h : (Jvm.Cond.eq t (Term.int k)).value args first o s idx = some true) : t.eval args first o idx s = some (.int k) := by
  obtain ⟨x, y, hx, hy, k1, k2⟩ := cmp_v (Or.inl h)
  have e : y = .int k := Option.some.inj (hy.symm.trans (Term.int_eval k))
  subst e
  obtain ⟨z, rfl⟩ := k2
  have q : z = k := gotT (Cond.eq_ints hx hy) h
  rw [hx, q]
theorem fldInt {t : Term} {a : Addr} {C n d : String} {k : Int32} (ev : t.eval args Z none [] Z = some (.ref a)) (h : (Jvm.Cond.eq (Term.field t C n d) (Term.int k)).value args Z none Z [] = some true) : Fld Z Z.heap a C n d (.int k) :=
  Fld.start ((fld_at ev).symm.trans (eqInt h))
theorem fldNull {t : Term} {a : Addr} {C n d : String} (ev : t.eval args Z none [] Z = some (.ref a)) (h : (Jvm.Cond.eq (Term.field t C n d) Term.null).value args Z none Z [] = some true) : Fld Z Z.heap a C n d .null :=
  Fld.start ((fld_at ev).symm.trans (null_v h))
theorem fldRef {t u : Term} {a b : Addr} {C n d : String} (ev : t.eval args Z none [] Z = some (.ref a)) (hu : u.eval args Z none [] Z = some (.ref b)) (h : (Jvm.Cond.eq (Term.field t C n d) u).value args Z none Z [] = some true) : Fld Z Z.heap a C n d (.ref b) := by
  obtain ⟨x, y, hx, hy, k1, k2⟩ := cmp_v (Or.inl h)
  cases hy.symm.trans hu
  have q : x = .ref b := gotT (eq_R hx hy k2.2 rfl) h
  exact Fld.start ((fld_at ev).symm.trans (q ▸ hx))
theorem Go.retV (X : Stand p l e R s m args below meth c T locs cells slots) (hx : p.tables.exec = Jvm.exec) (hlk : meth.locks = false) {t : FieldType} (hret : meth.sig.returnType = some t) (hby : c.code = B) {i : Instr} (hd : decode B pc = .ok (i, 1)) {w : Value} (hn : narrow t w = w)
    (hi : (i = .ireturn ∧ (t = .int ∨ t = .boolean ∨ t = .byte ∨ t = .char ∨ t = .short) ∧ ∃ z, w = .int z) ∨ (i = .lreturn ∧ t = .long ∧ ∃ z, w = .long z) ∨ (i = .dreturn ∧ t = .double ∧ ∃ z, w = .double z) ∨ (i = .freturn ∧ t = .float ∧ ∃ z, w = .float z) ∨ (i = .areturn ∧ t.isReference = true ∧ w.isRef = true))
    {Q : Option Value → Heap → List Loc → Prop} {k n : Nat} (hc : cells ≤ k) (hs : slots ≤ n) (hq : Q (some w) T.heap locs) : Go p e below (EndK s Q k n) T (mkF m pc ls (w :: st)) := by
  obtain ⟨fs, hr, hrun, hended, hW, hsame⟩ := X.leave (v := some w) (fun h => by rw [hret] at h; cases h) hlk
  exact ⟨_, _, retOut X hx hret hn hi (hb hby hd) hr, hrun, hended, _, _, rfl, hq, ⟨_, rfl⟩, hW, hsame.mono hc hs⟩
theorem Go.retI (X : Stand p l e R s m args below meth c T locs cells slots) (hx : p.tables.exec = Jvm.exec) (hlk : meth.locks = false) {t : FieldType} (hret : meth.sig.returnType = some t) (hby : c.code = B) (hd : decode B pc = .ok (.ireturn, 1)) {z : Int32} (hn : narrow t (.int z) = .int z)
    (ht : t = .int ∨ t = .boolean ∨ t = .byte ∨ t = .char ∨ t = .short) {Q : Option Value → Heap → List Loc → Prop} {k n : Nat} (hc : cells ≤ k) (hs : slots ≤ n) (hq : Q (some (.int z)) T.heap locs) : Go p e below (EndK s Q k n) T (mkF m pc ls (.int z :: st)) :=
  Go.retV X hx hlk hret hby hd hn (Or.inl ⟨rfl, ht, z, rfl⟩) hc hs hq
theorem Go.retA (X : Stand p l e R s m args below meth c T locs cells slots) (hx : p.tables.exec = Jvm.exec) (hlk : meth.locks = false) {t : FieldType} (hret : meth.sig.returnType = some t) (hby : c.code = B) (hd : decode B pc = .ok (.areturn, 1)) {w : Value} (hw : w.isRef = true)
    (ht : t.isReference = true) {Q : Option Value → Heap → List Loc → Prop} {k n : Nat} (hc : cells ≤ k) (hs : slots ≤ n) (hq : Q (some w) T.heap locs) : Go p e below (EndK s Q k n) T (mkF m pc ls (w :: st)) :=
  Go.retV X hx hlk hret hby hd (by rcases ref_cases hw with rfl | ⟨a, rfl⟩ <;> cases t <;> first | rfl | cases ht) (Or.inr (Or.inr (Or.inr (Or.inr ⟨rfl, ht, hw⟩)))) hc hs hq
theorem Go.ret0 (X : Stand p l e R s m args below meth c T locs cells slots) (hx : p.tables.exec = Jvm.exec) (hlk : meth.locks = false) (hret : meth.sig.returnType = none) (hby : c.code = B) (hd : decode B pc = .ok (.return_, 1))
    {Q : Option Value → Heap → List Loc → Prop} {k n : Nat} (hc : cells ≤ k) (hs : slots ≤ n) (hq : Q none T.heap locs) : Go p e below (EndK s Q k n) T (mkF m pc ls []) := by
  obtain ⟨fs, hr, hrun, hended, hW, hsame⟩ := X.leave (v := none) (fun _ => rfl) hlk
  exact ⟨_, _, X.returnOut hx hret (hb hby hd) hr, hrun, hended, _, _, rfl, hq, ⟨_, rfl⟩, hW, hsame.mono hc hs⟩
theorem Go.callS (X : Stand p l e R s m args below meth c T locs cells slots) (hx : p.tables.exec = Jvm.exec) (hZ : Z.Warmed39 s.vm) (hby : c.code = B) (hml : ls.size = c.maxLocals) {own : String} {index : Nat} {y : MethodName} {bytes : ByteArray} {maxL : Nat} {ret : Option FieldType} {rm : Room} {Q : Option Value → Heap → List Loc → Prop}
    (hown : s.vm.findClass own = some m.cls) (w1 : (Jvm.Cond.methodLink own index y).before a0 Z = true) (w2 : (Jvm.Cond.static y).before a0 Z = true) (w3 : (Jvm.Cond.initialized y.cls).before a0 Z = true) (w4 : (Jvm.Cond.code y bytes maxL ret).before a0 Z = true) (hy : y.cls ≠ "java/lang/invoke/MethodHandle" ∧ y.cls ≠ "java/lang/invoke/VarHandle")
    {argsL rest : List Value} (hM : Pact l Z y bytes maxL ret [] rm argsL.toArray h Q) (eT : T.heap = h) (W : Nat) (hf : rm.frames + 1 ≤ R.frames) (hl : W + (maxL + 11) + rm.locals ≤ R.locals) (hc : cells + rm.cells ≤ R.cells) (hs : slots + rm.slots ≤ R.slots)
    (hst : st = argsL.reverse ++ rest) {ps : List FieldType} {rt : Option FieldType} (hdesc : parseMethodDescriptor y.desc = some ⟨ps, rt⟩) (hlen : argsL.length = ps.length) (hW : (rest.map fun v => v.category).sum ≤ W) (hd : decode B pc = .ok (.invokestatic index, 3)) (hq : pc + 3 = pcF)
    (next : ∀ (v : Option Value) (T' : State) (L : List Loc), Stand p l e R s m args below meth c T' (locs ++ L) (cells + rm.cells) (slots + rm.slots) → Q v T'.heap L → Go p e below K T' (mkF m pcF ls (v.toList ++ rest))) : Go p e below K T (mkF m pc ls st) := by
  subst hq
  obtain ⟨v, vm₁, ⟨T', L', k', n'⟩, -, X', ⟨Lc, hQ, l', y', z'⟩, st'⟩ := Jvm.LawKit.callS X hx (y := y) hown (mvT hZ w1) (mvT hZ w2) (mvT hZ w3) (mvT hZ w4) hy (backOf (W := W) hM hZ w4 w3 hf hl) (g := mkF m pc ls st) rfl hml (argsL := argsL) (rest := rest) (lenOf hdesc hlen) hst (by show 2 * 0 + _ ≤ W; omega) (hb hby hd) (fun _ _ => ⟨rfl, eT, hc, hs⟩)
  dsimp only [Pt.U, Pt.locs, Pt.cells, Pt.slots] at X' l' y' z' st' hQ
  subst l' y' z'
  exact Go.on st' (next v T' Lc X' hQ)
theorem Go.callV (X : Stand p l e R s m args below meth c T locs cells slots) (hx : p.tables.exec = Jvm.exec) (hZ : Z.Warmed39 s.vm) (hby : c.code = B) (hml : ls.size = c.maxLocals) {own C : String} {index : Nat} {y : MethodName} {bytes : ByteArray} {maxL : Nat} {ret : Option FieldType} {rm : Room} {Q : Option Value → Heap → List Loc → Prop}
    (hown : s.vm.findClass own = some m.cls) (w1 : (Jvm.Cond.methodLink own index y).before a0 Z = true) (w2 : (Jvm.Cond.declares y).before a0 Z = true) (w3 : (Jvm.Cond.selects C y y).before a0 Z = true) (w4 : (Jvm.Cond.instanceMethod y).before a0 Z = true) (w5 : (Jvm.Cond.code y bytes maxL ret).before a0 Z = true) (w6 : (Jvm.Cond.initialized y.cls).before a0 Z = true) (hy : y.cls ≠ "java/lang/invoke/MethodHandle" ∧ y.cls ≠ "java/lang/invoke/VarHandle")
    {b : Addr} {argsL rest : List Value} (hM : Pact l Z y bytes maxL ret [] rm (.ref b :: argsL).toArray h Q) (eT : T.heap = h) (E : Exa Z h b C) (W : Nat) (hf : rm.frames + 1 ≤ R.frames) (hl : W + (maxL + 11) + rm.locals ≤ R.locals) (hc : cells + rm.cells ≤ R.cells) (hs : slots + rm.slots ≤ R.slots)
    (hst : st = argsL.reverse ++ .ref b :: rest) {ps : List FieldType} {rt : Option FieldType} (hdesc : parseMethodDescriptor y.desc = some ⟨ps, rt⟩) (hlen : argsL.length = ps.length) (hW : (rest.map fun v => v.category).sum ≤ W) (hd : decode B pc = .ok (.invokevirtual index, 3)) (hq : pc + 3 = pcF)
    (next : ∀ (v : Option Value) (T' : State) (L : List Loc), Stand p l e R s m args below meth c T' (locs ++ L) (cells + rm.cells) (slots + rm.slots) → Q v T'.heap L → Go p e below K T' (mkF m pcF ls (v.toList ++ rest))) : Go p e below K T (mkF m pc ls st) := by
  subst hq
  obtain ⟨cq, kq, q1, q2, q3⟩ := isOf hZ eT E
  obtain ⟨v, vm₁, ⟨T', L', k', n'⟩, -, X', ⟨Lc, hQ, l', y', z'⟩, st'⟩ := X.virtualBack hx (y := y) (z := y) hown (mvT hZ w1) (mvT hZ w2) (notFace_of_selects (args := #[]) (mvT hZ w3)) (mvT hZ w3) (mvT hZ w4) hy (backOf (W := W) hM hZ w5 w6 hf hl) q1 q3 (g := mkF m pc ls st) rfl hml (Steps.refl _) (argsL := argsL) (rest := rest) (lenOf hdesc hlen) hst (by show 2 * 0 + _ ≤ W; omega) (hb hby hd) (fun _ _ => ⟨rfl, eT, hc, hs⟩)
  dsimp only [Pt.U, Pt.locs, Pt.cells, Pt.slots] at X' l' y' z' st' hQ
  subst l' y' z'
  exact Go.on (fun t k => st'.trans k) (next v T' Lc X' hQ)
theorem Go.callI (X : Stand p l e R s m args below meth c T locs cells slots) (hx : p.tables.exec = Jvm.exec) (hZ : Z.Warmed39 s.vm) (hby : c.code = B) (hml : ls.size = c.maxLocals) {own : String} {index : Nat} {y : MethodName} {bytes : ByteArray} {maxL : Nat} {rm : Room} {Q : Option Value → Heap → List Loc → Prop}
    (hinit : y.name = "<init>") (hown : s.vm.findClass own = some m.cls) (w1 : (Jvm.Cond.methodLink own index y).before a0 Z = true) (w4 : (Jvm.Cond.instanceMethod y).before a0 Z = true) (w5 : (Jvm.Cond.code y bytes maxL none).before a0 Z = true) (w6 : (Jvm.Cond.initialized y.cls).before a0 Z = true) (hy : y.cls ≠ "java/lang/invoke/MethodHandle" ∧ y.cls ≠ "java/lang/invoke/VarHandle")
    {b : Addr} {argsL rest : List Value} (hM : Pact l Z y bytes maxL none [] rm (.ref b :: argsL).toArray h Q) (eT : T.heap = h) (W : Nat) (hf : rm.frames + 1 ≤ R.frames) (hl : W + (maxL + 11) + rm.locals ≤ R.locals) (hc : cells + rm.cells ≤ R.cells) (hs : slots + rm.slots ≤ R.slots)
    (hst : st = argsL.reverse ++ .ref b :: rest) {ps : List FieldType} {rt : Option FieldType} (hdesc : parseMethodDescriptor y.desc = some ⟨ps, rt⟩) (hlen : argsL.length = ps.length) (hW : (rest.map fun v => v.category).sum ≤ W) (hd : decode B pc = .ok (.invokespecial index, 3)) (hq : pc + 3 = pcF)
    (next : ∀ (v : Option Value) (T' : State) (L : List Loc), Stand p l e R s m args below meth c T' (locs ++ L) (cells + rm.cells) (slots + rm.slots) → Q v T'.heap L → Go p e below K T' (mkF m pcF ls (v.toList ++ rest))) : Go p e below K T (mkF m pc ls st) := by
  subst hq
  obtain ⟨v, vm₁, ⟨T', L', k', n'⟩, -, X', ⟨Lc, hQ, l', y', z'⟩, st'⟩ := X.specialBack hx (y := y) hinit hown (mvT hZ w1) (mvT hZ w4) (mvT hZ w5) hy (backOf (W := W) hM hZ w5 w6 hf hl) (g := mkF m pc ls st) rfl hml (Steps.refl _) (a := b) (argsL := argsL) (rest := rest) (lenOf hdesc hlen) hst (by show 2 * 0 + _ ≤ W; omega) (hb hby hd) (fun _ _ => ⟨rfl, eT, hc, hs⟩)
  dsimp only [Pt.U, Pt.locs, Pt.cells, Pt.slots] at X' l' y' z' st' hQ
  subst l' y' z'
  exact Go.on (fun t k => st'.trans k) (next v T' Lc X' hQ)
theorem Go.callU (X : Stand p l e R s m args below meth c T locs cells slots) (hx : p.tables.exec = Jvm.exec) (hZ : Z.Warmed39 s.vm) (hby : c.code = B) (hml : ls.size = c.maxLocals) {own C owner : String} {index : Nat} {y z : MethodName} {bytes : ByteArray} {maxL : Nat} {ret : Option FieldType} {rm : Room} {Q : Option Value → Heap → List Loc → Prop}
    (hown : s.vm.findClass own = some m.cls) (w1 : (Jvm.Cond.methodLink own index y).before a0 Z = true) (wsm : (Jvm.Cond.sameMethod y.cls owner y.name y.desc).before a0 Z = true) (w2 : (Jvm.Cond.declares ⟨owner, y.name, y.desc⟩).before a0 Z = true) (w3 : (Jvm.Cond.selects C y z).before a0 Z = true) (w4 : (Jvm.Cond.instanceMethod z).before a0 Z = true) (w5 : (Jvm.Cond.code z bytes maxL ret).before a0 Z = true) (w6 : (Jvm.Cond.initialized z.cls).before a0 Z = true) (hy : owner ≠ "java/lang/invoke/MethodHandle" ∧ owner ≠ "java/lang/invoke/VarHandle")
    {b : Addr} {argsL rest : List Value} (hM : Pact l Z z bytes maxL ret [] rm (.ref b :: argsL).toArray h Q) (eT : T.heap = h) (E : Exa Z h b C) (W : Nat) (hf : rm.frames + 1 ≤ R.frames) (hl : W + (maxL + 11) + rm.locals ≤ R.locals) (hc : cells + rm.cells ≤ R.cells) (hs : slots + rm.slots ≤ R.slots)
    (hst : st = argsL.reverse ++ .ref b :: rest) {ps : List FieldType} {rt : Option FieldType} (hdesc : parseMethodDescriptor y.desc = some ⟨ps, rt⟩) (hlen : argsL.length = ps.length) (hW : (rest.map fun v => v.category).sum ≤ W) (hd : decode B pc = .ok (.invokevirtual index, 3)) (hq : pc + 3 = pcF)
    (next : ∀ (v : Option Value) (T' : State) (L : List Loc), Stand p l e R s m args below meth c T' (locs ++ L) (cells + rm.cells) (slots + rm.slots) → Q v T'.heap L → Go p e below K T' (mkF m pcF ls (v.toList ++ rest))) : Go p e below K T (mkF m pc ls st) := by
  subst hq
  obtain ⟨cq, kq, q1, q2, q3⟩ := isOf hZ eT E
  obtain ⟨v, vm₁, ⟨T', L', k', n'⟩, -, X', ⟨Lc, hQ, l', y', z'⟩, st'⟩ := X.virtualBackUp hx (x := y) (y := z) hown (mvT hZ w1) (mvT hZ wsm) (mvT hZ w2) hy (mvT hZ w3) (mvT hZ w4) (backOf (W := W) hM hZ w5 w6 hf hl) q1 q3 (g := mkF m pc ls st) rfl hml (Steps.refl _) (argsL := argsL) (rest := rest) (lenOf hdesc hlen) hst (by show 2 * 0 + _ ≤ W; omega) (hb hby hd) (fun _ _ => ⟨rfl, eT, hc, hs⟩)
  dsimp only [Pt.U, Pt.locs, Pt.cells, Pt.slots] at X' l' y' z' st' hQ
  subst l' y' z'
  exact Go.on (fun t k => st'.trans k) (next v T' Lc X' hQ)
theorem Go.callP (X : Stand p l e R s m args below meth c T locs cells slots) (hx : p.tables.exec = Jvm.exec) (hZ : Z.Warmed39 s.vm) (hby : c.code = B) (hml : ls.size = c.maxLocals) {own : String} {index kk : Nat} {y : MethodName} {bytes : ByteArray} {maxL : Nat} {ret : Option FieldType} {rm : Room} {Q : Option Value → Heap → List Loc → Prop}
    (hown : s.vm.findClass own = some m.cls) (w1 : (Jvm.Cond.methodLink own index y).before a0 Z = true) (w2 : (Jvm.Cond.instantiable y.cls kk).before a0 Z = true) (w3 : (Jvm.Cond.privateMethod y).before a0 Z = true) (w4 : (Jvm.Cond.instanceMethod y).before a0 Z = true) (w5 : (Jvm.Cond.code y bytes maxL ret).before a0 Z = true) (w6 : (Jvm.Cond.initialized y.cls).before a0 Z = true) (hy : y.cls ≠ "java/lang/invoke/MethodHandle" ∧ y.cls ≠ "java/lang/invoke/VarHandle")
    {b : Addr} {argsL rest : List Value} (hM : Pact l Z y bytes maxL ret [] rm (.ref b :: argsL).toArray h Q) (eT : T.heap = h) {C : String} (E : Exa Z h b C) (W : Nat) (hf : rm.frames + 1 ≤ R.frames) (hl : W + (maxL + 11) + rm.locals ≤ R.locals) (hc : cells + rm.cells ≤ R.cells) (hs : slots + rm.slots ≤ R.slots)
    (hst : st = argsL.reverse ++ .ref b :: rest) {ps : List FieldType} {rt : Option FieldType} (hdesc : parseMethodDescriptor y.desc = some ⟨ps, rt⟩) (hlen : argsL.length = ps.length) (hW : (rest.map fun v => v.category).sum ≤ W) (hd : decode B pc = .ok (.invokevirtual index, 3)) (hq : pc + 3 = pcF)
    (next : ∀ (v : Option Value) (T' : State) (L : List Loc), Stand p l e R s m args below meth c T' (locs ++ L) (cells + rm.cells) (slots + rm.slots) → Q v T'.heap L → Go p e below K T' (mkF m pcF ls (v.toList ++ rest))) : Go p e below K T (mkF m pc ls st) := by
  subst hq
  obtain ⟨cq, q, q'⟩ := E.cell
  have hpriv : s.PrivateAt y := Cond.privateMethod_at (mvP hZ w3 (args := #[]))
  obtain ⟨c2, k2, i1, i2, -, i4, -⟩ := Cond.instantiable_spec (mvT (args := #[]) (s := s) hZ w2)
  have hni : k2.isInterface = false := (Bool.or_eq_false_iff.mp i4).1
  obtain ⟨v, vm₁, ⟨T', L', k', n'⟩, -, X', ⟨Lc, hQ, l', y', z'⟩, st'⟩ := X.privateBack hx (y := y) hown (mvT hZ w1) (mvT hZ w4) (selects_self_of_private i1 i2 hni hpriv (mvT hZ w4) hy) hpriv (mvT hZ w5) hy (backOf (W := W) hM hZ w5 w6 hf hl) (g := mkF m pc ls st) rfl hml (Steps.refl _) (a := b) (by rw [eT]; exact q) q' (argsL := argsL) (rest := rest) (lenOf hdesc hlen) hst (by show 2 * 0 + _ ≤ W; omega) (hb hby hd) (fun _ _ => ⟨rfl, eT, hc, hs⟩)
  dsimp only [Pt.U, Pt.locs, Pt.cells, Pt.slots] at X' l' y' z' st' hQ
  subst l' y' z'
  exact Go.on (fun t k => st'.trans k) (next v T' Lc X' hQ)
theorem extWr {h0 h h' : Heap} {a : Addr} {sl : Nat} {v : Value} (E : Ext h0 h) (W : Wr h h' a sl v) (q : h0.size ≤ a) : Ext h0 h' := by
  refine ⟨by rw [W.size]; exact E.1, fun x c hx => ?_⟩
  obtain ⟨cb', r1, -, -, -, r5, -⟩ := wr_at W (E.2 x c hx)
  rw [r1, r5 (Nat.ne_of_lt (Nat.lt_of_lt_of_le (Array.getElem?_eq_some_iff.mp hx).1 q))]
theorem extKeep {h0 h h' : Heap} {a : Addr} (E : Ext h0 h) (K : Keep h h' [a]) (q : h0.size ≤ a) : Ext h0 h' :=
  ⟨Nat.le_trans E.1 K.1, fun x c hx => K.2.1 x c (E.2 x c hx) (ninS (Nat.ne_of_lt (Nat.lt_of_lt_of_le (Array.getElem?_eq_some_iff.mp hx).1 q)) nin0)⟩
theorem extTrans {h0 h h' : Heap} (E : Ext h0 h) (E' : Ext h h') : Ext h0 h' := ⟨Nat.le_trans E.1 E'.1, fun x c hx => E'.2 x c (E.2 x c hx)⟩
theorem arrKeep {h h' : Heap} {a b : Addr} {cl : Cell} {ty : FieldType} (A : Arr Z h a cl ty) (K : Keep h h' [b]) (hne : a ≠ b) : Arr Z h' a cl ty := ⟨K.2.1 _ _ A.1 (ninS hne nin0), A.2⟩
end Go
end Jvm.RoadKit

namespace Jvm.Pilot.@@N@@
open Jvm Jvm.ClassFile Sem Op Lib Jvm.Free Jvm.Stand Jvm.LawKit Jvm.RoadKit Bundle Jvm.Pilot.@@N@@.Jvm.D

theorem pnLaw : plainName "com/example/same_shape/sameshape/service/OrderedPairingPairPinLaw" = true := by first | (simp [plainName, overriddenIn]; done) | decide +kernel
theorem pnP : plainName "com/example/same_shape/sameshape/service/OrderedPairing" = true := by first | (simp [plainName, overriddenIn]; done) | decide +kernel
theorem pnA : plainName "java/util/Arrays" = true := by first | (simp [plainName, overriddenIn]; done) | decide +kernel
theorem pdM : parseMethodDescriptor "(II)I" = some ⟨[.int, .int], some .int⟩ := by decide +kernel
theorem pdPos : parseMethodDescriptor "(I)I" = some ⟨[.int], some .int⟩ := by decide +kernel
theorem pdLb : parseMethodDescriptor "(IIII)I" = some ⟨[.int, .int, .int, .int], some .int⟩ := by decide +kernel
theorem pdTw : parseMethodDescriptor "(II)[I" = some ⟨[.int, .int], some (.array .int)⟩ := by decide +kernel
theorem pdFu : parseMethodDescriptor "(IIIIII)[I" = some ⟨[.int, .int, .int, .int, .int, .int], some (.array .int)⟩ := by decide +kernel
theorem pdPr : parseMethodDescriptor "([III)[I" = some ⟨[(.array .int), .int, .int], some (.array .int)⟩ := by decide +kernel
theorem pdFi : parseMethodDescriptor "([II)V" = some ⟨[(.array .int), .int], none⟩ := by decide +kernel
theorem pdSm : parseMethodDescriptor "([I[I)Z" = some ⟨[(.array .int), (.array .int)], some .boolean⟩ := by decide +kernel
theorem efM (m : MethodId) (x y : Int32) : entryFrame m #[(.int x), (.int y)] 2 = mkF m 0 #[.val (.int x), .val (.int y)] [] := by first | (simp [entryFrame, mkF, argsToLocals, Value.category, maxLocals]; done) | rfl
theorem efPos (m : MethodId) (x : Int32) : entryFrame m #[(.int x)] 1 = mkF m 0 #[.val (.int x)] [] := by first | (simp [entryFrame, mkF, argsToLocals, Value.category, maxLocals]; done) | rfl
theorem efLb (m : MethodId) (k x y z : Int32) : entryFrame m #[(.int k), (.int x), (.int y), (.int z)] 8 = mkF m 0 #[.val (.int k), .val (.int x), .val (.int y), .val (.int z), .unset, .unset, .unset, .unset] [] := by first | (simp [entryFrame, mkF, argsToLocals, Value.category, maxLocals]; done) | rfl
theorem efTw (m : MethodId) (x y : Int32) : entryFrame m #[(.int x), (.int y)] 5 = mkF m 0 #[.val (.int x), .val (.int y), .unset, .unset, .unset] [] := by first | (simp [entryFrame, mkF, argsToLocals, Value.category, maxLocals]; done) | rfl
theorem efFu (m : MethodId) (u0 u1 u2 u3 u4 u5 : Int32) : entryFrame m #[(.int u0), (.int u1), (.int u2), (.int u3), (.int u4), (.int u5)] 17 = mkF m 0 #[.val (.int u0), .val (.int u1), .val (.int u2), .val (.int u3), .val (.int u4), .val (.int u5), .unset, .unset, .unset, .unset, .unset, .unset, .unset, .unset, .unset, .unset, .unset] [] := by first | (simp [entryFrame, mkF, argsToLocals, Value.category, maxLocals]; done) | rfl
theorem efPr (m : MethodId) (a : Addr) (x y : Int32) : entryFrame m #[(.ref a), (.int x), (.int y)] 9 = mkF m 0 #[.val (.ref a), .val (.int x), .val (.int y), .unset, .unset, .unset, .unset, .unset, .unset] [] := by first | (simp [entryFrame, mkF, argsToLocals, Value.category, maxLocals]; done) | rfl
theorem efFi (m : MethodId) (a : Addr) (x : Int32) : entryFrame m #[(.ref a), (.int x)] 4 = mkF m 0 #[.val (.ref a), .val (.int x), .unset, .unset] [] := by first | (simp [entryFrame, mkF, argsToLocals, Value.category, maxLocals]; done) | rfl
theorem efSm (m : MethodId) (a b : Addr) : entryFrame m #[(.ref a), (.ref b)] 2 = mkF m 0 #[.val (.ref a), .val (.ref b)] [] := by first | (simp [entryFrame, mkF, argsToLocals, Value.category, maxLocals]; done) | rfl
theorem ef0 (m : MethodId) (x0 x1 x2 : Int64) (x3 : Int32) : entryFrame m #[(.long x0), (.long x1), (.long x2), (.int x3)] maxLocals = mkF m 0 #[.val (.long x0), .second, .val (.long x1), .second, .val (.long x2), .second, .val (.int x3), .unset, .unset, .unset, .unset, .unset, .unset, .unset, .unset, .unset, .unset, .unset, .unset] [] := by first | (simp [entryFrame, mkF, argsToLocals, Value.category, maxLocals]; done) | rfl
theorem own_cases (k : Int32) (h : 0 ≤ k.toInt ∧ k.toInt < 4) : k = 0 ∨ k = 1 ∨ k = 2 ∨ k = 3 := by
  have e : ∀ i : Int32, k.toInt = i.toInt → k = i := fun i q => Int32.toInt_inj.mp q
  have q : k.toInt = 0 ∨ k.toInt = 1 ∨ k.toInt = 2 ∨ k.toInt = 3 := by omega
  rcases q with q | q | q | q
  · exact Or.inl (e 0 q)
  · exact Or.inr (Or.inl (e 1 q))
  · exact Or.inr (Or.inr (Or.inl (e 2 q)))
  · exact Or.inr (Or.inr (Or.inr (e 3 q)))
def own_max (x y : Int32) : Int32 := if x < y then y else x
def own_pos (x : Int32) : Int32 := own_max x 0
def own_cell (w u d : Int32) : Int32 := if 0 < w then own_max u (d + w) else u
def own_lb (k x y z : Int32) : Int32 :=
  let p0 := own_pos x
  let p1 := if k < 2 then 0 else own_pos y
  let p2 := if k < 3 then 0 else own_pos z
  let q := own_max p0 (own_max p1 p2)
  if q = 0 then (-1) else if ¬ k < 3 ∧ p2 = q then 2 else if ¬ k < 2 ∧ p1 = q then 1 else 0
def own_tw (x y : Int32) : Int32 × Int32 :=
  let q := own_max (own_pos x) (own_pos y)
  if 0 < y ∧ q = y then (-1, 0) else if q = own_pos x then (own_lb 1 x 0 0, -1) else (-1, -1)
def own_fu (u0 u1 u2 u3 u4 u5 : Int32) : Int32 × Int32 :=
  let o12 := own_max (own_pos u0) (own_pos u1)
  let o13 := own_max o12 (own_pos u2)
  let o22 := own_max (own_pos u0 + own_pos u4) (own_max (own_pos u1) (own_pos u3))
  let o23 := own_max (own_max (own_pos u0 + own_pos u4) (own_pos u0 + own_pos u5)) (own_max (own_pos u1 + own_pos u5) (own_max (own_pos u2) (own_pos u3)))
  if 0 < u5 ∧ o23 = o12 + u5 then (own_lb 2 u0 u1 u2, 2) else if o23 = o13 then (own_lb 3 u0 u1 u2, -1) else if 0 < u4 ∧ o22 = own_pos u0 + u4 then (own_lb 1 u0 u1 u2, 1) else if o22 = o12 then (own_lb 2 u0 u1 u2, -1) else own_tw u0 u3
def own_r11 (w0 b11 : Int32) : Int32 := if 0 < w0 ∧ b11 = 0 + w0 then 0 else (-1)
def own_r12 (w0 w1 b11 b12 : Int32) : Int32 := if 0 < w1 ∧ b12 = 0 + w1 then 1 else if b12 = 0 then (-1) else own_r11 w0 b11
def own_r13 (w0 w1 w2 b11 b12 b13 : Int32) : Int32 := if 0 < w2 ∧ b13 = 0 + w2 then 2 else if b13 = 0 then (-1) else own_r12 w0 w1 b11 b12
def own_21 (w0 v b11 b21 : Int32) : Int32 × Int32 := if 0 < v ∧ b21 = 0 + v then (-1, 0) else if b21 = b11 then (own_r11 w0 b11, -1) else (-1, -1)
def own_22 (w0 w1 w3 w4 b11 b12 b21 b22 : Int32) : Int32 × Int32 := if 0 < w4 ∧ b22 = b11 + w4 then (own_r11 w0 b11, 1) else if b22 = b12 then (own_r12 w0 w1 b11 b12, -1) else own_21 w0 w3 b11 b21
def own_23 (w0 w1 w2 w3 w4 w5 b11 b12 b13 b21 b22 b23 : Int32) : Int32 × Int32 := if 0 < w5 ∧ b23 = b12 + w5 then (own_r12 w0 w1 b11 b12, 2) else if b23 = b13 then (own_r13 w0 w1 w2 b11 b12 b13, -1) else own_22 w0 w1 w3 w4 b11 b12 b21 b22
def own_QR (h0 : Heap) (r : Value) (v : Option Value) (h : Heap) (L : List Loc) : Prop := v = some r ∧ L = [] ∧ h = h0
def own_QF (Z : State) (a : Addr) (c : Cell) (h0 : Heap) (n0 : Nat) (v : Option Value) (h : Heap) (L : List Loc) : Prop := v = none ∧ Fr n0 L ∧ Keep h0 h [a] ∧ Arr Z h a c .int
/-- a new array of two ints -/
def own_Q2 (Z : State) (r : Int32 × Int32) (h0 : Heap) (n0 : Nat) (v : Option Value) (h : Heap) (L : List Loc) : Prop := ∃ (a : Addr) (c : Cell), v = some (.ref a) ∧ Fr n0 L ∧ Ext h0 h ∧ h0.size ≤ a ∧ Arr Z h a c .int ∧ c.slots.size = 2 ∧ c.slots[(0 : Int32).toNatClampNeg]? = some (.int r.1) ∧ c.slots[(1 : Int32).toNatClampNeg]? = some (.int r.2)
def own_Q1 (Z : State) (r : Int32) (h0 : Heap) (n0 : Nat) (v : Option Value) (h : Heap) (L : List Loc) : Prop := ∃ (a : Addr) (c : Cell), v = some (.ref a) ∧ Fr n0 L ∧ Ext h0 h ∧ h0.size ≤ a ∧ Arr Z h a c .int ∧ c.slots.size = 1 ∧ c.slots[(0 : Int32).toNatClampNeg]? = some (.int r)
theorem d3_0 : decode jdk_29_method_65_code 0 = .ok (.iload_n 0, 1) := by decide +kernel
theorem d3_1 : decode jdk_29_method_65_code 1 = .ok (.iload_n 1, 1) := by decide +kernel
theorem d3_2 : decode jdk_29_method_65_code 2 = .ok (.if_icmp .lt 7, 3) := by decide +kernel
theorem d3_5 : decode jdk_29_method_65_code 5 = .ok (.iload_n 0, 1) := by decide +kernel
theorem d3_6 : decode jdk_29_method_65_code 6 = .ok (.goto 4, 3) := by decide +kernel
theorem d3_9 : decode jdk_29_method_65_code 9 = .ok (.iload_n 1, 1) := by decide +kernel
theorem d3_10 : decode jdk_29_method_65_code 10 = .ok (.ireturn, 1) := by decide +kernel
set_option maxRecDepth 65536 in
set_option maxHeartbeats 40000000 in
theorem rmM (l : Launch) (Z : State) (w0 : Array Value) (hw : ∀ d ∈ tables_1, d.before w0 Z = true) (ws : List Jvm.Cond) (x y : Int32) (h0 : Heap) : Pact l Z (⟨"java/lang/Math", "max", "(II)I"⟩ : MethodName) jdk_29_method_65_code 2 (some .int) ws ({ frames := 0, cells := 0, slots := 0, locals := 0 } : Room) #[.int x, .int y] h0 (own_QR h0 (.int (own_max x y))) := by
  refine Pact.intro (Jvm.Free.JP.mathPlain rfl (by decide +kernel)) ?_
  intro p e s m below meth c T0 X0 hx hby hml hret hlk hown hnm hZ e0
  refine Go.at (efM m x y) ?_
  refine Go.on (g' := (mkF m 1 _ [(.int x)])) (fun t_ k_ => XS.iloadN X0.here hx rfl (hb hby d3_0) rfl k_) ?_
  refine Go.on (g' := (mkF m 2 _ [(.int y), (.int x)])) (fun t_ k_ => XS.iloadN X0.here hx rfl (hb hby d3_1) rfl k_) ?_
  refine Go.icmp X0 hx hby d3_2 (pcT := 9) (pcF := 5) (by decide) (by decide) rfl (fun q => ?_) (fun q => ?_)
  · have q1 := iLt.1 q
    clear q
    show Go p e below _ _ (mkF m 9 _ [])
    refine Go.on (g' := (mkF m 10 _ [(.int y)])) (fun t_ k_ => XS.iloadN X0.here hx rfl (hb hby d3_9) rfl k_) ?_
    exact Go.retI X0 hx hlk hret hby d3_10 rfl (by simp) (by decide) (by decide) ⟨by rw [own_max, if_pos q1], rfl, e0⟩
  · have q1 := iLt.2 q
    clear q
    show Go p e below _ _ (mkF m 5 _ [])
    refine Go.on (g' := (mkF m 6 _ [(.int x)])) (fun t_ k_ => XS.iloadN X0.here hx rfl (hb hby d3_5) rfl k_) ?_
    refine Go.on (g' := (mkF m 10 _ [(.int x)])) (fun t_ k_ => XS.goto X0.here hx rfl (pc0 := 6) (pc' := 10) rfl (hb hby d3_6) (by decide) (by decide) k_) ?_
    exact Go.retI X0 hx hlk hret hby d3_10 rfl (by simp) (by decide) (by decide) ⟨by rw [own_max, if_neg q1], rfl, e0⟩
theorem d2_0 : decode method_3_code 0 = .ok (.iload_n 0, 1) := by decide +kernel
theorem d2_1 : decode method_3_code 1 = .ok (.iconst 0, 1) := by decide +kernel
theorem d2_2 : decode method_3_code 2 = .ok (.invokestatic 31, 3) := by decide +kernel
theorem d2_5 : decode method_3_code 5 = .ok (.ireturn, 1) := by decide +kernel
set_option maxRecDepth 65536 in
set_option maxHeartbeats 40000000 in
theorem rmPos (l : Launch) (Z : State) (w0 : Array Value) (hw : ∀ d ∈ tables_1, d.before w0 Z = true) (ws : List Jvm.Cond) (x : Int32) (h0 : Heap) : Pact l Z (⟨"com/example/same_shape/sameshape/service/OrderedPairingPairPinLaw", "pos", "(I)I"⟩ : MethodName) method_3_code 1 (some .int) ws ({ frames := 1, cells := 0, slots := 0, locals := 13 } : Room) #[.int x] h0 (own_QR h0 (.int (own_pos x))) := by
  refine Pact.intro (plainFor_of_name pnLaw) ?_
  intro p e s m below meth c T0 X0 hx hby hml hret hlk hown hnm hZ e0
  refine Go.at (efPos m x) ?_
  refine Go.on (g' := (mkF m 1 _ [(.int x)])) (fun t_ k_ => XS.iloadN X0.here hx rfl (hb hby d2_0) rfl k_) ?_
  refine Go.on (g' := (mkF m 2 _ [(.int (0 : Int32)), (.int x)])) (fun t_ k_ => XS.iconst X0.here hx rfl (hb hby d2_1) k_) ?_
  refine Go.callS X0 hx hZ hby (by rw [hml]; rfl) (y := (⟨"java/lang/Math", "max", "(II)I"⟩ : MethodName)) hown (hw _ (List.mem_of_getElem? (i := 8) rfl)) (hw _ (List.mem_of_getElem? (i := 9) rfl)) (hw _ (List.mem_of_getElem? (i := 10) rfl)) (hw _ (List.mem_of_getElem? (i := 11) rfl)) (by decide) (argsL := [(.int x), (.int (0 : Int32))]) (rest := []) (rmM l Z w0 hw [] x (0 : Int32) h0) e0 0 (by decide) (by decide) (by decide) (by decide) rfl pdM rfl (Nat.le_of_eq rfl) d2_2 (pcF := 5) rfl ?_
  intro v1 T1 L1 X1 hQ1
  obtain ⟨rfl, rfl, e1⟩ := hQ1
  rw [List.append_nil] at X1
  show Go p e below _ _ (mkF m 5 _ [(.int (own_max x (0 : Int32)))])
  exact Go.retI X1 hx hlk hret hby d2_5 rfl (by simp) (by decide) (by decide) ⟨rfl, rfl, e1⟩
theorem d4_0 : decode method_4_code 0 = .ok (.iload_n 1, 1) := by decide +kernel
theorem d4_1 : decode method_4_code 1 = .ok (.invokestatic 37, 3) := by decide +kernel
theorem d4_4 : decode method_4_code 4 = .ok (.istore 4, 2) := by decide +kernel
theorem d4_6 : decode method_4_code 6 = .ok (.iload_n 0, 1) := by decide +kernel
theorem d4_7 : decode method_4_code 7 = .ok (.iconst 2, 1) := by decide +kernel
theorem d4_8 : decode method_4_code 8 = .ok (.if_icmp .lt 10, 3) := by decide +kernel
theorem d4_11 : decode method_4_code 11 = .ok (.iload_n 2, 1) := by decide +kernel
theorem d4_12 : decode method_4_code 12 = .ok (.invokestatic 37, 3) := by decide +kernel
theorem d4_15 : decode method_4_code 15 = .ok (.goto 4, 3) := by decide +kernel
theorem d4_18 : decode method_4_code 18 = .ok (.iconst 0, 1) := by decide +kernel
theorem d4_19 : decode method_4_code 19 = .ok (.istore 5, 2) := by decide +kernel
theorem d4_21 : decode method_4_code 21 = .ok (.iload_n 0, 1) := by decide +kernel
theorem d4_22 : decode method_4_code 22 = .ok (.iconst 3, 1) := by decide +kernel
theorem d4_23 : decode method_4_code 23 = .ok (.if_icmp .lt 10, 3) := by decide +kernel
theorem d4_26 : decode method_4_code 26 = .ok (.iload_n 3, 1) := by decide +kernel
theorem d4_27 : decode method_4_code 27 = .ok (.invokestatic 37, 3) := by decide +kernel
theorem d4_30 : decode method_4_code 30 = .ok (.goto 4, 3) := by decide +kernel
theorem d4_33 : decode method_4_code 33 = .ok (.iconst 0, 1) := by decide +kernel
theorem d4_34 : decode method_4_code 34 = .ok (.istore 6, 2) := by decide +kernel
theorem d4_36 : decode method_4_code 36 = .ok (.iload 4, 2) := by decide +kernel
theorem d4_38 : decode method_4_code 38 = .ok (.iload 5, 2) := by decide +kernel
theorem d4_40 : decode method_4_code 40 = .ok (.iload 6, 2) := by decide +kernel
theorem d4_42 : decode method_4_code 42 = .ok (.invokestatic 31, 3) := by decide +kernel
theorem d4_45 : decode method_4_code 45 = .ok (.invokestatic 31, 3) := by decide +kernel
theorem d4_48 : decode method_4_code 48 = .ok (.istore 7, 2) := by decide +kernel
theorem d4_50 : decode method_4_code 50 = .ok (.iload 7, 2) := by decide +kernel
theorem d4_52 : decode method_4_code 52 = .ok (.ifCond .ne 5, 3) := by decide +kernel
theorem d4_55 : decode method_4_code 55 = .ok (.iconst (-1), 1) := by decide +kernel
theorem d4_56 : decode method_4_code 56 = .ok (.ireturn, 1) := by decide +kernel
theorem d4_57 : decode method_4_code 57 = .ok (.iload_n 0, 1) := by decide +kernel
theorem d4_58 : decode method_4_code 58 = .ok (.iconst 3, 1) := by decide +kernel
theorem d4_59 : decode method_4_code 59 = .ok (.if_icmp .lt 12, 3) := by decide +kernel
theorem d4_62 : decode method_4_code 62 = .ok (.iload 6, 2) := by decide +kernel
theorem d4_64 : decode method_4_code 64 = .ok (.iload 7, 2) := by decide +kernel
theorem d4_66 : decode method_4_code 66 = .ok (.if_icmp .ne 5, 3) := by decide +kernel
theorem d4_69 : decode method_4_code 69 = .ok (.iconst 2, 1) := by decide +kernel
theorem d4_70 : decode method_4_code 70 = .ok (.ireturn, 1) := by decide +kernel
theorem d4_71 : decode method_4_code 71 = .ok (.iload_n 0, 1) := by decide +kernel
theorem d4_72 : decode method_4_code 72 = .ok (.iconst 2, 1) := by decide +kernel
theorem d4_73 : decode method_4_code 73 = .ok (.if_icmp .lt 12, 3) := by decide +kernel
theorem d4_76 : decode method_4_code 76 = .ok (.iload 5, 2) := by decide +kernel
theorem d4_78 : decode method_4_code 78 = .ok (.iload 7, 2) := by decide +kernel
theorem d4_80 : decode method_4_code 80 = .ok (.if_icmp .ne 5, 3) := by decide +kernel
theorem d4_83 : decode method_4_code 83 = .ok (.iconst 1, 1) := by decide +kernel
theorem d4_84 : decode method_4_code 84 = .ok (.ireturn, 1) := by decide +kernel
theorem d4_85 : decode method_4_code 85 = .ok (.iconst 0, 1) := by decide +kernel
theorem d4_86 : decode method_4_code 86 = .ok (.ireturn, 1) := by decide +kernel
theorem own_lb1 (x y z : Int32) : own_lb 1 x y z = if own_max (own_pos x) (own_max ((0 : Int32)) ((0 : Int32))) = 0 then (-1) else if ¬ (1 : Int32) < 3 ∧ (0 : Int32) = own_max (own_pos x) (own_max ((0 : Int32)) ((0 : Int32))) then 2 else if ¬ (1 : Int32) < 2 ∧ (0 : Int32) = own_max (own_pos x) (own_max ((0 : Int32)) ((0 : Int32))) then 1 else 0 := rfl
set_option maxRecDepth 65536 in
set_option maxHeartbeats 40000000 in
theorem rmLb1 (l : Launch) (Z : State) (w0 : Array Value) (hw : ∀ d ∈ tables_1, d.before w0 Z = true) (ws : List Jvm.Cond) (x y z : Int32) (h0 : Heap) : Pact l Z (⟨"com/example/same_shape/sameshape/service/OrderedPairingPairPinLaw", "lastBest", "(IIII)I"⟩ : MethodName) method_4_code 8 (some .int) ws ({ frames := 2, cells := 0, slots := 0, locals := 25 } : Room) #[.int (1 : Int32), .int x, .int y, .int z] h0 (own_QR h0 (.int (own_lb 1 x y z))) := by
  refine Pact.intro (plainFor_of_name pnLaw) ?_
  intro p e s m below meth c T0 X0 hx hby hml hret hlk hown hnm hZ e0
  refine Go.at (efLb m (1 : Int32) x y z) ?_
  refine Go.on (g' := (mkF m 1 _ [(.int x)])) (fun t_ k_ => XS.iloadN X0.here hx rfl (hb hby d4_0) rfl k_) ?_
  refine Go.callS X0 hx hZ hby (by rw [hml]; rfl) (y := (⟨"com/example/same_shape/sameshape/service/OrderedPairingPairPinLaw", "pos", "(I)I"⟩ : MethodName)) hown (hw _ (List.mem_of_getElem? (i := 5) rfl)) (hw _ (List.mem_of_getElem? (i := 6) rfl)) (hw _ (List.mem_of_getElem? (i := 3) rfl)) (hw _ (List.mem_of_getElem? (i := 7) rfl)) (by decide) (argsL := [(.int x)]) (rest := []) (rmPos l Z w0 hw [] x h0) e0 0 (by decide) (by decide) (by decide) (by decide) rfl pdPos rfl (Nat.le_of_eq rfl) d4_1 (pcF := 4) rfl ?_
  intro v1 T1 L1 X1 hQ1
  obtain ⟨rfl, rfl, e1⟩ := hQ1
  rw [List.append_nil] at X1
  show Go p e below _ _ (mkF m 4 _ [(.int (own_pos x))])
  refine Go.on (g' := (mkF m 6 #[.val (.int (1 : Int32)), .val (.int x), .val (.int y), .val (.int z), .val (.int (own_pos x)), .unset, .unset, .unset] [])) (fun t_ k_ => XS.istore X1.here hx rfl (hb hby d4_4) rfl (l' := #[.val (.int (1 : Int32)), .val (.int x), .val (.int y), .val (.int z), .val (.int (own_pos x)), .unset, .unset, .unset]) rfl k_) ?_
  refine Go.on (g' := (mkF m 7 _ [(.int (1 : Int32))])) (fun t_ k_ => XS.iloadN X1.here hx rfl (hb hby d4_6) rfl k_) ?_
  refine Go.on (g' := (mkF m 8 _ [(.int (2 : Int32)), (.int (1 : Int32))])) (fun t_ k_ => XS.iconst X1.here hx rfl (hb hby d4_7) k_) ?_
  refine Go.icmp X1 hx hby d4_8 (pcT := 18) (pcF := 11) (by decide) (by decide) rfl (fun q => ?_) (fun q => absurd q (by decide))
  clear q
  show Go p e below _ _ (mkF m 18 _ [])
  refine Go.on (g' := (mkF m 19 _ [(.int (0 : Int32))])) (fun t_ k_ => XS.iconst X1.here hx rfl (hb hby d4_18) k_) ?_
  refine Go.on (g' := (mkF m 21 #[.val (.int (1 : Int32)), .val (.int x), .val (.int y), .val (.int z), .val (.int (own_pos x)), .val (.int (0 : Int32)), .unset, .unset] [])) (fun t_ k_ => XS.istore X1.here hx rfl (hb hby d4_19) rfl (l' := #[.val (.int (1 : Int32)), .val (.int x), .val (.int y), .val (.int z), .val (.int (own_pos x)), .val (.int (0 : Int32)), .unset, .unset]) rfl k_) ?_
  refine Go.on (g' := (mkF m 22 _ [(.int (1 : Int32))])) (fun t_ k_ => XS.iloadN X1.here hx rfl (hb hby d4_21) rfl k_) ?_
  refine Go.on (g' := (mkF m 23 _ [(.int (3 : Int32)), (.int (1 : Int32))])) (fun t_ k_ => XS.iconst X1.here hx rfl (hb hby d4_22) k_) ?_
  refine Go.icmp X1 hx hby d4_23 (pcT := 33) (pcF := 26) (by decide) (by decide) rfl (fun q => ?_) (fun q => absurd q (by decide))
  clear q
  show Go p e below _ _ (mkF m 33 _ [])
  refine Go.on (g' := (mkF m 34 _ [(.int (0 : Int32))])) (fun t_ k_ => XS.iconst X1.here hx rfl (hb hby d4_33) k_) ?_
  refine Go.on (g' := (mkF m 36 #[.val (.int (1 : Int32)), .val (.int x), .val (.int y), .val (.int z), .val (.int (own_pos x)), .val (.int (0 : Int32)), .val (.int (0 : Int32)), .unset] [])) (fun t_ k_ => XS.istore X1.here hx rfl (hb hby d4_34) rfl (l' := #[.val (.int (1 : Int32)), .val (.int x), .val (.int y), .val (.int z), .val (.int (own_pos x)), .val (.int (0 : Int32)), .val (.int (0 : Int32)), .unset]) rfl k_) ?_
  refine Go.on (g' := (mkF m 38 _ [(.int (own_pos x))])) (fun t_ k_ => XS.iload X1.here hx rfl (hb hby d4_36) rfl k_) ?_
  refine Go.on (g' := (mkF m 40 _ [(.int (0 : Int32)), (.int (own_pos x))])) (fun t_ k_ => XS.iload X1.here hx rfl (hb hby d4_38) rfl k_) ?_
  refine Go.on (g' := (mkF m 42 _ [(.int (0 : Int32)), (.int (0 : Int32)), (.int (own_pos x))])) (fun t_ k_ => XS.iload X1.here hx rfl (hb hby d4_40) rfl k_) ?_
  refine Go.callS X1 hx hZ hby (by rw [hml]; rfl) (y := (⟨"java/lang/Math", "max", "(II)I"⟩ : MethodName)) hown (hw _ (List.mem_of_getElem? (i := 8) rfl)) (hw _ (List.mem_of_getElem? (i := 9) rfl)) (hw _ (List.mem_of_getElem? (i := 10) rfl)) (hw _ (List.mem_of_getElem? (i := 11) rfl)) (by decide) (argsL := [(.int (0 : Int32)), (.int (0 : Int32))]) (rest := [(.int (own_pos x))]) (rmM l Z w0 hw [] (0 : Int32) (0 : Int32) h0) e1 1 (by decide) (by decide) (by decide) (by decide) rfl pdM rfl (Nat.le_of_eq rfl) d4_42 (pcF := 45) rfl ?_
  intro v2 T2 L2 X2 hQ2
  obtain ⟨rfl, rfl, e2⟩ := hQ2
  rw [List.append_nil] at X2
  show Go p e below _ _ (mkF m 45 _ [(.int (own_max (0 : Int32) (0 : Int32))), (.int (own_pos x))])
  refine Go.callS X2 hx hZ hby (by rw [hml]; rfl) (y := (⟨"java/lang/Math", "max", "(II)I"⟩ : MethodName)) hown (hw _ (List.mem_of_getElem? (i := 8) rfl)) (hw _ (List.mem_of_getElem? (i := 9) rfl)) (hw _ (List.mem_of_getElem? (i := 10) rfl)) (hw _ (List.mem_of_getElem? (i := 11) rfl)) (by decide) (argsL := [(.int (own_pos x)), (.int (own_max (0 : Int32) (0 : Int32)))]) (rest := []) (rmM l Z w0 hw [] (own_pos x) (own_max (0 : Int32) (0 : Int32)) h0) e2 0 (by decide) (by decide) (by decide) (by decide) rfl pdM rfl (Nat.le_of_eq rfl) d4_45 (pcF := 48) rfl ?_
  intro v3 T3 L3 X3 hQ3
  obtain ⟨rfl, rfl, e3⟩ := hQ3
  rw [List.append_nil] at X3
  show Go p e below _ _ (mkF m 48 _ [(.int (own_max (own_pos x) (own_max (0 : Int32) (0 : Int32))))])
  refine Go.on (g' := (mkF m 50 #[.val (.int (1 : Int32)), .val (.int x), .val (.int y), .val (.int z), .val (.int (own_pos x)), .val (.int (0 : Int32)), .val (.int (0 : Int32)), .val (.int (own_max (own_pos x) (own_max (0 : Int32) (0 : Int32))))] [])) (fun t_ k_ => XS.istore X3.here hx rfl (hb hby d4_48) rfl (l' := #[.val (.int (1 : Int32)), .val (.int x), .val (.int y), .val (.int z), .val (.int (own_pos x)), .val (.int (0 : Int32)), .val (.int (0 : Int32)), .val (.int (own_max (own_pos x) (own_max (0 : Int32) (0 : Int32))))]) rfl k_) ?_
  obtain ⟨qq, hqq⟩ : ∃ z_ : Int32, z_ = (own_max (own_pos x) (own_max (0 : Int32) (0 : Int32))) := ⟨_, rfl⟩
  rw [← hqq]
  refine Go.on (g' := (mkF m 52 _ [(.int qq)])) (fun t_ k_ => XS.iload X3.here hx rfl (hb hby d4_50) rfl k_) ?_
  refine Go.ifc X3 hx hby d4_52 (pcT := 57) (pcF := 55) (by decide) (by decide) rfl (fun q => ?_) (fun q => ?_)
  · have q1 := iNe.1 q
    clear q
    show Go p e below _ _ (mkF m 57 _ [])
    refine Go.on (g' := (mkF m 58 _ [(.int (1 : Int32))])) (fun t_ k_ => XS.iloadN X3.here hx rfl (hb hby d4_57) rfl k_) ?_
    refine Go.on (g' := (mkF m 59 _ [(.int (3 : Int32)), (.int (1 : Int32))])) (fun t_ k_ => XS.iconst X3.here hx rfl (hb hby d4_58) k_) ?_
    refine Go.icmp X3 hx hby d4_59 (pcT := 71) (pcF := 62) (by decide) (by decide) rfl (fun q => ?_) (fun q => absurd q (by decide))
    clear q
    show Go p e below _ _ (mkF m 71 _ [])
    refine Go.on (g' := (mkF m 72 _ [(.int (1 : Int32))])) (fun t_ k_ => XS.iloadN X3.here hx rfl (hb hby d4_71) rfl k_) ?_
    refine Go.on (g' := (mkF m 73 _ [(.int (2 : Int32)), (.int (1 : Int32))])) (fun t_ k_ => XS.iconst X3.here hx rfl (hb hby d4_72) k_) ?_
    refine Go.icmp X3 hx hby d4_73 (pcT := 85) (pcF := 76) (by decide) (by decide) rfl (fun q => ?_) (fun q => absurd q (by decide))
    clear q
    show Go p e below _ _ (mkF m 85 _ [])
    refine Go.on (g' := (mkF m 86 _ [(.int (0 : Int32))])) (fun t_ k_ => XS.iconst X3.here hx rfl (hb hby d4_85) k_) ?_
    exact Go.retI X3 hx hlk hret hby d4_86 rfl (by simp) (by decide) (by decide) ⟨by rw [own_lb1, ← hqq, if_neg q1, if_neg (fun z => z.1 (by decide)), if_neg (fun z => z.1 (by decide))], rfl, e3⟩
  · have q1 := iNe.2 q
    clear q
    show Go p e below _ _ (mkF m 55 _ [])
    refine Go.on (g' := (mkF m 56 _ [(.int ((-1) : Int32))])) (fun t_ k_ => XS.iconst X3.here hx rfl (hb hby d4_55) k_) ?_
    exact Go.retI X3 hx hlk hret hby d4_56 rfl (by simp) (by decide) (by decide) ⟨by rw [own_lb1, ← hqq, if_pos q1], rfl, e3⟩
theorem own_lb2 (x y z : Int32) : own_lb 2 x y z = if own_max (own_pos x) (own_max (own_pos y) ((0 : Int32))) = 0 then (-1) else if ¬ (2 : Int32) < 3 ∧ (0 : Int32) = own_max (own_pos x) (own_max (own_pos y) ((0 : Int32))) then 2 else if ¬ (2 : Int32) < 2 ∧ own_pos y = own_max (own_pos x) (own_max (own_pos y) ((0 : Int32))) then 1 else 0 := rfl
set_option maxRecDepth 65536 in
set_option maxHeartbeats 40000000 in
theorem rmLb2 (l : Launch) (Z : State) (w0 : Array Value) (hw : ∀ d ∈ tables_1, d.before w0 Z = true) (ws : List Jvm.Cond) (x y z : Int32) (h0 : Heap) : Pact l Z (⟨"com/example/same_shape/sameshape/service/OrderedPairingPairPinLaw", "lastBest", "(IIII)I"⟩ : MethodName) method_4_code 8 (some .int) ws ({ frames := 2, cells := 0, slots := 0, locals := 25 } : Room) #[.int (2 : Int32), .int x, .int y, .int z] h0 (own_QR h0 (.int (own_lb 2 x y z))) := by
  refine Pact.intro (plainFor_of_name pnLaw) ?_
  intro p e s m below meth c T0 X0 hx hby hml hret hlk hown hnm hZ e0
  refine Go.at (efLb m (2 : Int32) x y z) ?_
  refine Go.on (g' := (mkF m 1 _ [(.int x)])) (fun t_ k_ => XS.iloadN X0.here hx rfl (hb hby d4_0) rfl k_) ?_
  refine Go.callS X0 hx hZ hby (by rw [hml]; rfl) (y := (⟨"com/example/same_shape/sameshape/service/OrderedPairingPairPinLaw", "pos", "(I)I"⟩ : MethodName)) hown (hw _ (List.mem_of_getElem? (i := 5) rfl)) (hw _ (List.mem_of_getElem? (i := 6) rfl)) (hw _ (List.mem_of_getElem? (i := 3) rfl)) (hw _ (List.mem_of_getElem? (i := 7) rfl)) (by decide) (argsL := [(.int x)]) (rest := []) (rmPos l Z w0 hw [] x h0) e0 0 (by decide) (by decide) (by decide) (by decide) rfl pdPos rfl (Nat.le_of_eq rfl) d4_1 (pcF := 4) rfl ?_
  intro v1 T1 L1 X1 hQ1
  obtain ⟨rfl, rfl, e1⟩ := hQ1
  rw [List.append_nil] at X1
  show Go p e below _ _ (mkF m 4 _ [(.int (own_pos x))])
  refine Go.on (g' := (mkF m 6 #[.val (.int (2 : Int32)), .val (.int x), .val (.int y), .val (.int z), .val (.int (own_pos x)), .unset, .unset, .unset] [])) (fun t_ k_ => XS.istore X1.here hx rfl (hb hby d4_4) rfl (l' := #[.val (.int (2 : Int32)), .val (.int x), .val (.int y), .val (.int z), .val (.int (own_pos x)), .unset, .unset, .unset]) rfl k_) ?_
  refine Go.on (g' := (mkF m 7 _ [(.int (2 : Int32))])) (fun t_ k_ => XS.iloadN X1.here hx rfl (hb hby d4_6) rfl k_) ?_
  refine Go.on (g' := (mkF m 8 _ [(.int (2 : Int32)), (.int (2 : Int32))])) (fun t_ k_ => XS.iconst X1.here hx rfl (hb hby d4_7) k_) ?_
  refine Go.icmp X1 hx hby d4_8 (pcT := 18) (pcF := 11) (by decide) (by decide) rfl (fun q => absurd q (by decide)) (fun q => ?_)
  clear q
  show Go p e below _ _ (mkF m 11 _ [])
  refine Go.on (g' := (mkF m 12 _ [(.int y)])) (fun t_ k_ => XS.iloadN X1.here hx rfl (hb hby d4_11) rfl k_) ?_
  refine Go.callS X1 hx hZ hby (by rw [hml]; rfl) (y := (⟨"com/example/same_shape/sameshape/service/OrderedPairingPairPinLaw", "pos", "(I)I"⟩ : MethodName)) hown (hw _ (List.mem_of_getElem? (i := 5) rfl)) (hw _ (List.mem_of_getElem? (i := 6) rfl)) (hw _ (List.mem_of_getElem? (i := 3) rfl)) (hw _ (List.mem_of_getElem? (i := 7) rfl)) (by decide) (argsL := [(.int y)]) (rest := []) (rmPos l Z w0 hw [] y h0) e1 0 (by decide) (by decide) (by decide) (by decide) rfl pdPos rfl (Nat.le_of_eq rfl) d4_12 (pcF := 15) rfl ?_
  intro v2 T2 L2 X2 hQ2
  obtain ⟨rfl, rfl, e2⟩ := hQ2
  rw [List.append_nil] at X2
  show Go p e below _ _ (mkF m 15 _ [(.int (own_pos y))])
  refine Go.on (g' := (mkF m 19 _ [(.int (own_pos y))])) (fun t_ k_ => XS.goto X2.here hx rfl (pc0 := 15) (pc' := 19) rfl (hb hby d4_15) (by decide) (by decide) k_) ?_
  refine Go.on (g' := (mkF m 21 #[.val (.int (2 : Int32)), .val (.int x), .val (.int y), .val (.int z), .val (.int (own_pos x)), .val (.int (own_pos y)), .unset, .unset] [])) (fun t_ k_ => XS.istore X2.here hx rfl (hb hby d4_19) rfl (l' := #[.val (.int (2 : Int32)), .val (.int x), .val (.int y), .val (.int z), .val (.int (own_pos x)), .val (.int (own_pos y)), .unset, .unset]) rfl k_) ?_
  refine Go.on (g' := (mkF m 22 _ [(.int (2 : Int32))])) (fun t_ k_ => XS.iloadN X2.here hx rfl (hb hby d4_21) rfl k_) ?_
  refine Go.on (g' := (mkF m 23 _ [(.int (3 : Int32)), (.int (2 : Int32))])) (fun t_ k_ => XS.iconst X2.here hx rfl (hb hby d4_22) k_) ?_
  refine Go.icmp X2 hx hby d4_23 (pcT := 33) (pcF := 26) (by decide) (by decide) rfl (fun q => ?_) (fun q => absurd q (by decide))
  clear q
  show Go p e below _ _ (mkF m 33 _ [])
  refine Go.on (g' := (mkF m 34 _ [(.int (0 : Int32))])) (fun t_ k_ => XS.iconst X2.here hx rfl (hb hby d4_33) k_) ?_
  refine Go.on (g' := (mkF m 36 #[.val (.int (2 : Int32)), .val (.int x), .val (.int y), .val (.int z), .val (.int (own_pos x)), .val (.int (own_pos y)), .val (.int (0 : Int32)), .unset] [])) (fun t_ k_ => XS.istore X2.here hx rfl (hb hby d4_34) rfl (l' := #[.val (.int (2 : Int32)), .val (.int x), .val (.int y), .val (.int z), .val (.int (own_pos x)), .val (.int (own_pos y)), .val (.int (0 : Int32)), .unset]) rfl k_) ?_
  refine Go.on (g' := (mkF m 38 _ [(.int (own_pos x))])) (fun t_ k_ => XS.iload X2.here hx rfl (hb hby d4_36) rfl k_) ?_
  refine Go.on (g' := (mkF m 40 _ [(.int (own_pos y)), (.int (own_pos x))])) (fun t_ k_ => XS.iload X2.here hx rfl (hb hby d4_38) rfl k_) ?_
  refine Go.on (g' := (mkF m 42 _ [(.int (0 : Int32)), (.int (own_pos y)), (.int (own_pos x))])) (fun t_ k_ => XS.iload X2.here hx rfl (hb hby d4_40) rfl k_) ?_
  refine Go.callS X2 hx hZ hby (by rw [hml]; rfl) (y := (⟨"java/lang/Math", "max", "(II)I"⟩ : MethodName)) hown (hw _ (List.mem_of_getElem? (i := 8) rfl)) (hw _ (List.mem_of_getElem? (i := 9) rfl)) (hw _ (List.mem_of_getElem? (i := 10) rfl)) (hw _ (List.mem_of_getElem? (i := 11) rfl)) (by decide) (argsL := [(.int (own_pos y)), (.int (0 : Int32))]) (rest := [(.int (own_pos x))]) (rmM l Z w0 hw [] (own_pos y) (0 : Int32) h0) e2 1 (by decide) (by decide) (by decide) (by decide) rfl pdM rfl (Nat.le_of_eq rfl) d4_42 (pcF := 45) rfl ?_
  intro v3 T3 L3 X3 hQ3
  obtain ⟨rfl, rfl, e3⟩ := hQ3
  rw [List.append_nil] at X3
  show Go p e below _ _ (mkF m 45 _ [(.int (own_max (own_pos y) (0 : Int32))), (.int (own_pos x))])
  refine Go.callS X3 hx hZ hby (by rw [hml]; rfl) (y := (⟨"java/lang/Math", "max", "(II)I"⟩ : MethodName)) hown (hw _ (List.mem_of_getElem? (i := 8) rfl)) (hw _ (List.mem_of_getElem? (i := 9) rfl)) (hw _ (List.mem_of_getElem? (i := 10) rfl)) (hw _ (List.mem_of_getElem? (i := 11) rfl)) (by decide) (argsL := [(.int (own_pos x)), (.int (own_max (own_pos y) (0 : Int32)))]) (rest := []) (rmM l Z w0 hw [] (own_pos x) (own_max (own_pos y) (0 : Int32)) h0) e3 0 (by decide) (by decide) (by decide) (by decide) rfl pdM rfl (Nat.le_of_eq rfl) d4_45 (pcF := 48) rfl ?_
  intro v4 T4 L4 X4 hQ4
  obtain ⟨rfl, rfl, e4⟩ := hQ4
  rw [List.append_nil] at X4
  show Go p e below _ _ (mkF m 48 _ [(.int (own_max (own_pos x) (own_max (own_pos y) (0 : Int32))))])
  refine Go.on (g' := (mkF m 50 #[.val (.int (2 : Int32)), .val (.int x), .val (.int y), .val (.int z), .val (.int (own_pos x)), .val (.int (own_pos y)), .val (.int (0 : Int32)), .val (.int (own_max (own_pos x) (own_max (own_pos y) (0 : Int32))))] [])) (fun t_ k_ => XS.istore X4.here hx rfl (hb hby d4_48) rfl (l' := #[.val (.int (2 : Int32)), .val (.int x), .val (.int y), .val (.int z), .val (.int (own_pos x)), .val (.int (own_pos y)), .val (.int (0 : Int32)), .val (.int (own_max (own_pos x) (own_max (own_pos y) (0 : Int32))))]) rfl k_) ?_
  obtain ⟨qq, hqq⟩ : ∃ z_ : Int32, z_ = (own_max (own_pos x) (own_max (own_pos y) (0 : Int32))) := ⟨_, rfl⟩
  rw [← hqq]
  refine Go.on (g' := (mkF m 52 _ [(.int qq)])) (fun t_ k_ => XS.iload X4.here hx rfl (hb hby d4_50) rfl k_) ?_
  refine Go.ifc X4 hx hby d4_52 (pcT := 57) (pcF := 55) (by decide) (by decide) rfl (fun q => ?_) (fun q => ?_)
  · have q1 := iNe.1 q
    clear q
    show Go p e below _ _ (mkF m 57 _ [])
    refine Go.on (g' := (mkF m 58 _ [(.int (2 : Int32))])) (fun t_ k_ => XS.iloadN X4.here hx rfl (hb hby d4_57) rfl k_) ?_
    refine Go.on (g' := (mkF m 59 _ [(.int (3 : Int32)), (.int (2 : Int32))])) (fun t_ k_ => XS.iconst X4.here hx rfl (hb hby d4_58) k_) ?_
    refine Go.icmp X4 hx hby d4_59 (pcT := 71) (pcF := 62) (by decide) (by decide) rfl (fun q => ?_) (fun q => absurd q (by decide))
    clear q
    show Go p e below _ _ (mkF m 71 _ [])
    refine Go.on (g' := (mkF m 72 _ [(.int (2 : Int32))])) (fun t_ k_ => XS.iloadN X4.here hx rfl (hb hby d4_71) rfl k_) ?_
    refine Go.on (g' := (mkF m 73 _ [(.int (2 : Int32)), (.int (2 : Int32))])) (fun t_ k_ => XS.iconst X4.here hx rfl (hb hby d4_72) k_) ?_
    refine Go.icmp X4 hx hby d4_73 (pcT := 85) (pcF := 76) (by decide) (by decide) rfl (fun q => absurd q (by decide)) (fun q => ?_)
    clear q
    show Go p e below _ _ (mkF m 76 _ [])
    refine Go.on (g' := (mkF m 78 _ [(.int (own_pos y))])) (fun t_ k_ => XS.iload X4.here hx rfl (hb hby d4_76) rfl k_) ?_
    refine Go.on (g' := (mkF m 80 _ [(.int qq), (.int (own_pos y))])) (fun t_ k_ => XS.iload X4.here hx rfl (hb hby d4_78) rfl k_) ?_
    refine Go.icmp X4 hx hby d4_80 (pcT := 85) (pcF := 83) (by decide) (by decide) rfl (fun q => ?_) (fun q => ?_)
    · have q2 := iNe.1 q
      clear q
      show Go p e below _ _ (mkF m 85 _ [])
      refine Go.on (g' := (mkF m 86 _ [(.int (0 : Int32))])) (fun t_ k_ => XS.iconst X4.here hx rfl (hb hby d4_85) k_) ?_
      exact Go.retI X4 hx hlk hret hby d4_86 rfl (by simp) (by decide) (by decide) ⟨by rw [own_lb2, ← hqq, if_neg q1, if_neg (fun z => z.1 (by decide)), if_neg (fun z => q2 z.2)], rfl, e4⟩
    · have q2 := iNe.2 q
      clear q
      show Go p e below _ _ (mkF m 83 _ [])
      refine Go.on (g' := (mkF m 84 _ [(.int (1 : Int32))])) (fun t_ k_ => XS.iconst X4.here hx rfl (hb hby d4_83) k_) ?_
      exact Go.retI X4 hx hlk hret hby d4_84 rfl (by simp) (by decide) (by decide) ⟨by rw [own_lb2, ← hqq, if_neg q1, if_neg (fun z => z.1 (by decide)), if_pos ⟨by decide, q2⟩], rfl, e4⟩
  · have q1 := iNe.2 q
    clear q
    show Go p e below _ _ (mkF m 55 _ [])
    refine Go.on (g' := (mkF m 56 _ [(.int ((-1) : Int32))])) (fun t_ k_ => XS.iconst X4.here hx rfl (hb hby d4_55) k_) ?_
    exact Go.retI X4 hx hlk hret hby d4_56 rfl (by simp) (by decide) (by decide) ⟨by rw [own_lb2, ← hqq, if_pos q1], rfl, e4⟩
theorem own_lb3 (x y z : Int32) : own_lb 3 x y z = if own_max (own_pos x) (own_max (own_pos y) (own_pos z)) = 0 then (-1) else if ¬ (3 : Int32) < 3 ∧ own_pos z = own_max (own_pos x) (own_max (own_pos y) (own_pos z)) then 2 else if ¬ (3 : Int32) < 2 ∧ own_pos y = own_max (own_pos x) (own_max (own_pos y) (own_pos z)) then 1 else 0 := rfl
set_option maxRecDepth 65536 in
set_option maxHeartbeats 40000000 in
theorem rmLb3 (l : Launch) (Z : State) (w0 : Array Value) (hw : ∀ d ∈ tables_1, d.before w0 Z = true) (ws : List Jvm.Cond) (x y z : Int32) (h0 : Heap) : Pact l Z (⟨"com/example/same_shape/sameshape/service/OrderedPairingPairPinLaw", "lastBest", "(IIII)I"⟩ : MethodName) method_4_code 8 (some .int) ws ({ frames := 2, cells := 0, slots := 0, locals := 25 } : Room) #[.int (3 : Int32), .int x, .int y, .int z] h0 (own_QR h0 (.int (own_lb 3 x y z))) := by
  refine Pact.intro (plainFor_of_name pnLaw) ?_
  intro p e s m below meth c T0 X0 hx hby hml hret hlk hown hnm hZ e0
  refine Go.at (efLb m (3 : Int32) x y z) ?_
  refine Go.on (g' := (mkF m 1 _ [(.int x)])) (fun t_ k_ => XS.iloadN X0.here hx rfl (hb hby d4_0) rfl k_) ?_
  refine Go.callS X0 hx hZ hby (by rw [hml]; rfl) (y := (⟨"com/example/same_shape/sameshape/service/OrderedPairingPairPinLaw", "pos", "(I)I"⟩ : MethodName)) hown (hw _ (List.mem_of_getElem? (i := 5) rfl)) (hw _ (List.mem_of_getElem? (i := 6) rfl)) (hw _ (List.mem_of_getElem? (i := 3) rfl)) (hw _ (List.mem_of_getElem? (i := 7) rfl)) (by decide) (argsL := [(.int x)]) (rest := []) (rmPos l Z w0 hw [] x h0) e0 0 (by decide) (by decide) (by decide) (by decide) rfl pdPos rfl (Nat.le_of_eq rfl) d4_1 (pcF := 4) rfl ?_
  intro v1 T1 L1 X1 hQ1
  obtain ⟨rfl, rfl, e1⟩ := hQ1
  rw [List.append_nil] at X1
  show Go p e below _ _ (mkF m 4 _ [(.int (own_pos x))])
  refine Go.on (g' := (mkF m 6 #[.val (.int (3 : Int32)), .val (.int x), .val (.int y), .val (.int z), .val (.int (own_pos x)), .unset, .unset, .unset] [])) (fun t_ k_ => XS.istore X1.here hx rfl (hb hby d4_4) rfl (l' := #[.val (.int (3 : Int32)), .val (.int x), .val (.int y), .val (.int z), .val (.int (own_pos x)), .unset, .unset, .unset]) rfl k_) ?_
  refine Go.on (g' := (mkF m 7 _ [(.int (3 : Int32))])) (fun t_ k_ => XS.iloadN X1.here hx rfl (hb hby d4_6) rfl k_) ?_
  refine Go.on (g' := (mkF m 8 _ [(.int (2 : Int32)), (.int (3 : Int32))])) (fun t_ k_ => XS.iconst X1.here hx rfl (hb hby d4_7) k_) ?_
  refine Go.icmp X1 hx hby d4_8 (pcT := 18) (pcF := 11) (by decide) (by decide) rfl (fun q => absurd q (by decide)) (fun q => ?_)
  clear q
  show Go p e below _ _ (mkF m 11 _ [])
  refine Go.on (g' := (mkF m 12 _ [(.int y)])) (fun t_ k_ => XS.iloadN X1.here hx rfl (hb hby d4_11) rfl k_) ?_
  refine Go.callS X1 hx hZ hby (by rw [hml]; rfl) (y := (⟨"com/example/same_shape/sameshape/service/OrderedPairingPairPinLaw", "pos", "(I)I"⟩ : MethodName)) hown (hw _ (List.mem_of_getElem? (i := 5) rfl)) (hw _ (List.mem_of_getElem? (i := 6) rfl)) (hw _ (List.mem_of_getElem? (i := 3) rfl)) (hw _ (List.mem_of_getElem? (i := 7) rfl)) (by decide) (argsL := [(.int y)]) (rest := []) (rmPos l Z w0 hw [] y h0) e1 0 (by decide) (by decide) (by decide) (by decide) rfl pdPos rfl (Nat.le_of_eq rfl) d4_12 (pcF := 15) rfl ?_
  intro v2 T2 L2 X2 hQ2
  obtain ⟨rfl, rfl, e2⟩ := hQ2
  rw [List.append_nil] at X2
  show Go p e below _ _ (mkF m 15 _ [(.int (own_pos y))])
  refine Go.on (g' := (mkF m 19 _ [(.int (own_pos y))])) (fun t_ k_ => XS.goto X2.here hx rfl (pc0 := 15) (pc' := 19) rfl (hb hby d4_15) (by decide) (by decide) k_) ?_
  refine Go.on (g' := (mkF m 21 #[.val (.int (3 : Int32)), .val (.int x), .val (.int y), .val (.int z), .val (.int (own_pos x)), .val (.int (own_pos y)), .unset, .unset] [])) (fun t_ k_ => XS.istore X2.here hx rfl (hb hby d4_19) rfl (l' := #[.val (.int (3 : Int32)), .val (.int x), .val (.int y), .val (.int z), .val (.int (own_pos x)), .val (.int (own_pos y)), .unset, .unset]) rfl k_) ?_
  refine Go.on (g' := (mkF m 22 _ [(.int (3 : Int32))])) (fun t_ k_ => XS.iloadN X2.here hx rfl (hb hby d4_21) rfl k_) ?_
  refine Go.on (g' := (mkF m 23 _ [(.int (3 : Int32)), (.int (3 : Int32))])) (fun t_ k_ => XS.iconst X2.here hx rfl (hb hby d4_22) k_) ?_
  refine Go.icmp X2 hx hby d4_23 (pcT := 33) (pcF := 26) (by decide) (by decide) rfl (fun q => absurd q (by decide)) (fun q => ?_)
  clear q
  show Go p e below _ _ (mkF m 26 _ [])
  refine Go.on (g' := (mkF m 27 _ [(.int z)])) (fun t_ k_ => XS.iloadN X2.here hx rfl (hb hby d4_26) rfl k_) ?_
  refine Go.callS X2 hx hZ hby (by rw [hml]; rfl) (y := (⟨"com/example/same_shape/sameshape/service/OrderedPairingPairPinLaw", "pos", "(I)I"⟩ : MethodName)) hown (hw _ (List.mem_of_getElem? (i := 5) rfl)) (hw _ (List.mem_of_getElem? (i := 6) rfl)) (hw _ (List.mem_of_getElem? (i := 3) rfl)) (hw _ (List.mem_of_getElem? (i := 7) rfl)) (by decide) (argsL := [(.int z)]) (rest := []) (rmPos l Z w0 hw [] z h0) e2 0 (by decide) (by decide) (by decide) (by decide) rfl pdPos rfl (Nat.le_of_eq rfl) d4_27 (pcF := 30) rfl ?_
  intro v3 T3 L3 X3 hQ3
  obtain ⟨rfl, rfl, e3⟩ := hQ3
  rw [List.append_nil] at X3
  show Go p e below _ _ (mkF m 30 _ [(.int (own_pos z))])
  refine Go.on (g' := (mkF m 34 _ [(.int (own_pos z))])) (fun t_ k_ => XS.goto X3.here hx rfl (pc0 := 30) (pc' := 34) rfl (hb hby d4_30) (by decide) (by decide) k_) ?_
  refine Go.on (g' := (mkF m 36 #[.val (.int (3 : Int32)), .val (.int x), .val (.int y), .val (.int z), .val (.int (own_pos x)), .val (.int (own_pos y)), .val (.int (own_pos z)), .unset] [])) (fun t_ k_ => XS.istore X3.here hx rfl (hb hby d4_34) rfl (l' := #[.val (.int (3 : Int32)), .val (.int x), .val (.int y), .val (.int z), .val (.int (own_pos x)), .val (.int (own_pos y)), .val (.int (own_pos z)), .unset]) rfl k_) ?_
  refine Go.on (g' := (mkF m 38 _ [(.int (own_pos x))])) (fun t_ k_ => XS.iload X3.here hx rfl (hb hby d4_36) rfl k_) ?_
  refine Go.on (g' := (mkF m 40 _ [(.int (own_pos y)), (.int (own_pos x))])) (fun t_ k_ => XS.iload X3.here hx rfl (hb hby d4_38) rfl k_) ?_
  refine Go.on (g' := (mkF m 42 _ [(.int (own_pos z)), (.int (own_pos y)), (.int (own_pos x))])) (fun t_ k_ => XS.iload X3.here hx rfl (hb hby d4_40) rfl k_) ?_
  refine Go.callS X3 hx hZ hby (by rw [hml]; rfl) (y := (⟨"java/lang/Math", "max", "(II)I"⟩ : MethodName)) hown (hw _ (List.mem_of_getElem? (i := 8) rfl)) (hw _ (List.mem_of_getElem? (i := 9) rfl)) (hw _ (List.mem_of_getElem? (i := 10) rfl)) (hw _ (List.mem_of_getElem? (i := 11) rfl)) (by decide) (argsL := [(.int (own_pos y)), (.int (own_pos z))]) (rest := [(.int (own_pos x))]) (rmM l Z w0 hw [] (own_pos y) (own_pos z) h0) e3 1 (by decide) (by decide) (by decide) (by decide) rfl pdM rfl (Nat.le_of_eq rfl) d4_42 (pcF := 45) rfl ?_
  intro v4 T4 L4 X4 hQ4
  obtain ⟨rfl, rfl, e4⟩ := hQ4
  rw [List.append_nil] at X4
  show Go p e below _ _ (mkF m 45 _ [(.int (own_max (own_pos y) (own_pos z))), (.int (own_pos x))])
  refine Go.callS X4 hx hZ hby (by rw [hml]; rfl) (y := (⟨"java/lang/Math", "max", "(II)I"⟩ : MethodName)) hown (hw _ (List.mem_of_getElem? (i := 8) rfl)) (hw _ (List.mem_of_getElem? (i := 9) rfl)) (hw _ (List.mem_of_getElem? (i := 10) rfl)) (hw _ (List.mem_of_getElem? (i := 11) rfl)) (by decide) (argsL := [(.int (own_pos x)), (.int (own_max (own_pos y) (own_pos z)))]) (rest := []) (rmM l Z w0 hw [] (own_pos x) (own_max (own_pos y) (own_pos z)) h0) e4 0 (by decide) (by decide) (by decide) (by decide) rfl pdM rfl (Nat.le_of_eq rfl) d4_45 (pcF := 48) rfl ?_
  intro v5 T5 L5 X5 hQ5
  obtain ⟨rfl, rfl, e5⟩ := hQ5
  rw [List.append_nil] at X5
  show Go p e below _ _ (mkF m 48 _ [(.int (own_max (own_pos x) (own_max (own_pos y) (own_pos z))))])
  refine Go.on (g' := (mkF m 50 #[.val (.int (3 : Int32)), .val (.int x), .val (.int y), .val (.int z), .val (.int (own_pos x)), .val (.int (own_pos y)), .val (.int (own_pos z)), .val (.int (own_max (own_pos x) (own_max (own_pos y) (own_pos z))))] [])) (fun t_ k_ => XS.istore X5.here hx rfl (hb hby d4_48) rfl (l' := #[.val (.int (3 : Int32)), .val (.int x), .val (.int y), .val (.int z), .val (.int (own_pos x)), .val (.int (own_pos y)), .val (.int (own_pos z)), .val (.int (own_max (own_pos x) (own_max (own_pos y) (own_pos z))))]) rfl k_) ?_
  obtain ⟨qq, hqq⟩ : ∃ z_ : Int32, z_ = (own_max (own_pos x) (own_max (own_pos y) (own_pos z))) := ⟨_, rfl⟩
  rw [← hqq]
  refine Go.on (g' := (mkF m 52 _ [(.int qq)])) (fun t_ k_ => XS.iload X5.here hx rfl (hb hby d4_50) rfl k_) ?_
  refine Go.ifc X5 hx hby d4_52 (pcT := 57) (pcF := 55) (by decide) (by decide) rfl (fun q => ?_) (fun q => ?_)
  · have q1 := iNe.1 q
    clear q
    show Go p e below _ _ (mkF m 57 _ [])
    refine Go.on (g' := (mkF m 58 _ [(.int (3 : Int32))])) (fun t_ k_ => XS.iloadN X5.here hx rfl (hb hby d4_57) rfl k_) ?_
    refine Go.on (g' := (mkF m 59 _ [(.int (3 : Int32)), (.int (3 : Int32))])) (fun t_ k_ => XS.iconst X5.here hx rfl (hb hby d4_58) k_) ?_
    refine Go.icmp X5 hx hby d4_59 (pcT := 71) (pcF := 62) (by decide) (by decide) rfl (fun q => absurd q (by decide)) (fun q => ?_)
    clear q
    show Go p e below _ _ (mkF m 62 _ [])
    refine Go.on (g' := (mkF m 64 _ [(.int (own_pos z))])) (fun t_ k_ => XS.iload X5.here hx rfl (hb hby d4_62) rfl k_) ?_
    refine Go.on (g' := (mkF m 66 _ [(.int qq), (.int (own_pos z))])) (fun t_ k_ => XS.iload X5.here hx rfl (hb hby d4_64) rfl k_) ?_
    refine Go.icmp X5 hx hby d4_66 (pcT := 71) (pcF := 69) (by decide) (by decide) rfl (fun q => ?_) (fun q => ?_)
    · have q2 := iNe.1 q
      clear q
      show Go p e below _ _ (mkF m 71 _ [])
      refine Go.on (g' := (mkF m 72 _ [(.int (3 : Int32))])) (fun t_ k_ => XS.iloadN X5.here hx rfl (hb hby d4_71) rfl k_) ?_
      refine Go.on (g' := (mkF m 73 _ [(.int (2 : Int32)), (.int (3 : Int32))])) (fun t_ k_ => XS.iconst X5.here hx rfl (hb hby d4_72) k_) ?_
      refine Go.icmp X5 hx hby d4_73 (pcT := 85) (pcF := 76) (by decide) (by decide) rfl (fun q => absurd q (by decide)) (fun q => ?_)
      clear q
      show Go p e below _ _ (mkF m 76 _ [])
      refine Go.on (g' := (mkF m 78 _ [(.int (own_pos y))])) (fun t_ k_ => XS.iload X5.here hx rfl (hb hby d4_76) rfl k_) ?_
      refine Go.on (g' := (mkF m 80 _ [(.int qq), (.int (own_pos y))])) (fun t_ k_ => XS.iload X5.here hx rfl (hb hby d4_78) rfl k_) ?_
      refine Go.icmp X5 hx hby d4_80 (pcT := 85) (pcF := 83) (by decide) (by decide) rfl (fun q => ?_) (fun q => ?_)
      · have q3 := iNe.1 q
        clear q
        show Go p e below _ _ (mkF m 85 _ [])
        refine Go.on (g' := (mkF m 86 _ [(.int (0 : Int32))])) (fun t_ k_ => XS.iconst X5.here hx rfl (hb hby d4_85) k_) ?_
        exact Go.retI X5 hx hlk hret hby d4_86 rfl (by simp) (by decide) (by decide) ⟨by rw [own_lb3, ← hqq, if_neg q1, if_neg (fun z => q2 z.2), if_neg (fun z => q3 z.2)], rfl, e5⟩
      · have q3 := iNe.2 q
        clear q
        show Go p e below _ _ (mkF m 83 _ [])
        refine Go.on (g' := (mkF m 84 _ [(.int (1 : Int32))])) (fun t_ k_ => XS.iconst X5.here hx rfl (hb hby d4_83) k_) ?_
        exact Go.retI X5 hx hlk hret hby d4_84 rfl (by simp) (by decide) (by decide) ⟨by rw [own_lb3, ← hqq, if_neg q1, if_neg (fun z => q2 z.2), if_pos ⟨by decide, q3⟩], rfl, e5⟩
    · have q2 := iNe.2 q
      clear q
      show Go p e below _ _ (mkF m 69 _ [])
      refine Go.on (g' := (mkF m 70 _ [(.int (2 : Int32))])) (fun t_ k_ => XS.iconst X5.here hx rfl (hb hby d4_69) k_) ?_
      exact Go.retI X5 hx hlk hret hby d4_70 rfl (by simp) (by decide) (by decide) ⟨by rw [own_lb3, ← hqq, if_neg q1, if_pos ⟨by decide, q2⟩], rfl, e5⟩
  · have q1 := iNe.2 q
    clear q
    show Go p e below _ _ (mkF m 55 _ [])
    refine Go.on (g' := (mkF m 56 _ [(.int ((-1) : Int32))])) (fun t_ k_ => XS.iconst X5.here hx rfl (hb hby d4_55) k_) ?_
    exact Go.retI X5 hx hlk hret hby d4_56 rfl (by simp) (by decide) (by decide) ⟨by rw [own_lb3, ← hqq, if_pos q1], rfl, e5⟩
theorem d1_0 : decode method_5_code 0 = .ok (.iload_n 0, 1) := by decide +kernel
theorem d1_1 : decode method_5_code 1 = .ok (.invokestatic 37, 3) := by decide +kernel
theorem d1_4 : decode method_5_code 4 = .ok (.istore_n 2, 1) := by decide +kernel
theorem d1_5 : decode method_5_code 5 = .ok (.iload_n 1, 1) := by decide +kernel
theorem d1_6 : decode method_5_code 6 = .ok (.invokestatic 37, 3) := by decide +kernel
theorem d1_9 : decode method_5_code 9 = .ok (.istore_n 3, 1) := by decide +kernel
theorem d1_10 : decode method_5_code 10 = .ok (.iload_n 2, 1) := by decide +kernel
theorem d1_11 : decode method_5_code 11 = .ok (.iload_n 3, 1) := by decide +kernel
theorem d1_12 : decode method_5_code 12 = .ok (.invokestatic 31, 3) := by decide +kernel
theorem d1_15 : decode method_5_code 15 = .ok (.istore 4, 2) := by decide +kernel
theorem d1_17 : decode method_5_code 17 = .ok (.iload_n 1, 1) := by decide +kernel
theorem d1_18 : decode method_5_code 18 = .ok (.ifCond .le 21, 3) := by decide +kernel
theorem d1_21 : decode method_5_code 21 = .ok (.iload 4, 2) := by decide +kernel
theorem d1_23 : decode method_5_code 23 = .ok (.iload_n 1, 1) := by decide +kernel
theorem d1_24 : decode method_5_code 24 = .ok (.if_icmp .ne 15, 3) := by decide +kernel
theorem d1_27 : decode method_5_code 27 = .ok (.iconst 2, 1) := by decide +kernel
theorem d1_28 : decode method_5_code 28 = .ok (.newarray .int, 2) := by decide +kernel
theorem d1_30 : decode method_5_code 30 = .ok (.dup, 1) := by decide +kernel
theorem d1_31 : decode method_5_code 31 = .ok (.iconst 0, 1) := by decide +kernel
theorem d1_32 : decode method_5_code 32 = .ok (.iconst (-1), 1) := by decide +kernel
theorem d1_33 : decode method_5_code 33 = .ok (.iastore, 1) := by decide +kernel
theorem d1_34 : decode method_5_code 34 = .ok (.dup, 1) := by decide +kernel
theorem d1_35 : decode method_5_code 35 = .ok (.iconst 1, 1) := by decide +kernel
theorem d1_36 : decode method_5_code 36 = .ok (.iconst 0, 1) := by decide +kernel
theorem d1_37 : decode method_5_code 37 = .ok (.iastore, 1) := by decide +kernel
theorem d1_38 : decode method_5_code 38 = .ok (.areturn, 1) := by decide +kernel
theorem d1_39 : decode method_5_code 39 = .ok (.iload 4, 2) := by decide +kernel
theorem d1_41 : decode method_5_code 41 = .ok (.iload_n 2, 1) := by decide +kernel
theorem d1_42 : decode method_5_code 42 = .ok (.if_icmp .ne 21, 3) := by decide +kernel
theorem d1_45 : decode method_5_code 45 = .ok (.iconst 2, 1) := by decide +kernel
theorem d1_46 : decode method_5_code 46 = .ok (.newarray .int, 2) := by decide +kernel
theorem d1_48 : decode method_5_code 48 = .ok (.dup, 1) := by decide +kernel
theorem d1_49 : decode method_5_code 49 = .ok (.iconst 0, 1) := by decide +kernel
theorem d1_50 : decode method_5_code 50 = .ok (.iconst 1, 1) := by decide +kernel
theorem d1_51 : decode method_5_code 51 = .ok (.iload_n 0, 1) := by decide +kernel
theorem d1_52 : decode method_5_code 52 = .ok (.iconst 0, 1) := by decide +kernel
theorem d1_53 : decode method_5_code 53 = .ok (.iconst 0, 1) := by decide +kernel
theorem d1_54 : decode method_5_code 54 = .ok (.invokestatic 13, 3) := by decide +kernel
theorem d1_57 : decode method_5_code 57 = .ok (.iastore, 1) := by decide +kernel
theorem d1_58 : decode method_5_code 58 = .ok (.dup, 1) := by decide +kernel
theorem d1_59 : decode method_5_code 59 = .ok (.iconst 1, 1) := by decide +kernel
theorem d1_60 : decode method_5_code 60 = .ok (.iconst (-1), 1) := by decide +kernel
theorem d1_61 : decode method_5_code 61 = .ok (.iastore, 1) := by decide +kernel
theorem d1_62 : decode method_5_code 62 = .ok (.areturn, 1) := by decide +kernel
theorem d1_63 : decode method_5_code 63 = .ok (.iconst 2, 1) := by decide +kernel
theorem d1_64 : decode method_5_code 64 = .ok (.newarray .int, 2) := by decide +kernel
theorem d1_66 : decode method_5_code 66 = .ok (.dup, 1) := by decide +kernel
theorem d1_67 : decode method_5_code 67 = .ok (.iconst 0, 1) := by decide +kernel
theorem d1_68 : decode method_5_code 68 = .ok (.iconst (-1), 1) := by decide +kernel
theorem d1_69 : decode method_5_code 69 = .ok (.iastore, 1) := by decide +kernel
theorem d1_70 : decode method_5_code 70 = .ok (.dup, 1) := by decide +kernel
theorem d1_71 : decode method_5_code 71 = .ok (.iconst 1, 1) := by decide +kernel
theorem d1_72 : decode method_5_code 72 = .ok (.iconst (-1), 1) := by decide +kernel
theorem d1_73 : decode method_5_code 73 = .ok (.iastore, 1) := by decide +kernel
theorem d1_74 : decode method_5_code 74 = .ok (.areturn, 1) := by decide +kernel
theorem own_twE (x y : Int32) : own_tw x y = if 0 < y ∧ own_max (own_pos x) (own_pos y) = y then (-1, 0) else if own_max (own_pos x) (own_pos y) = own_pos x then (own_lb 1 x 0 0, -1) else (-1, -1) := rfl
set_option maxRecDepth 65536 in
set_option maxHeartbeats 40000000 in
theorem rmTw (l : Launch) (Z : State) (w0 : Array Value) (hw : ∀ d ∈ tables_1, d.before w0 Z = true) (ws : List Jvm.Cond) (x y : Int32) (h0 : Heap) (n0 : Nat) (Z0 : n0 ≤ h0.size) : Pact l Z (⟨"com/example/same_shape/sameshape/service/OrderedPairingPairPinLaw", "twoByOne", "(II)[I"⟩ : MethodName) method_5_code 5 (some (.array .int)) ws ({ frames := 3, cells := 1, slots := 2, locals := 47 } : Room) #[.int x, .int y] h0 (own_Q2 Z (own_tw x y) h0 n0) := by
  refine Pact.intro (plainFor_of_name pnLaw) ?_
  intro p e s m below meth c T0 X0 hx hby hml hret hlk hown hnm hZ e0
  refine Go.at (efTw m x y) ?_
  have N0 := Fr.nil n0
  have EX0 : Ext h0 h0 := ⟨Nat.le_refl _, fun _ _ q => q⟩
  refine Go.on (g' := (mkF m 1 _ [(.int x)])) (fun t_ k_ => XS.iloadN X0.here hx rfl (hb hby d1_0) rfl k_) ?_
  refine Go.callS X0 hx hZ hby (by rw [hml]; rfl) (y := (⟨"com/example/same_shape/sameshape/service/OrderedPairingPairPinLaw", "pos", "(I)I"⟩ : MethodName)) hown (hw _ (List.mem_of_getElem? (i := 5) rfl)) (hw _ (List.mem_of_getElem? (i := 6) rfl)) (hw _ (List.mem_of_getElem? (i := 3) rfl)) (hw _ (List.mem_of_getElem? (i := 7) rfl)) (by decide) (argsL := [(.int x)]) (rest := []) (rmPos l Z w0 hw [] x h0) e0 0 (by decide) (by decide) (by decide) (by decide) rfl pdPos rfl (Nat.le_of_eq rfl) d1_1 (pcF := 4) rfl ?_
  intro v1 T1 L1 X1 hQ1
  obtain ⟨rfl, rfl, e1⟩ := hQ1
  rw [List.append_nil] at X1
  show Go p e below _ _ (mkF m 4 _ [(.int (own_pos x))])
  refine Go.on (g' := (mkF m 5 #[.val (.int x), .val (.int y), .val (.int (own_pos x)), .unset, .unset] [])) (fun t_ k_ => XS.istoreN X1.here hx rfl (hb hby d1_4) rfl (l' := #[.val (.int x), .val (.int y), .val (.int (own_pos x)), .unset, .unset]) rfl k_) ?_
  refine Go.on (g' := (mkF m 6 _ [(.int y)])) (fun t_ k_ => XS.iloadN X1.here hx rfl (hb hby d1_5) rfl k_) ?_
  refine Go.callS X1 hx hZ hby (by rw [hml]; rfl) (y := (⟨"com/example/same_shape/sameshape/service/OrderedPairingPairPinLaw", "pos", "(I)I"⟩ : MethodName)) hown (hw _ (List.mem_of_getElem? (i := 5) rfl)) (hw _ (List.mem_of_getElem? (i := 6) rfl)) (hw _ (List.mem_of_getElem? (i := 3) rfl)) (hw _ (List.mem_of_getElem? (i := 7) rfl)) (by decide) (argsL := [(.int y)]) (rest := []) (rmPos l Z w0 hw [] y h0) e1 0 (by decide) (by decide) (by decide) (by decide) rfl pdPos rfl (Nat.le_of_eq rfl) d1_6 (pcF := 9) rfl ?_
  intro v2 T2 L2 X2 hQ2
  obtain ⟨rfl, rfl, e2⟩ := hQ2
  rw [List.append_nil] at X2
  show Go p e below _ _ (mkF m 9 _ [(.int (own_pos y))])
  refine Go.on (g' := (mkF m 10 #[.val (.int x), .val (.int y), .val (.int (own_pos x)), .val (.int (own_pos y)), .unset] [])) (fun t_ k_ => XS.istoreN X2.here hx rfl (hb hby d1_9) rfl (l' := #[.val (.int x), .val (.int y), .val (.int (own_pos x)), .val (.int (own_pos y)), .unset]) rfl k_) ?_
  refine Go.on (g' := (mkF m 11 _ [(.int (own_pos x))])) (fun t_ k_ => XS.iloadN X2.here hx rfl (hb hby d1_10) rfl k_) ?_
  refine Go.on (g' := (mkF m 12 _ [(.int (own_pos y)), (.int (own_pos x))])) (fun t_ k_ => XS.iloadN X2.here hx rfl (hb hby d1_11) rfl k_) ?_
  refine Go.callS X2 hx hZ hby (by rw [hml]; rfl) (y := (⟨"java/lang/Math", "max", "(II)I"⟩ : MethodName)) hown (hw _ (List.mem_of_getElem? (i := 8) rfl)) (hw _ (List.mem_of_getElem? (i := 9) rfl)) (hw _ (List.mem_of_getElem? (i := 10) rfl)) (hw _ (List.mem_of_getElem? (i := 11) rfl)) (by decide) (argsL := [(.int (own_pos x)), (.int (own_pos y))]) (rest := []) (rmM l Z w0 hw [] (own_pos x) (own_pos y) h0) e2 0 (by decide) (by decide) (by decide) (by decide) rfl pdM rfl (Nat.le_of_eq rfl) d1_12 (pcF := 15) rfl ?_
  intro v3 T3 L3 X3 hQ3
  obtain ⟨rfl, rfl, e3⟩ := hQ3
  rw [List.append_nil] at X3
  show Go p e below _ _ (mkF m 15 _ [(.int (own_max (own_pos x) (own_pos y)))])
  refine Go.on (g' := (mkF m 17 #[.val (.int x), .val (.int y), .val (.int (own_pos x)), .val (.int (own_pos y)), .val (.int (own_max (own_pos x) (own_pos y)))] [])) (fun t_ k_ => XS.istore X3.here hx rfl (hb hby d1_15) rfl (l' := #[.val (.int x), .val (.int y), .val (.int (own_pos x)), .val (.int (own_pos y)), .val (.int (own_max (own_pos x) (own_pos y)))]) rfl k_) ?_
  obtain ⟨qq, hqq⟩ : ∃ z_ : Int32, z_ = (own_max (own_pos x) (own_pos y)) := ⟨_, rfl⟩
  rw [← hqq]
  refine Go.on (g' := (mkF m 18 _ [(.int y)])) (fun t_ k_ => XS.iloadN X3.here hx rfl (hb hby d1_17) rfl k_) ?_
  refine Go.ifc X3 hx hby d1_18 (pcT := 39) (pcF := 21) (by decide) (by decide) rfl (fun q => ?_) (fun q => ?_)
  · have q1 := iLe.1 q
    clear q
    show Go p e below _ _ (mkF m 39 _ [])
    refine Go.on (g' := (mkF m 41 _ [(.int qq)])) (fun t_ k_ => XS.iload X3.here hx rfl (hb hby d1_39) rfl k_) ?_
    refine Go.on (g' := (mkF m 42 _ [(.int (own_pos x)), (.int qq)])) (fun t_ k_ => XS.iloadN X3.here hx rfl (hb hby d1_41) rfl k_) ?_
    refine Go.icmp X3 hx hby d1_42 (pcT := 63) (pcF := 45) (by decide) (by decide) rfl (fun q => ?_) (fun q => ?_)
    · have q2 := iNe.1 q
      clear q
      show Go p e below _ _ (mkF m 63 _ [])
      refine Go.on (g' := (mkF m 64 _ [(.int (2 : Int32))])) (fun t_ k_ => XS.iconst X3.here hx rfl (hb hby d1_63) k_) ?_
      obtain ⟨T4, h4, cA4, X4, e4, E4, A4, st4⟩ := newP X3 hx hZ (hw _ (List.mem_of_getElem? (i := 0) rfl)) e3 (g := (mkF m 64 #[.val (.int x), .val (.int y), .val (.int (own_pos x)), .val (.int (own_pos y)), .val (.int qq)] [(.int (2 : Int32))])) rfl (hb hby d1_64) (n := (2 : Int32)) rfl (by decide) (cap := 2) (by decide) (by decide) (by decide) (by decide)
      obtain ⟨o4, go4⟩ : ∃ z, z = (h0).size := ⟨_, rfl⟩
      rw [← go4] at A4 st4
      have no4 : n0 ≤ o4 := Nat.le_trans Z0 (Nat.le_of_eq go4.symm)
      have Z4 : n0 ≤ h4.size := Nat.le_trans Z0 E4.1
      have EX_4 := extTrans EX0 E4
      have mo4 : h0.size ≤ o4 := Nat.le_trans EX0.1 (Nat.le_of_eq go4.symm)
      refine Go.on (g' := (mkF m 66 _ [(.ref o4)])) (st4) ?_
      refine Go.on (g' := (mkF m 67 _ [(.ref o4), (.ref o4)])) (fun t_ k_ => XS.dup X4.here hx rfl (hb hby d1_66) rfl rfl k_) ?_
      refine Go.on (g' := (mkF m 68 _ [(.int (0 : Int32)), (.ref o4), (.ref o4)])) (fun t_ k_ => XS.iconst X4.here hx rfl (hb hby d1_67) k_) ?_
      refine Go.on (g' := (mkF m 69 _ [(.int ((-1) : Int32)), (.int (0 : Int32)), (.ref o4), (.ref o4)])) (fun t_ k_ => XS.iconst X4.here hx rfl (hb hby d1_68) k_) ?_
      obtain ⟨T5, h5, X5, e5, W5, st5⟩ := stI X4 hx hZ e4 A4 (j := (0 : Int32)) (by simp only [sz_set, sz_new]; decide) (g := (mkF m 69 #[.val (.int x), .val (.int y), .val (.int (own_pos x)), .val (.int (own_pos y)), .val (.int qq)] [(.int ((-1) : Int32)), (.int (0 : Int32)), (.ref o4), (.ref o4)])) rfl rfl (hb hby d1_69)
      have N5 := Fr.snoc X5 N0 no4
      have Z5 : n0 ≤ h5.size := by rw [W5.size]; exact Z4
      have EX_5 := extWr EX_4 W5 mo4
      have A5 := A4.same W5
      refine Go.on (g' := (mkF m 70 _ [(.ref o4)])) (st5) ?_
      refine Go.on (g' := (mkF m 71 _ [(.ref o4), (.ref o4)])) (fun t_ k_ => XS.dup X5.here hx rfl (hb hby d1_70) rfl rfl k_) ?_
      refine Go.on (g' := (mkF m 72 _ [(.int (1 : Int32)), (.ref o4), (.ref o4)])) (fun t_ k_ => XS.iconst X5.here hx rfl (hb hby d1_71) k_) ?_
      refine Go.on (g' := (mkF m 73 _ [(.int ((-1) : Int32)), (.int (1 : Int32)), (.ref o4), (.ref o4)])) (fun t_ k_ => XS.iconst X5.here hx rfl (hb hby d1_72) k_) ?_
      obtain ⟨T6, h6, X6, e6, W6, st6⟩ := stI X5 hx hZ e5 A5 (j := (1 : Int32)) (by simp only [sz_set, sz_new]; decide) (g := (mkF m 73 #[.val (.int x), .val (.int y), .val (.int (own_pos x)), .val (.int (own_pos y)), .val (.int qq)] [(.int ((-1) : Int32)), (.int (1 : Int32)), (.ref o4), (.ref o4)])) rfl rfl (hb hby d1_73)
      have N6 := Fr.snoc X6 N5 no4
      have Z6 : n0 ≤ h6.size := by rw [W6.size]; exact Z5
      have EX_6 := extWr EX_5 W6 mo4
      have A6 := A5.same W6
      refine Go.on (g' := (mkF m 74 _ [(.ref o4)])) (st6) ?_
      exact Go.retA X6 hx hlk hret hby d1_74 rfl rfl (by decide) (by decide) (by rw [e6]; exact ⟨_, _, rfl, N6, EX_6, mo4, A6, by simp only [sz_set, sz_new]; decide, by rw [own_twE, ← hqq, if_neg (fun z => q1 z.1), if_neg q2]; rfl, by rw [own_twE, ← hqq, if_neg (fun z => q1 z.1), if_neg q2]; rfl⟩)
    · have q2 := iNe.2 q
      clear q
      show Go p e below _ _ (mkF m 45 _ [])
      refine Go.on (g' := (mkF m 46 _ [(.int (2 : Int32))])) (fun t_ k_ => XS.iconst X3.here hx rfl (hb hby d1_45) k_) ?_
      obtain ⟨T7, h7, cA7, X7, e7, E7, A7, st7⟩ := newP X3 hx hZ (hw _ (List.mem_of_getElem? (i := 0) rfl)) e3 (g := (mkF m 46 #[.val (.int x), .val (.int y), .val (.int (own_pos x)), .val (.int (own_pos y)), .val (.int qq)] [(.int (2 : Int32))])) rfl (hb hby d1_46) (n := (2 : Int32)) rfl (by decide) (cap := 2) (by decide) (by decide) (by decide) (by decide)
      obtain ⟨o7, go7⟩ : ∃ z, z = (h0).size := ⟨_, rfl⟩
      rw [← go7] at A7 st7
      have no7 : n0 ≤ o7 := Nat.le_trans Z0 (Nat.le_of_eq go7.symm)
      have Z7 : n0 ≤ h7.size := Nat.le_trans Z0 E7.1
      have EX_7 := extTrans EX0 E7
      have mo7 : h0.size ≤ o7 := Nat.le_trans EX0.1 (Nat.le_of_eq go7.symm)
      refine Go.on (g' := (mkF m 48 _ [(.ref o7)])) (st7) ?_
      refine Go.on (g' := (mkF m 49 _ [(.ref o7), (.ref o7)])) (fun t_ k_ => XS.dup X7.here hx rfl (hb hby d1_48) rfl rfl k_) ?_
      refine Go.on (g' := (mkF m 50 _ [(.int (0 : Int32)), (.ref o7), (.ref o7)])) (fun t_ k_ => XS.iconst X7.here hx rfl (hb hby d1_49) k_) ?_
      refine Go.on (g' := (mkF m 51 _ [(.int (1 : Int32)), (.int (0 : Int32)), (.ref o7), (.ref o7)])) (fun t_ k_ => XS.iconst X7.here hx rfl (hb hby d1_50) k_) ?_
      refine Go.on (g' := (mkF m 52 _ [(.int x), (.int (1 : Int32)), (.int (0 : Int32)), (.ref o7), (.ref o7)])) (fun t_ k_ => XS.iloadN X7.here hx rfl (hb hby d1_51) rfl k_) ?_
      refine Go.on (g' := (mkF m 53 _ [(.int (0 : Int32)), (.int x), (.int (1 : Int32)), (.int (0 : Int32)), (.ref o7), (.ref o7)])) (fun t_ k_ => XS.iconst X7.here hx rfl (hb hby d1_52) k_) ?_
      refine Go.on (g' := (mkF m 54 _ [(.int (0 : Int32)), (.int (0 : Int32)), (.int x), (.int (1 : Int32)), (.int (0 : Int32)), (.ref o7), (.ref o7)])) (fun t_ k_ => XS.iconst X7.here hx rfl (hb hby d1_53) k_) ?_
      refine Go.callS X7 hx hZ hby (by rw [hml]; rfl) (y := (⟨"com/example/same_shape/sameshape/service/OrderedPairingPairPinLaw", "lastBest", "(IIII)I"⟩ : MethodName)) hown (hw _ (List.mem_of_getElem? (i := 12) rfl)) (hw _ (List.mem_of_getElem? (i := 13) rfl)) (hw _ (List.mem_of_getElem? (i := 3) rfl)) (hw _ (List.mem_of_getElem? (i := 14) rfl)) (by decide) (argsL := [(.int (1 : Int32)), (.int x), (.int (0 : Int32)), (.int (0 : Int32))]) (rest := [(.int (0 : Int32)), (.ref o7), (.ref o7)]) (rmLb1 l Z w0 hw [] x (0 : Int32) (0 : Int32) h7) e7 3 (by decide) (by decide) (by decide) (by decide) rfl pdLb rfl (Nat.le_of_eq rfl) d1_54 (pcF := 57) rfl ?_
      intro v8 T8 L8 X8 hQ8
      obtain ⟨rfl, rfl, e8⟩ := hQ8
      rw [List.append_nil] at X8
      show Go p e below _ _ (mkF m 57 _ [(.int (own_lb 1 x (0 : Int32) (0 : Int32))), (.int (0 : Int32)), (.ref o7), (.ref o7)])
      obtain ⟨T9, h9, X9, e9, W9, st9⟩ := stI X8 hx hZ e8 A7 (j := (0 : Int32)) (by simp only [sz_set, sz_new]; decide) (g := (mkF m 57 #[.val (.int x), .val (.int y), .val (.int (own_pos x)), .val (.int (own_pos y)), .val (.int qq)] [(.int (own_lb 1 x (0 : Int32) (0 : Int32))), (.int (0 : Int32)), (.ref o7), (.ref o7)])) rfl rfl (hb hby d1_57)
      have N9 := Fr.snoc X9 N0 no7
      have Z9 : n0 ≤ h9.size := by rw [W9.size]; exact Z7
      have EX_9 := extWr EX_7 W9 mo7
      have A9 := A7.same W9
      refine Go.on (g' := (mkF m 58 _ [(.ref o7)])) (st9) ?_
      refine Go.on (g' := (mkF m 59 _ [(.ref o7), (.ref o7)])) (fun t_ k_ => XS.dup X9.here hx rfl (hb hby d1_58) rfl rfl k_) ?_
      refine Go.on (g' := (mkF m 60 _ [(.int (1 : Int32)), (.ref o7), (.ref o7)])) (fun t_ k_ => XS.iconst X9.here hx rfl (hb hby d1_59) k_) ?_
      refine Go.on (g' := (mkF m 61 _ [(.int ((-1) : Int32)), (.int (1 : Int32)), (.ref o7), (.ref o7)])) (fun t_ k_ => XS.iconst X9.here hx rfl (hb hby d1_60) k_) ?_
      obtain ⟨T10, h10, X10, e10, W10, st10⟩ := stI X9 hx hZ e9 A9 (j := (1 : Int32)) (by simp only [sz_set, sz_new]; decide) (g := (mkF m 61 #[.val (.int x), .val (.int y), .val (.int (own_pos x)), .val (.int (own_pos y)), .val (.int qq)] [(.int ((-1) : Int32)), (.int (1 : Int32)), (.ref o7), (.ref o7)])) rfl rfl (hb hby d1_61)
      have N10 := Fr.snoc X10 N9 no7
      have Z10 : n0 ≤ h10.size := by rw [W10.size]; exact Z9
      have EX_10 := extWr EX_9 W10 mo7
      have A10 := A9.same W10
      refine Go.on (g' := (mkF m 62 _ [(.ref o7)])) (st10) ?_
      exact Go.retA X10 hx hlk hret hby d1_62 rfl rfl (by decide) (by decide) (by rw [e10]; exact ⟨_, _, rfl, N10, EX_10, mo7, A10, by simp only [sz_set, sz_new]; decide, by rw [own_twE, ← hqq, if_neg (fun z => q1 z.1), if_pos q2]; rfl, by rw [own_twE, ← hqq, if_neg (fun z => q1 z.1), if_pos q2]; rfl⟩)
  · have q1 := iLe.2 q
    clear q
    show Go p e below _ _ (mkF m 21 _ [])
    refine Go.on (g' := (mkF m 23 _ [(.int qq)])) (fun t_ k_ => XS.iload X3.here hx rfl (hb hby d1_21) rfl k_) ?_
    refine Go.on (g' := (mkF m 24 _ [(.int y), (.int qq)])) (fun t_ k_ => XS.iloadN X3.here hx rfl (hb hby d1_23) rfl k_) ?_
    refine Go.icmp X3 hx hby d1_24 (pcT := 39) (pcF := 27) (by decide) (by decide) rfl (fun q => ?_) (fun q => ?_)
    · have q3 := iNe.1 q
      clear q
      show Go p e below _ _ (mkF m 39 _ [])
      refine Go.on (g' := (mkF m 41 _ [(.int qq)])) (fun t_ k_ => XS.iload X3.here hx rfl (hb hby d1_39) rfl k_) ?_
      refine Go.on (g' := (mkF m 42 _ [(.int (own_pos x)), (.int qq)])) (fun t_ k_ => XS.iloadN X3.here hx rfl (hb hby d1_41) rfl k_) ?_
      refine Go.icmp X3 hx hby d1_42 (pcT := 63) (pcF := 45) (by decide) (by decide) rfl (fun q => ?_) (fun q => ?_)
      · have q4 := iNe.1 q
        clear q
        show Go p e below _ _ (mkF m 63 _ [])
        refine Go.on (g' := (mkF m 64 _ [(.int (2 : Int32))])) (fun t_ k_ => XS.iconst X3.here hx rfl (hb hby d1_63) k_) ?_
        obtain ⟨T11, h11, cA11, X11, e11, E11, A11, st11⟩ := newP X3 hx hZ (hw _ (List.mem_of_getElem? (i := 0) rfl)) e3 (g := (mkF m 64 #[.val (.int x), .val (.int y), .val (.int (own_pos x)), .val (.int (own_pos y)), .val (.int qq)] [(.int (2 : Int32))])) rfl (hb hby d1_64) (n := (2 : Int32)) rfl (by decide) (cap := 2) (by decide) (by decide) (by decide) (by decide)
        obtain ⟨o11, go11⟩ : ∃ z, z = (h0).size := ⟨_, rfl⟩
        rw [← go11] at A11 st11
        have no11 : n0 ≤ o11 := Nat.le_trans Z0 (Nat.le_of_eq go11.symm)
        have Z11 : n0 ≤ h11.size := Nat.le_trans Z0 E11.1
        have EX_11 := extTrans EX0 E11
        have mo11 : h0.size ≤ o11 := Nat.le_trans EX0.1 (Nat.le_of_eq go11.symm)
        refine Go.on (g' := (mkF m 66 _ [(.ref o11)])) (st11) ?_
        refine Go.on (g' := (mkF m 67 _ [(.ref o11), (.ref o11)])) (fun t_ k_ => XS.dup X11.here hx rfl (hb hby d1_66) rfl rfl k_) ?_
        refine Go.on (g' := (mkF m 68 _ [(.int (0 : Int32)), (.ref o11), (.ref o11)])) (fun t_ k_ => XS.iconst X11.here hx rfl (hb hby d1_67) k_) ?_
        refine Go.on (g' := (mkF m 69 _ [(.int ((-1) : Int32)), (.int (0 : Int32)), (.ref o11), (.ref o11)])) (fun t_ k_ => XS.iconst X11.here hx rfl (hb hby d1_68) k_) ?_
        obtain ⟨T12, h12, X12, e12, W12, st12⟩ := stI X11 hx hZ e11 A11 (j := (0 : Int32)) (by simp only [sz_set, sz_new]; decide) (g := (mkF m 69 #[.val (.int x), .val (.int y), .val (.int (own_pos x)), .val (.int (own_pos y)), .val (.int qq)] [(.int ((-1) : Int32)), (.int (0 : Int32)), (.ref o11), (.ref o11)])) rfl rfl (hb hby d1_69)
        have N12 := Fr.snoc X12 N0 no11
        have Z12 : n0 ≤ h12.size := by rw [W12.size]; exact Z11
        have EX_12 := extWr EX_11 W12 mo11
        have A12 := A11.same W12
        refine Go.on (g' := (mkF m 70 _ [(.ref o11)])) (st12) ?_
        refine Go.on (g' := (mkF m 71 _ [(.ref o11), (.ref o11)])) (fun t_ k_ => XS.dup X12.here hx rfl (hb hby d1_70) rfl rfl k_) ?_
        refine Go.on (g' := (mkF m 72 _ [(.int (1 : Int32)), (.ref o11), (.ref o11)])) (fun t_ k_ => XS.iconst X12.here hx rfl (hb hby d1_71) k_) ?_
        refine Go.on (g' := (mkF m 73 _ [(.int ((-1) : Int32)), (.int (1 : Int32)), (.ref o11), (.ref o11)])) (fun t_ k_ => XS.iconst X12.here hx rfl (hb hby d1_72) k_) ?_
        obtain ⟨T13, h13, X13, e13, W13, st13⟩ := stI X12 hx hZ e12 A12 (j := (1 : Int32)) (by simp only [sz_set, sz_new]; decide) (g := (mkF m 73 #[.val (.int x), .val (.int y), .val (.int (own_pos x)), .val (.int (own_pos y)), .val (.int qq)] [(.int ((-1) : Int32)), (.int (1 : Int32)), (.ref o11), (.ref o11)])) rfl rfl (hb hby d1_73)
        have N13 := Fr.snoc X13 N12 no11
        have Z13 : n0 ≤ h13.size := by rw [W13.size]; exact Z12
        have EX_13 := extWr EX_12 W13 mo11
        have A13 := A12.same W13
        refine Go.on (g' := (mkF m 74 _ [(.ref o11)])) (st13) ?_
        exact Go.retA X13 hx hlk hret hby d1_74 rfl rfl (by decide) (by decide) (by rw [e13]; exact ⟨_, _, rfl, N13, EX_13, mo11, A13, by simp only [sz_set, sz_new]; decide, by rw [own_twE, ← hqq, if_neg (fun z => q3 z.2), if_neg q4]; rfl, by rw [own_twE, ← hqq, if_neg (fun z => q3 z.2), if_neg q4]; rfl⟩)
      · have q4 := iNe.2 q
        clear q
        show Go p e below _ _ (mkF m 45 _ [])
        refine Go.on (g' := (mkF m 46 _ [(.int (2 : Int32))])) (fun t_ k_ => XS.iconst X3.here hx rfl (hb hby d1_45) k_) ?_
        obtain ⟨T14, h14, cA14, X14, e14, E14, A14, st14⟩ := newP X3 hx hZ (hw _ (List.mem_of_getElem? (i := 0) rfl)) e3 (g := (mkF m 46 #[.val (.int x), .val (.int y), .val (.int (own_pos x)), .val (.int (own_pos y)), .val (.int qq)] [(.int (2 : Int32))])) rfl (hb hby d1_46) (n := (2 : Int32)) rfl (by decide) (cap := 2) (by decide) (by decide) (by decide) (by decide)
        obtain ⟨o14, go14⟩ : ∃ z, z = (h0).size := ⟨_, rfl⟩
        rw [← go14] at A14 st14
        have no14 : n0 ≤ o14 := Nat.le_trans Z0 (Nat.le_of_eq go14.symm)
        have Z14 : n0 ≤ h14.size := Nat.le_trans Z0 E14.1
        have EX_14 := extTrans EX0 E14
        have mo14 : h0.size ≤ o14 := Nat.le_trans EX0.1 (Nat.le_of_eq go14.symm)
        refine Go.on (g' := (mkF m 48 _ [(.ref o14)])) (st14) ?_
        refine Go.on (g' := (mkF m 49 _ [(.ref o14), (.ref o14)])) (fun t_ k_ => XS.dup X14.here hx rfl (hb hby d1_48) rfl rfl k_) ?_
        refine Go.on (g' := (mkF m 50 _ [(.int (0 : Int32)), (.ref o14), (.ref o14)])) (fun t_ k_ => XS.iconst X14.here hx rfl (hb hby d1_49) k_) ?_
        refine Go.on (g' := (mkF m 51 _ [(.int (1 : Int32)), (.int (0 : Int32)), (.ref o14), (.ref o14)])) (fun t_ k_ => XS.iconst X14.here hx rfl (hb hby d1_50) k_) ?_
        refine Go.on (g' := (mkF m 52 _ [(.int x), (.int (1 : Int32)), (.int (0 : Int32)), (.ref o14), (.ref o14)])) (fun t_ k_ => XS.iloadN X14.here hx rfl (hb hby d1_51) rfl k_) ?_
        refine Go.on (g' := (mkF m 53 _ [(.int (0 : Int32)), (.int x), (.int (1 : Int32)), (.int (0 : Int32)), (.ref o14), (.ref o14)])) (fun t_ k_ => XS.iconst X14.here hx rfl (hb hby d1_52) k_) ?_
        refine Go.on (g' := (mkF m 54 _ [(.int (0 : Int32)), (.int (0 : Int32)), (.int x), (.int (1 : Int32)), (.int (0 : Int32)), (.ref o14), (.ref o14)])) (fun t_ k_ => XS.iconst X14.here hx rfl (hb hby d1_53) k_) ?_
        refine Go.callS X14 hx hZ hby (by rw [hml]; rfl) (y := (⟨"com/example/same_shape/sameshape/service/OrderedPairingPairPinLaw", "lastBest", "(IIII)I"⟩ : MethodName)) hown (hw _ (List.mem_of_getElem? (i := 12) rfl)) (hw _ (List.mem_of_getElem? (i := 13) rfl)) (hw _ (List.mem_of_getElem? (i := 3) rfl)) (hw _ (List.mem_of_getElem? (i := 14) rfl)) (by decide) (argsL := [(.int (1 : Int32)), (.int x), (.int (0 : Int32)), (.int (0 : Int32))]) (rest := [(.int (0 : Int32)), (.ref o14), (.ref o14)]) (rmLb1 l Z w0 hw [] x (0 : Int32) (0 : Int32) h14) e14 3 (by decide) (by decide) (by decide) (by decide) rfl pdLb rfl (Nat.le_of_eq rfl) d1_54 (pcF := 57) rfl ?_
        intro v15 T15 L15 X15 hQ15
        obtain ⟨rfl, rfl, e15⟩ := hQ15
        rw [List.append_nil] at X15
        show Go p e below _ _ (mkF m 57 _ [(.int (own_lb 1 x (0 : Int32) (0 : Int32))), (.int (0 : Int32)), (.ref o14), (.ref o14)])
        obtain ⟨T16, h16, X16, e16, W16, st16⟩ := stI X15 hx hZ e15 A14 (j := (0 : Int32)) (by simp only [sz_set, sz_new]; decide) (g := (mkF m 57 #[.val (.int x), .val (.int y), .val (.int (own_pos x)), .val (.int (own_pos y)), .val (.int qq)] [(.int (own_lb 1 x (0 : Int32) (0 : Int32))), (.int (0 : Int32)), (.ref o14), (.ref o14)])) rfl rfl (hb hby d1_57)
        have N16 := Fr.snoc X16 N0 no14
        have Z16 : n0 ≤ h16.size := by rw [W16.size]; exact Z14
        have EX_16 := extWr EX_14 W16 mo14
        have A16 := A14.same W16
        refine Go.on (g' := (mkF m 58 _ [(.ref o14)])) (st16) ?_
        refine Go.on (g' := (mkF m 59 _ [(.ref o14), (.ref o14)])) (fun t_ k_ => XS.dup X16.here hx rfl (hb hby d1_58) rfl rfl k_) ?_
        refine Go.on (g' := (mkF m 60 _ [(.int (1 : Int32)), (.ref o14), (.ref o14)])) (fun t_ k_ => XS.iconst X16.here hx rfl (hb hby d1_59) k_) ?_
        refine Go.on (g' := (mkF m 61 _ [(.int ((-1) : Int32)), (.int (1 : Int32)), (.ref o14), (.ref o14)])) (fun t_ k_ => XS.iconst X16.here hx rfl (hb hby d1_60) k_) ?_
        obtain ⟨T17, h17, X17, e17, W17, st17⟩ := stI X16 hx hZ e16 A16 (j := (1 : Int32)) (by simp only [sz_set, sz_new]; decide) (g := (mkF m 61 #[.val (.int x), .val (.int y), .val (.int (own_pos x)), .val (.int (own_pos y)), .val (.int qq)] [(.int ((-1) : Int32)), (.int (1 : Int32)), (.ref o14), (.ref o14)])) rfl rfl (hb hby d1_61)
        have N17 := Fr.snoc X17 N16 no14
        have Z17 : n0 ≤ h17.size := by rw [W17.size]; exact Z16
        have EX_17 := extWr EX_16 W17 mo14
        have A17 := A16.same W17
        refine Go.on (g' := (mkF m 62 _ [(.ref o14)])) (st17) ?_
        exact Go.retA X17 hx hlk hret hby d1_62 rfl rfl (by decide) (by decide) (by rw [e17]; exact ⟨_, _, rfl, N17, EX_17, mo14, A17, by simp only [sz_set, sz_new]; decide, by rw [own_twE, ← hqq, if_neg (fun z => q3 z.2), if_pos q4]; rfl, by rw [own_twE, ← hqq, if_neg (fun z => q3 z.2), if_pos q4]; rfl⟩)
    · have q3 := iNe.2 q
      clear q
      show Go p e below _ _ (mkF m 27 _ [])
      refine Go.on (g' := (mkF m 28 _ [(.int (2 : Int32))])) (fun t_ k_ => XS.iconst X3.here hx rfl (hb hby d1_27) k_) ?_
      obtain ⟨T18, h18, cA18, X18, e18, E18, A18, st18⟩ := newP X3 hx hZ (hw _ (List.mem_of_getElem? (i := 0) rfl)) e3 (g := (mkF m 28 #[.val (.int x), .val (.int y), .val (.int (own_pos x)), .val (.int (own_pos y)), .val (.int qq)] [(.int (2 : Int32))])) rfl (hb hby d1_28) (n := (2 : Int32)) rfl (by decide) (cap := 2) (by decide) (by decide) (by decide) (by decide)
      obtain ⟨o18, go18⟩ : ∃ z, z = (h0).size := ⟨_, rfl⟩
      rw [← go18] at A18 st18
      have no18 : n0 ≤ o18 := Nat.le_trans Z0 (Nat.le_of_eq go18.symm)
      have Z18 : n0 ≤ h18.size := Nat.le_trans Z0 E18.1
      have EX_18 := extTrans EX0 E18
      have mo18 : h0.size ≤ o18 := Nat.le_trans EX0.1 (Nat.le_of_eq go18.symm)
      refine Go.on (g' := (mkF m 30 _ [(.ref o18)])) (st18) ?_
      refine Go.on (g' := (mkF m 31 _ [(.ref o18), (.ref o18)])) (fun t_ k_ => XS.dup X18.here hx rfl (hb hby d1_30) rfl rfl k_) ?_
      refine Go.on (g' := (mkF m 32 _ [(.int (0 : Int32)), (.ref o18), (.ref o18)])) (fun t_ k_ => XS.iconst X18.here hx rfl (hb hby d1_31) k_) ?_
      refine Go.on (g' := (mkF m 33 _ [(.int ((-1) : Int32)), (.int (0 : Int32)), (.ref o18), (.ref o18)])) (fun t_ k_ => XS.iconst X18.here hx rfl (hb hby d1_32) k_) ?_
      obtain ⟨T19, h19, X19, e19, W19, st19⟩ := stI X18 hx hZ e18 A18 (j := (0 : Int32)) (by simp only [sz_set, sz_new]; decide) (g := (mkF m 33 #[.val (.int x), .val (.int y), .val (.int (own_pos x)), .val (.int (own_pos y)), .val (.int qq)] [(.int ((-1) : Int32)), (.int (0 : Int32)), (.ref o18), (.ref o18)])) rfl rfl (hb hby d1_33)
      have N19 := Fr.snoc X19 N0 no18
      have Z19 : n0 ≤ h19.size := by rw [W19.size]; exact Z18
      have EX_19 := extWr EX_18 W19 mo18
      have A19 := A18.same W19
      refine Go.on (g' := (mkF m 34 _ [(.ref o18)])) (st19) ?_
      refine Go.on (g' := (mkF m 35 _ [(.ref o18), (.ref o18)])) (fun t_ k_ => XS.dup X19.here hx rfl (hb hby d1_34) rfl rfl k_) ?_
      refine Go.on (g' := (mkF m 36 _ [(.int (1 : Int32)), (.ref o18), (.ref o18)])) (fun t_ k_ => XS.iconst X19.here hx rfl (hb hby d1_35) k_) ?_
      refine Go.on (g' := (mkF m 37 _ [(.int (0 : Int32)), (.int (1 : Int32)), (.ref o18), (.ref o18)])) (fun t_ k_ => XS.iconst X19.here hx rfl (hb hby d1_36) k_) ?_
      obtain ⟨T20, h20, X20, e20, W20, st20⟩ := stI X19 hx hZ e19 A19 (j := (1 : Int32)) (by simp only [sz_set, sz_new]; decide) (g := (mkF m 37 #[.val (.int x), .val (.int y), .val (.int (own_pos x)), .val (.int (own_pos y)), .val (.int qq)] [(.int (0 : Int32)), (.int (1 : Int32)), (.ref o18), (.ref o18)])) rfl rfl (hb hby d1_37)
      have N20 := Fr.snoc X20 N19 no18
      have Z20 : n0 ≤ h20.size := by rw [W20.size]; exact Z19
      have EX_20 := extWr EX_19 W20 mo18
      have A20 := A19.same W20
      refine Go.on (g' := (mkF m 38 _ [(.ref o18)])) (st20) ?_
      exact Go.retA X20 hx hlk hret hby d1_38 rfl rfl (by decide) (by decide) (by rw [e20]; exact ⟨_, _, rfl, N20, EX_20, mo18, A20, by simp only [sz_set, sz_new]; decide, by rw [own_twE, ← hqq, if_pos ⟨q1, q3⟩]; rfl, by rw [own_twE, ← hqq, if_pos ⟨q1, q3⟩]; rfl⟩)
theorem own_fuE (u0 u1 u2 u3 u4 u5 : Int32) : own_fu u0 u1 u2 u3 u4 u5 = if 0 < u5 ∧ own_max (own_max (own_pos u0 + own_pos u4) (own_pos u0 + own_pos u5)) (own_max (own_pos u1 + own_pos u5) (own_max (own_pos u2) (own_pos u3))) = own_max (own_pos u0) (own_pos u1) + u5 then (own_lb 2 u0 u1 u2, 2) else if own_max (own_max (own_pos u0 + own_pos u4) (own_pos u0 + own_pos u5)) (own_max (own_pos u1 + own_pos u5) (own_max (own_pos u2) (own_pos u3))) = own_max (own_max (own_pos u0) (own_pos u1)) (own_pos u2) then (own_lb 3 u0 u1 u2, -1) else if 0 < u4 ∧ own_max (own_pos u0 + own_pos u4) (own_max (own_pos u1) (own_pos u3)) = own_pos u0 + u4 then (own_lb 1 u0 u1 u2, 1) else if own_max (own_pos u0 + own_pos u4) (own_max (own_pos u1) (own_pos u3)) = own_max (own_pos u0) (own_pos u1) then (own_lb 2 u0 u1 u2, -1) else own_tw u0 u3 := rfl
theorem d8_0 : decode method_6_code 0 = .ok (.iload_n 0, 1) := by decide +kernel
theorem d8_1 : decode method_6_code 1 = .ok (.invokestatic 37, 3) := by decide +kernel
theorem d8_4 : decode method_6_code 4 = .ok (.istore 6, 2) := by decide +kernel
theorem d8_6 : decode method_6_code 6 = .ok (.iload_n 1, 1) := by decide +kernel
theorem d8_7 : decode method_6_code 7 = .ok (.invokestatic 37, 3) := by decide +kernel
theorem d8_10 : decode method_6_code 10 = .ok (.istore 7, 2) := by decide +kernel
theorem d8_12 : decode method_6_code 12 = .ok (.iload_n 2, 1) := by decide +kernel
theorem d8_13 : decode method_6_code 13 = .ok (.invokestatic 37, 3) := by decide +kernel
theorem d8_16 : decode method_6_code 16 = .ok (.istore 8, 2) := by decide +kernel
theorem d8_18 : decode method_6_code 18 = .ok (.iload_n 3, 1) := by decide +kernel
theorem d8_19 : decode method_6_code 19 = .ok (.invokestatic 37, 3) := by decide +kernel
theorem d8_22 : decode method_6_code 22 = .ok (.istore 9, 2) := by decide +kernel
theorem d8_24 : decode method_6_code 24 = .ok (.iload 4, 2) := by decide +kernel
theorem d8_26 : decode method_6_code 26 = .ok (.invokestatic 37, 3) := by decide +kernel
theorem d8_29 : decode method_6_code 29 = .ok (.istore 10, 2) := by decide +kernel
theorem d8_31 : decode method_6_code 31 = .ok (.iload 5, 2) := by decide +kernel
theorem d8_33 : decode method_6_code 33 = .ok (.invokestatic 37, 3) := by decide +kernel
theorem d8_36 : decode method_6_code 36 = .ok (.istore 11, 2) := by decide +kernel
theorem d8_38 : decode method_6_code 38 = .ok (.iload 6, 2) := by decide +kernel
theorem d8_40 : decode method_6_code 40 = .ok (.istore 12, 2) := by decide +kernel
theorem d8_42 : decode method_6_code 42 = .ok (.iload 6, 2) := by decide +kernel
theorem d8_44 : decode method_6_code 44 = .ok (.iload 7, 2) := by decide +kernel
theorem d8_46 : decode method_6_code 46 = .ok (.invokestatic 31, 3) := by decide +kernel
theorem d8_49 : decode method_6_code 49 = .ok (.istore 13, 2) := by decide +kernel
theorem d8_51 : decode method_6_code 51 = .ok (.iload 13, 2) := by decide +kernel
theorem d8_53 : decode method_6_code 53 = .ok (.iload 8, 2) := by decide +kernel
theorem d8_55 : decode method_6_code 55 = .ok (.invokestatic 31, 3) := by decide +kernel
theorem d8_58 : decode method_6_code 58 = .ok (.istore 14, 2) := by decide +kernel
theorem d8_60 : decode method_6_code 60 = .ok (.iload 6, 2) := by decide +kernel
theorem d8_62 : decode method_6_code 62 = .ok (.iload 10, 2) := by decide +kernel
theorem d8_64 : decode method_6_code 64 = .ok (.iadd, 1) := by decide +kernel
theorem d8_65 : decode method_6_code 65 = .ok (.iload 7, 2) := by decide +kernel
theorem d8_67 : decode method_6_code 67 = .ok (.iload 9, 2) := by decide +kernel
theorem d8_69 : decode method_6_code 69 = .ok (.invokestatic 31, 3) := by decide +kernel
theorem d8_72 : decode method_6_code 72 = .ok (.invokestatic 31, 3) := by decide +kernel
theorem d8_75 : decode method_6_code 75 = .ok (.istore 15, 2) := by decide +kernel
theorem d8_77 : decode method_6_code 77 = .ok (.iload 6, 2) := by decide +kernel
theorem d8_79 : decode method_6_code 79 = .ok (.iload 10, 2) := by decide +kernel
theorem d8_81 : decode method_6_code 81 = .ok (.iadd, 1) := by decide +kernel
theorem d8_82 : decode method_6_code 82 = .ok (.iload 6, 2) := by decide +kernel
theorem d8_84 : decode method_6_code 84 = .ok (.iload 11, 2) := by decide +kernel
theorem d8_86 : decode method_6_code 86 = .ok (.iadd, 1) := by decide +kernel
theorem d8_87 : decode method_6_code 87 = .ok (.invokestatic 31, 3) := by decide +kernel
theorem d8_90 : decode method_6_code 90 = .ok (.iload 7, 2) := by decide +kernel
theorem d8_92 : decode method_6_code 92 = .ok (.iload 11, 2) := by decide +kernel
theorem d8_94 : decode method_6_code 94 = .ok (.iadd, 1) := by decide +kernel
theorem d8_95 : decode method_6_code 95 = .ok (.iload 8, 2) := by decide +kernel
theorem d8_97 : decode method_6_code 97 = .ok (.iload 9, 2) := by decide +kernel
theorem d8_99 : decode method_6_code 99 = .ok (.invokestatic 31, 3) := by decide +kernel
theorem d8_102 : decode method_6_code 102 = .ok (.invokestatic 31, 3) := by decide +kernel
theorem d8_105 : decode method_6_code 105 = .ok (.invokestatic 31, 3) := by decide +kernel
theorem d8_108 : decode method_6_code 108 = .ok (.istore 16, 2) := by decide +kernel
theorem d8_110 : decode method_6_code 110 = .ok (.iload 5, 2) := by decide +kernel
theorem d8_112 : decode method_6_code 112 = .ok (.ifCond .le 31, 3) := by decide +kernel
theorem d8_115 : decode method_6_code 115 = .ok (.iload 16, 2) := by decide +kernel
theorem d8_117 : decode method_6_code 117 = .ok (.iload 13, 2) := by decide +kernel
theorem d8_119 : decode method_6_code 119 = .ok (.iload 5, 2) := by decide +kernel
theorem d8_121 : decode method_6_code 121 = .ok (.iadd, 1) := by decide +kernel
theorem d8_122 : decode method_6_code 122 = .ok (.if_icmp .ne 21, 3) := by decide +kernel
theorem d8_125 : decode method_6_code 125 = .ok (.iconst 2, 1) := by decide +kernel
theorem d8_126 : decode method_6_code 126 = .ok (.newarray .int, 2) := by decide +kernel
theorem d8_128 : decode method_6_code 128 = .ok (.dup, 1) := by decide +kernel
theorem d8_129 : decode method_6_code 129 = .ok (.iconst 0, 1) := by decide +kernel
theorem d8_130 : decode method_6_code 130 = .ok (.iconst 2, 1) := by decide +kernel
theorem d8_131 : decode method_6_code 131 = .ok (.iload_n 0, 1) := by decide +kernel
theorem d8_132 : decode method_6_code 132 = .ok (.iload_n 1, 1) := by decide +kernel
theorem d8_133 : decode method_6_code 133 = .ok (.iload_n 2, 1) := by decide +kernel
theorem d8_134 : decode method_6_code 134 = .ok (.invokestatic 13, 3) := by decide +kernel
theorem d8_137 : decode method_6_code 137 = .ok (.iastore, 1) := by decide +kernel
theorem d8_138 : decode method_6_code 138 = .ok (.dup, 1) := by decide +kernel
theorem d8_139 : decode method_6_code 139 = .ok (.iconst 1, 1) := by decide +kernel
theorem d8_140 : decode method_6_code 140 = .ok (.iconst 2, 1) := by decide +kernel
theorem d8_141 : decode method_6_code 141 = .ok (.iastore, 1) := by decide +kernel
theorem d8_142 : decode method_6_code 142 = .ok (.areturn, 1) := by decide +kernel
theorem d8_143 : decode method_6_code 143 = .ok (.iload 16, 2) := by decide +kernel
theorem d8_145 : decode method_6_code 145 = .ok (.iload 14, 2) := by decide +kernel
theorem d8_147 : decode method_6_code 147 = .ok (.if_icmp .ne 21, 3) := by decide +kernel
theorem d8_150 : decode method_6_code 150 = .ok (.iconst 2, 1) := by decide +kernel
theorem d8_151 : decode method_6_code 151 = .ok (.newarray .int, 2) := by decide +kernel
theorem d8_153 : decode method_6_code 153 = .ok (.dup, 1) := by decide +kernel
theorem d8_154 : decode method_6_code 154 = .ok (.iconst 0, 1) := by decide +kernel
theorem d8_155 : decode method_6_code 155 = .ok (.iconst 3, 1) := by decide +kernel
theorem d8_156 : decode method_6_code 156 = .ok (.iload_n 0, 1) := by decide +kernel
theorem d8_157 : decode method_6_code 157 = .ok (.iload_n 1, 1) := by decide +kernel
theorem d8_158 : decode method_6_code 158 = .ok (.iload_n 2, 1) := by decide +kernel
theorem d8_159 : decode method_6_code 159 = .ok (.invokestatic 13, 3) := by decide +kernel
theorem d8_162 : decode method_6_code 162 = .ok (.iastore, 1) := by decide +kernel
theorem d8_163 : decode method_6_code 163 = .ok (.dup, 1) := by decide +kernel
theorem d8_164 : decode method_6_code 164 = .ok (.iconst 1, 1) := by decide +kernel
theorem d8_165 : decode method_6_code 165 = .ok (.iconst (-1), 1) := by decide +kernel
theorem d8_166 : decode method_6_code 166 = .ok (.iastore, 1) := by decide +kernel
theorem d8_167 : decode method_6_code 167 = .ok (.areturn, 1) := by decide +kernel
theorem d8_168 : decode method_6_code 168 = .ok (.iload 4, 2) := by decide +kernel
theorem d8_170 : decode method_6_code 170 = .ok (.ifCond .le 31, 3) := by decide +kernel
theorem d8_173 : decode method_6_code 173 = .ok (.iload 15, 2) := by decide +kernel
theorem d8_175 : decode method_6_code 175 = .ok (.iload 12, 2) := by decide +kernel
theorem d8_177 : decode method_6_code 177 = .ok (.iload 4, 2) := by decide +kernel
theorem d8_179 : decode method_6_code 179 = .ok (.iadd, 1) := by decide +kernel
theorem d8_180 : decode method_6_code 180 = .ok (.if_icmp .ne 21, 3) := by decide +kernel
theorem d8_183 : decode method_6_code 183 = .ok (.iconst 2, 1) := by decide +kernel
theorem d8_184 : decode method_6_code 184 = .ok (.newarray .int, 2) := by decide +kernel
theorem d8_186 : decode method_6_code 186 = .ok (.dup, 1) := by decide +kernel
theorem d8_187 : decode method_6_code 187 = .ok (.iconst 0, 1) := by decide +kernel
theorem d8_188 : decode method_6_code 188 = .ok (.iconst 1, 1) := by decide +kernel
theorem d8_189 : decode method_6_code 189 = .ok (.iload_n 0, 1) := by decide +kernel
theorem d8_190 : decode method_6_code 190 = .ok (.iload_n 1, 1) := by decide +kernel
theorem d8_191 : decode method_6_code 191 = .ok (.iload_n 2, 1) := by decide +kernel
theorem d8_192 : decode method_6_code 192 = .ok (.invokestatic 13, 3) := by decide +kernel
theorem d8_195 : decode method_6_code 195 = .ok (.iastore, 1) := by decide +kernel
theorem d8_196 : decode method_6_code 196 = .ok (.dup, 1) := by decide +kernel
theorem d8_197 : decode method_6_code 197 = .ok (.iconst 1, 1) := by decide +kernel
theorem d8_198 : decode method_6_code 198 = .ok (.iconst 1, 1) := by decide +kernel
theorem d8_199 : decode method_6_code 199 = .ok (.iastore, 1) := by decide +kernel
theorem d8_200 : decode method_6_code 200 = .ok (.areturn, 1) := by decide +kernel
theorem d8_201 : decode method_6_code 201 = .ok (.iload 15, 2) := by decide +kernel
theorem d8_203 : decode method_6_code 203 = .ok (.iload 13, 2) := by decide +kernel
theorem d8_205 : decode method_6_code 205 = .ok (.if_icmp .ne 21, 3) := by decide +kernel
theorem d8_208 : decode method_6_code 208 = .ok (.iconst 2, 1) := by decide +kernel
theorem d8_209 : decode method_6_code 209 = .ok (.newarray .int, 2) := by decide +kernel
theorem d8_211 : decode method_6_code 211 = .ok (.dup, 1) := by decide +kernel
theorem d8_212 : decode method_6_code 212 = .ok (.iconst 0, 1) := by decide +kernel
theorem d8_213 : decode method_6_code 213 = .ok (.iconst 2, 1) := by decide +kernel
theorem d8_214 : decode method_6_code 214 = .ok (.iload_n 0, 1) := by decide +kernel
theorem d8_215 : decode method_6_code 215 = .ok (.iload_n 1, 1) := by decide +kernel
theorem d8_216 : decode method_6_code 216 = .ok (.iload_n 2, 1) := by decide +kernel
theorem d8_217 : decode method_6_code 217 = .ok (.invokestatic 13, 3) := by decide +kernel
theorem d8_220 : decode method_6_code 220 = .ok (.iastore, 1) := by decide +kernel
theorem d8_221 : decode method_6_code 221 = .ok (.dup, 1) := by decide +kernel
theorem d8_222 : decode method_6_code 222 = .ok (.iconst 1, 1) := by decide +kernel
theorem d8_223 : decode method_6_code 223 = .ok (.iconst (-1), 1) := by decide +kernel
theorem d8_224 : decode method_6_code 224 = .ok (.iastore, 1) := by decide +kernel
theorem d8_225 : decode method_6_code 225 = .ok (.areturn, 1) := by decide +kernel
theorem d8_226 : decode method_6_code 226 = .ok (.iload_n 0, 1) := by decide +kernel
theorem d8_227 : decode method_6_code 227 = .ok (.iload_n 3, 1) := by decide +kernel
theorem d8_228 : decode method_6_code 228 = .ok (.invokestatic 17, 3) := by decide +kernel
theorem d8_231 : decode method_6_code 231 = .ok (.areturn, 1) := by decide +kernel
set_option maxRecDepth 65536 in
set_option maxHeartbeats 40000000 in
theorem rmFu (l : Launch) (Z : State) (w0 : Array Value) (hw : ∀ d ∈ tables_1, d.before w0 Z = true) (ws : List Jvm.Cond) (u0 u1 u2 u3 u4 u5 : Int32) (h0 : Heap) (n0 : Nat) (Z0 : n0 ≤ h0.size) : Pact l Z (⟨"com/example/same_shape/sameshape/service/OrderedPairingPairPinLaw", "full", "(IIIIII)[I"⟩ : MethodName) method_6_code 17 (some (.array .int)) ws ({ frames := 4, cells := 1, slots := 2, locals := 63 } : Room) #[.int u0, .int u1, .int u2, .int u3, .int u4, .int u5] h0 (own_Q2 Z (own_fu u0 u1 u2 u3 u4 u5) h0 n0) := by
  refine Pact.intro (plainFor_of_name pnLaw) ?_
  intro p e s m below meth c T0 X0 hx hby hml hret hlk hown hnm hZ e0
  refine Go.at (efFu m u0 u1 u2 u3 u4 u5) ?_
  have N0 := Fr.nil n0
  have EX0 : Ext h0 h0 := ⟨Nat.le_refl _, fun _ _ q => q⟩
  refine Go.on (g' := (mkF m 1 _ [(.int u0)])) (fun t_ k_ => XS.iloadN X0.here hx rfl (hb hby d8_0) rfl k_) ?_
  refine Go.callS X0 hx hZ hby (by rw [hml]; rfl) (y := (⟨"com/example/same_shape/sameshape/service/OrderedPairingPairPinLaw", "pos", "(I)I"⟩ : MethodName)) hown (hw _ (List.mem_of_getElem? (i := 5) rfl)) (hw _ (List.mem_of_getElem? (i := 6) rfl)) (hw _ (List.mem_of_getElem? (i := 3) rfl)) (hw _ (List.mem_of_getElem? (i := 7) rfl)) (by decide) (argsL := [(.int u0)]) (rest := []) (rmPos l Z w0 hw [] u0 h0) e0 0 (by decide) (by decide) (by decide) (by decide) rfl pdPos rfl (Nat.le_of_eq rfl) d8_1 (pcF := 4) rfl ?_
  intro v1 T1 L1 X1 hQ1
  obtain ⟨rfl, rfl, e1⟩ := hQ1
  rw [List.append_nil] at X1
  show Go p e below _ _ (mkF m 4 _ [(.int (own_pos u0))])
  refine Go.on (g' := (mkF m 6 #[.val (.int u0), .val (.int u1), .val (.int u2), .val (.int u3), .val (.int u4), .val (.int u5), .val (.int (own_pos u0)), .unset, .unset, .unset, .unset, .unset, .unset, .unset, .unset, .unset, .unset] [])) (fun t_ k_ => XS.istore X1.here hx rfl (hb hby d8_4) rfl (l' := #[.val (.int u0), .val (.int u1), .val (.int u2), .val (.int u3), .val (.int u4), .val (.int u5), .val (.int (own_pos u0)), .unset, .unset, .unset, .unset, .unset, .unset, .unset, .unset, .unset, .unset]) rfl k_) ?_
  refine Go.on (g' := (mkF m 7 _ [(.int u1)])) (fun t_ k_ => XS.iloadN X1.here hx rfl (hb hby d8_6) rfl k_) ?_
  refine Go.callS X1 hx hZ hby (by rw [hml]; rfl) (y := (⟨"com/example/same_shape/sameshape/service/OrderedPairingPairPinLaw", "pos", "(I)I"⟩ : MethodName)) hown (hw _ (List.mem_of_getElem? (i := 5) rfl)) (hw _ (List.mem_of_getElem? (i := 6) rfl)) (hw _ (List.mem_of_getElem? (i := 3) rfl)) (hw _ (List.mem_of_getElem? (i := 7) rfl)) (by decide) (argsL := [(.int u1)]) (rest := []) (rmPos l Z w0 hw [] u1 h0) e1 0 (by decide) (by decide) (by decide) (by decide) rfl pdPos rfl (Nat.le_of_eq rfl) d8_7 (pcF := 10) rfl ?_
  intro v2 T2 L2 X2 hQ2
  obtain ⟨rfl, rfl, e2⟩ := hQ2
  rw [List.append_nil] at X2
  show Go p e below _ _ (mkF m 10 _ [(.int (own_pos u1))])
  refine Go.on (g' := (mkF m 12 #[.val (.int u0), .val (.int u1), .val (.int u2), .val (.int u3), .val (.int u4), .val (.int u5), .val (.int (own_pos u0)), .val (.int (own_pos u1)), .unset, .unset, .unset, .unset, .unset, .unset, .unset, .unset, .unset] [])) (fun t_ k_ => XS.istore X2.here hx rfl (hb hby d8_10) rfl (l' := #[.val (.int u0), .val (.int u1), .val (.int u2), .val (.int u3), .val (.int u4), .val (.int u5), .val (.int (own_pos u0)), .val (.int (own_pos u1)), .unset, .unset, .unset, .unset, .unset, .unset, .unset, .unset, .unset]) rfl k_) ?_
  refine Go.on (g' := (mkF m 13 _ [(.int u2)])) (fun t_ k_ => XS.iloadN X2.here hx rfl (hb hby d8_12) rfl k_) ?_
  refine Go.callS X2 hx hZ hby (by rw [hml]; rfl) (y := (⟨"com/example/same_shape/sameshape/service/OrderedPairingPairPinLaw", "pos", "(I)I"⟩ : MethodName)) hown (hw _ (List.mem_of_getElem? (i := 5) rfl)) (hw _ (List.mem_of_getElem? (i := 6) rfl)) (hw _ (List.mem_of_getElem? (i := 3) rfl)) (hw _ (List.mem_of_getElem? (i := 7) rfl)) (by decide) (argsL := [(.int u2)]) (rest := []) (rmPos l Z w0 hw [] u2 h0) e2 0 (by decide) (by decide) (by decide) (by decide) rfl pdPos rfl (Nat.le_of_eq rfl) d8_13 (pcF := 16) rfl ?_
  intro v3 T3 L3 X3 hQ3
  obtain ⟨rfl, rfl, e3⟩ := hQ3
  rw [List.append_nil] at X3
  show Go p e below _ _ (mkF m 16 _ [(.int (own_pos u2))])
  refine Go.on (g' := (mkF m 18 #[.val (.int u0), .val (.int u1), .val (.int u2), .val (.int u3), .val (.int u4), .val (.int u5), .val (.int (own_pos u0)), .val (.int (own_pos u1)), .val (.int (own_pos u2)), .unset, .unset, .unset, .unset, .unset, .unset, .unset, .unset] [])) (fun t_ k_ => XS.istore X3.here hx rfl (hb hby d8_16) rfl (l' := #[.val (.int u0), .val (.int u1), .val (.int u2), .val (.int u3), .val (.int u4), .val (.int u5), .val (.int (own_pos u0)), .val (.int (own_pos u1)), .val (.int (own_pos u2)), .unset, .unset, .unset, .unset, .unset, .unset, .unset, .unset]) rfl k_) ?_
  refine Go.on (g' := (mkF m 19 _ [(.int u3)])) (fun t_ k_ => XS.iloadN X3.here hx rfl (hb hby d8_18) rfl k_) ?_
  refine Go.callS X3 hx hZ hby (by rw [hml]; rfl) (y := (⟨"com/example/same_shape/sameshape/service/OrderedPairingPairPinLaw", "pos", "(I)I"⟩ : MethodName)) hown (hw _ (List.mem_of_getElem? (i := 5) rfl)) (hw _ (List.mem_of_getElem? (i := 6) rfl)) (hw _ (List.mem_of_getElem? (i := 3) rfl)) (hw _ (List.mem_of_getElem? (i := 7) rfl)) (by decide) (argsL := [(.int u3)]) (rest := []) (rmPos l Z w0 hw [] u3 h0) e3 0 (by decide) (by decide) (by decide) (by decide) rfl pdPos rfl (Nat.le_of_eq rfl) d8_19 (pcF := 22) rfl ?_
  intro v4 T4 L4 X4 hQ4
  obtain ⟨rfl, rfl, e4⟩ := hQ4
  rw [List.append_nil] at X4
  show Go p e below _ _ (mkF m 22 _ [(.int (own_pos u3))])
  refine Go.on (g' := (mkF m 24 #[.val (.int u0), .val (.int u1), .val (.int u2), .val (.int u3), .val (.int u4), .val (.int u5), .val (.int (own_pos u0)), .val (.int (own_pos u1)), .val (.int (own_pos u2)), .val (.int (own_pos u3)), .unset, .unset, .unset, .unset, .unset, .unset, .unset] [])) (fun t_ k_ => XS.istore X4.here hx rfl (hb hby d8_22) rfl (l' := #[.val (.int u0), .val (.int u1), .val (.int u2), .val (.int u3), .val (.int u4), .val (.int u5), .val (.int (own_pos u0)), .val (.int (own_pos u1)), .val (.int (own_pos u2)), .val (.int (own_pos u3)), .unset, .unset, .unset, .unset, .unset, .unset, .unset]) rfl k_) ?_
  refine Go.on (g' := (mkF m 26 _ [(.int u4)])) (fun t_ k_ => XS.iload X4.here hx rfl (hb hby d8_24) rfl k_) ?_
  refine Go.callS X4 hx hZ hby (by rw [hml]; rfl) (y := (⟨"com/example/same_shape/sameshape/service/OrderedPairingPairPinLaw", "pos", "(I)I"⟩ : MethodName)) hown (hw _ (List.mem_of_getElem? (i := 5) rfl)) (hw _ (List.mem_of_getElem? (i := 6) rfl)) (hw _ (List.mem_of_getElem? (i := 3) rfl)) (hw _ (List.mem_of_getElem? (i := 7) rfl)) (by decide) (argsL := [(.int u4)]) (rest := []) (rmPos l Z w0 hw [] u4 h0) e4 0 (by decide) (by decide) (by decide) (by decide) rfl pdPos rfl (Nat.le_of_eq rfl) d8_26 (pcF := 29) rfl ?_
  intro v5 T5 L5 X5 hQ5
  obtain ⟨rfl, rfl, e5⟩ := hQ5
  rw [List.append_nil] at X5
  show Go p e below _ _ (mkF m 29 _ [(.int (own_pos u4))])
  refine Go.on (g' := (mkF m 31 #[.val (.int u0), .val (.int u1), .val (.int u2), .val (.int u3), .val (.int u4), .val (.int u5), .val (.int (own_pos u0)), .val (.int (own_pos u1)), .val (.int (own_pos u2)), .val (.int (own_pos u3)), .val (.int (own_pos u4)), .unset, .unset, .unset, .unset, .unset, .unset] [])) (fun t_ k_ => XS.istore X5.here hx rfl (hb hby d8_29) rfl (l' := #[.val (.int u0), .val (.int u1), .val (.int u2), .val (.int u3), .val (.int u4), .val (.int u5), .val (.int (own_pos u0)), .val (.int (own_pos u1)), .val (.int (own_pos u2)), .val (.int (own_pos u3)), .val (.int (own_pos u4)), .unset, .unset, .unset, .unset, .unset, .unset]) rfl k_) ?_
  refine Go.on (g' := (mkF m 33 _ [(.int u5)])) (fun t_ k_ => XS.iload X5.here hx rfl (hb hby d8_31) rfl k_) ?_
  refine Go.callS X5 hx hZ hby (by rw [hml]; rfl) (y := (⟨"com/example/same_shape/sameshape/service/OrderedPairingPairPinLaw", "pos", "(I)I"⟩ : MethodName)) hown (hw _ (List.mem_of_getElem? (i := 5) rfl)) (hw _ (List.mem_of_getElem? (i := 6) rfl)) (hw _ (List.mem_of_getElem? (i := 3) rfl)) (hw _ (List.mem_of_getElem? (i := 7) rfl)) (by decide) (argsL := [(.int u5)]) (rest := []) (rmPos l Z w0 hw [] u5 h0) e5 0 (by decide) (by decide) (by decide) (by decide) rfl pdPos rfl (Nat.le_of_eq rfl) d8_33 (pcF := 36) rfl ?_
  intro v6 T6 L6 X6 hQ6
  obtain ⟨rfl, rfl, e6⟩ := hQ6
  rw [List.append_nil] at X6
  show Go p e below _ _ (mkF m 36 _ [(.int (own_pos u5))])
  refine Go.on (g' := (mkF m 38 #[.val (.int u0), .val (.int u1), .val (.int u2), .val (.int u3), .val (.int u4), .val (.int u5), .val (.int (own_pos u0)), .val (.int (own_pos u1)), .val (.int (own_pos u2)), .val (.int (own_pos u3)), .val (.int (own_pos u4)), .val (.int (own_pos u5)), .unset, .unset, .unset, .unset, .unset] [])) (fun t_ k_ => XS.istore X6.here hx rfl (hb hby d8_36) rfl (l' := #[.val (.int u0), .val (.int u1), .val (.int u2), .val (.int u3), .val (.int u4), .val (.int u5), .val (.int (own_pos u0)), .val (.int (own_pos u1)), .val (.int (own_pos u2)), .val (.int (own_pos u3)), .val (.int (own_pos u4)), .val (.int (own_pos u5)), .unset, .unset, .unset, .unset, .unset]) rfl k_) ?_
  refine Go.on (g' := (mkF m 40 _ [(.int (own_pos u0))])) (fun t_ k_ => XS.iload X6.here hx rfl (hb hby d8_38) rfl k_) ?_
  refine Go.on (g' := (mkF m 42 #[.val (.int u0), .val (.int u1), .val (.int u2), .val (.int u3), .val (.int u4), .val (.int u5), .val (.int (own_pos u0)), .val (.int (own_pos u1)), .val (.int (own_pos u2)), .val (.int (own_pos u3)), .val (.int (own_pos u4)), .val (.int (own_pos u5)), .val (.int (own_pos u0)), .unset, .unset, .unset, .unset] [])) (fun t_ k_ => XS.istore X6.here hx rfl (hb hby d8_40) rfl (l' := #[.val (.int u0), .val (.int u1), .val (.int u2), .val (.int u3), .val (.int u4), .val (.int u5), .val (.int (own_pos u0)), .val (.int (own_pos u1)), .val (.int (own_pos u2)), .val (.int (own_pos u3)), .val (.int (own_pos u4)), .val (.int (own_pos u5)), .val (.int (own_pos u0)), .unset, .unset, .unset, .unset]) rfl k_) ?_
  refine Go.on (g' := (mkF m 44 _ [(.int (own_pos u0))])) (fun t_ k_ => XS.iload X6.here hx rfl (hb hby d8_42) rfl k_) ?_
  refine Go.on (g' := (mkF m 46 _ [(.int (own_pos u1)), (.int (own_pos u0))])) (fun t_ k_ => XS.iload X6.here hx rfl (hb hby d8_44) rfl k_) ?_
  refine Go.callS X6 hx hZ hby (by rw [hml]; rfl) (y := (⟨"java/lang/Math", "max", "(II)I"⟩ : MethodName)) hown (hw _ (List.mem_of_getElem? (i := 8) rfl)) (hw _ (List.mem_of_getElem? (i := 9) rfl)) (hw _ (List.mem_of_getElem? (i := 10) rfl)) (hw _ (List.mem_of_getElem? (i := 11) rfl)) (by decide) (argsL := [(.int (own_pos u0)), (.int (own_pos u1))]) (rest := []) (rmM l Z w0 hw [] (own_pos u0) (own_pos u1) h0) e6 0 (by decide) (by decide) (by decide) (by decide) rfl pdM rfl (Nat.le_of_eq rfl) d8_46 (pcF := 49) rfl ?_
  intro v7 T7 L7 X7 hQ7
  obtain ⟨rfl, rfl, e7⟩ := hQ7
  rw [List.append_nil] at X7
  show Go p e below _ _ (mkF m 49 _ [(.int (own_max (own_pos u0) (own_pos u1)))])
  refine Go.on (g' := (mkF m 51 #[.val (.int u0), .val (.int u1), .val (.int u2), .val (.int u3), .val (.int u4), .val (.int u5), .val (.int (own_pos u0)), .val (.int (own_pos u1)), .val (.int (own_pos u2)), .val (.int (own_pos u3)), .val (.int (own_pos u4)), .val (.int (own_pos u5)), .val (.int (own_pos u0)), .val (.int (own_max (own_pos u0) (own_pos u1))), .unset, .unset, .unset] [])) (fun t_ k_ => XS.istore X7.here hx rfl (hb hby d8_49) rfl (l' := #[.val (.int u0), .val (.int u1), .val (.int u2), .val (.int u3), .val (.int u4), .val (.int u5), .val (.int (own_pos u0)), .val (.int (own_pos u1)), .val (.int (own_pos u2)), .val (.int (own_pos u3)), .val (.int (own_pos u4)), .val (.int (own_pos u5)), .val (.int (own_pos u0)), .val (.int (own_max (own_pos u0) (own_pos u1))), .unset, .unset, .unset]) rfl k_) ?_
  refine Go.on (g' := (mkF m 53 _ [(.int (own_max (own_pos u0) (own_pos u1)))])) (fun t_ k_ => XS.iload X7.here hx rfl (hb hby d8_51) rfl k_) ?_
  refine Go.on (g' := (mkF m 55 _ [(.int (own_pos u2)), (.int (own_max (own_pos u0) (own_pos u1)))])) (fun t_ k_ => XS.iload X7.here hx rfl (hb hby d8_53) rfl k_) ?_
  refine Go.callS X7 hx hZ hby (by rw [hml]; rfl) (y := (⟨"java/lang/Math", "max", "(II)I"⟩ : MethodName)) hown (hw _ (List.mem_of_getElem? (i := 8) rfl)) (hw _ (List.mem_of_getElem? (i := 9) rfl)) (hw _ (List.mem_of_getElem? (i := 10) rfl)) (hw _ (List.mem_of_getElem? (i := 11) rfl)) (by decide) (argsL := [(.int (own_max (own_pos u0) (own_pos u1))), (.int (own_pos u2))]) (rest := []) (rmM l Z w0 hw [] (own_max (own_pos u0) (own_pos u1)) (own_pos u2) h0) e7 0 (by decide) (by decide) (by decide) (by decide) rfl pdM rfl (Nat.le_of_eq rfl) d8_55 (pcF := 58) rfl ?_
  intro v8 T8 L8 X8 hQ8
  obtain ⟨rfl, rfl, e8⟩ := hQ8
  rw [List.append_nil] at X8
  show Go p e below _ _ (mkF m 58 _ [(.int (own_max (own_max (own_pos u0) (own_pos u1)) (own_pos u2)))])
  refine Go.on (g' := (mkF m 60 #[.val (.int u0), .val (.int u1), .val (.int u2), .val (.int u3), .val (.int u4), .val (.int u5), .val (.int (own_pos u0)), .val (.int (own_pos u1)), .val (.int (own_pos u2)), .val (.int (own_pos u3)), .val (.int (own_pos u4)), .val (.int (own_pos u5)), .val (.int (own_pos u0)), .val (.int (own_max (own_pos u0) (own_pos u1))), .val (.int (own_max (own_max (own_pos u0) (own_pos u1)) (own_pos u2))), .unset, .unset] [])) (fun t_ k_ => XS.istore X8.here hx rfl (hb hby d8_58) rfl (l' := #[.val (.int u0), .val (.int u1), .val (.int u2), .val (.int u3), .val (.int u4), .val (.int u5), .val (.int (own_pos u0)), .val (.int (own_pos u1)), .val (.int (own_pos u2)), .val (.int (own_pos u3)), .val (.int (own_pos u4)), .val (.int (own_pos u5)), .val (.int (own_pos u0)), .val (.int (own_max (own_pos u0) (own_pos u1))), .val (.int (own_max (own_max (own_pos u0) (own_pos u1)) (own_pos u2))), .unset, .unset]) rfl k_) ?_
  refine Go.on (g' := (mkF m 62 _ [(.int (own_pos u0))])) (fun t_ k_ => XS.iload X8.here hx rfl (hb hby d8_60) rfl k_) ?_
  refine Go.on (g' := (mkF m 64 _ [(.int (own_pos u4)), (.int (own_pos u0))])) (fun t_ k_ => XS.iload X8.here hx rfl (hb hby d8_62) rfl k_) ?_
  refine Go.on (g' := (mkF m 65 _ [(.int ((own_pos u0) + (own_pos u4)))])) (fun t_ k_ => XS.iadd X8.here hx rfl (hb hby d8_64) rfl k_) ?_
  refine Go.on (g' := (mkF m 67 _ [(.int (own_pos u1)), (.int ((own_pos u0) + (own_pos u4)))])) (fun t_ k_ => XS.iload X8.here hx rfl (hb hby d8_65) rfl k_) ?_
  refine Go.on (g' := (mkF m 69 _ [(.int (own_pos u3)), (.int (own_pos u1)), (.int ((own_pos u0) + (own_pos u4)))])) (fun t_ k_ => XS.iload X8.here hx rfl (hb hby d8_67) rfl k_) ?_
  refine Go.callS X8 hx hZ hby (by rw [hml]; rfl) (y := (⟨"java/lang/Math", "max", "(II)I"⟩ : MethodName)) hown (hw _ (List.mem_of_getElem? (i := 8) rfl)) (hw _ (List.mem_of_getElem? (i := 9) rfl)) (hw _ (List.mem_of_getElem? (i := 10) rfl)) (hw _ (List.mem_of_getElem? (i := 11) rfl)) (by decide) (argsL := [(.int (own_pos u1)), (.int (own_pos u3))]) (rest := [(.int ((own_pos u0) + (own_pos u4)))]) (rmM l Z w0 hw [] (own_pos u1) (own_pos u3) h0) e8 1 (by decide) (by decide) (by decide) (by decide) rfl pdM rfl (Nat.le_of_eq rfl) d8_69 (pcF := 72) rfl ?_
  intro v9 T9 L9 X9 hQ9
  obtain ⟨rfl, rfl, e9⟩ := hQ9
  rw [List.append_nil] at X9
  show Go p e below _ _ (mkF m 72 _ [(.int (own_max (own_pos u1) (own_pos u3))), (.int ((own_pos u0) + (own_pos u4)))])
  refine Go.callS X9 hx hZ hby (by rw [hml]; rfl) (y := (⟨"java/lang/Math", "max", "(II)I"⟩ : MethodName)) hown (hw _ (List.mem_of_getElem? (i := 8) rfl)) (hw _ (List.mem_of_getElem? (i := 9) rfl)) (hw _ (List.mem_of_getElem? (i := 10) rfl)) (hw _ (List.mem_of_getElem? (i := 11) rfl)) (by decide) (argsL := [(.int ((own_pos u0) + (own_pos u4))), (.int (own_max (own_pos u1) (own_pos u3)))]) (rest := []) (rmM l Z w0 hw [] ((own_pos u0) + (own_pos u4)) (own_max (own_pos u1) (own_pos u3)) h0) e9 0 (by decide) (by decide) (by decide) (by decide) rfl pdM rfl (Nat.le_of_eq rfl) d8_72 (pcF := 75) rfl ?_
  intro v10 T10 L10 X10 hQ10
  obtain ⟨rfl, rfl, e10⟩ := hQ10
  rw [List.append_nil] at X10
  show Go p e below _ _ (mkF m 75 _ [(.int (own_max ((own_pos u0) + (own_pos u4)) (own_max (own_pos u1) (own_pos u3))))])
  refine Go.on (g' := (mkF m 77 #[.val (.int u0), .val (.int u1), .val (.int u2), .val (.int u3), .val (.int u4), .val (.int u5), .val (.int (own_pos u0)), .val (.int (own_pos u1)), .val (.int (own_pos u2)), .val (.int (own_pos u3)), .val (.int (own_pos u4)), .val (.int (own_pos u5)), .val (.int (own_pos u0)), .val (.int (own_max (own_pos u0) (own_pos u1))), .val (.int (own_max (own_max (own_pos u0) (own_pos u1)) (own_pos u2))), .val (.int (own_max ((own_pos u0) + (own_pos u4)) (own_max (own_pos u1) (own_pos u3)))), .unset] [])) (fun t_ k_ => XS.istore X10.here hx rfl (hb hby d8_75) rfl (l' := #[.val (.int u0), .val (.int u1), .val (.int u2), .val (.int u3), .val (.int u4), .val (.int u5), .val (.int (own_pos u0)), .val (.int (own_pos u1)), .val (.int (own_pos u2)), .val (.int (own_pos u3)), .val (.int (own_pos u4)), .val (.int (own_pos u5)), .val (.int (own_pos u0)), .val (.int (own_max (own_pos u0) (own_pos u1))), .val (.int (own_max (own_max (own_pos u0) (own_pos u1)) (own_pos u2))), .val (.int (own_max ((own_pos u0) + (own_pos u4)) (own_max (own_pos u1) (own_pos u3)))), .unset]) rfl k_) ?_
  refine Go.on (g' := (mkF m 79 _ [(.int (own_pos u0))])) (fun t_ k_ => XS.iload X10.here hx rfl (hb hby d8_77) rfl k_) ?_
  refine Go.on (g' := (mkF m 81 _ [(.int (own_pos u4)), (.int (own_pos u0))])) (fun t_ k_ => XS.iload X10.here hx rfl (hb hby d8_79) rfl k_) ?_
  refine Go.on (g' := (mkF m 82 _ [(.int ((own_pos u0) + (own_pos u4)))])) (fun t_ k_ => XS.iadd X10.here hx rfl (hb hby d8_81) rfl k_) ?_
  refine Go.on (g' := (mkF m 84 _ [(.int (own_pos u0)), (.int ((own_pos u0) + (own_pos u4)))])) (fun t_ k_ => XS.iload X10.here hx rfl (hb hby d8_82) rfl k_) ?_
  refine Go.on (g' := (mkF m 86 _ [(.int (own_pos u5)), (.int (own_pos u0)), (.int ((own_pos u0) + (own_pos u4)))])) (fun t_ k_ => XS.iload X10.here hx rfl (hb hby d8_84) rfl k_) ?_
  refine Go.on (g' := (mkF m 87 _ [(.int ((own_pos u0) + (own_pos u5))), (.int ((own_pos u0) + (own_pos u4)))])) (fun t_ k_ => XS.iadd X10.here hx rfl (hb hby d8_86) rfl k_) ?_
  refine Go.callS X10 hx hZ hby (by rw [hml]; rfl) (y := (⟨"java/lang/Math", "max", "(II)I"⟩ : MethodName)) hown (hw _ (List.mem_of_getElem? (i := 8) rfl)) (hw _ (List.mem_of_getElem? (i := 9) rfl)) (hw _ (List.mem_of_getElem? (i := 10) rfl)) (hw _ (List.mem_of_getElem? (i := 11) rfl)) (by decide) (argsL := [(.int ((own_pos u0) + (own_pos u4))), (.int ((own_pos u0) + (own_pos u5)))]) (rest := []) (rmM l Z w0 hw [] ((own_pos u0) + (own_pos u4)) ((own_pos u0) + (own_pos u5)) h0) e10 0 (by decide) (by decide) (by decide) (by decide) rfl pdM rfl (Nat.le_of_eq rfl) d8_87 (pcF := 90) rfl ?_
  intro v11 T11 L11 X11 hQ11
  obtain ⟨rfl, rfl, e11⟩ := hQ11
  rw [List.append_nil] at X11
  show Go p e below _ _ (mkF m 90 _ [(.int (own_max ((own_pos u0) + (own_pos u4)) ((own_pos u0) + (own_pos u5))))])
  refine Go.on (g' := (mkF m 92 _ [(.int (own_pos u1)), (.int (own_max ((own_pos u0) + (own_pos u4)) ((own_pos u0) + (own_pos u5))))])) (fun t_ k_ => XS.iload X11.here hx rfl (hb hby d8_90) rfl k_) ?_
  refine Go.on (g' := (mkF m 94 _ [(.int (own_pos u5)), (.int (own_pos u1)), (.int (own_max ((own_pos u0) + (own_pos u4)) ((own_pos u0) + (own_pos u5))))])) (fun t_ k_ => XS.iload X11.here hx rfl (hb hby d8_92) rfl k_) ?_
  refine Go.on (g' := (mkF m 95 _ [(.int ((own_pos u1) + (own_pos u5))), (.int (own_max ((own_pos u0) + (own_pos u4)) ((own_pos u0) + (own_pos u5))))])) (fun t_ k_ => XS.iadd X11.here hx rfl (hb hby d8_94) rfl k_) ?_
  refine Go.on (g' := (mkF m 97 _ [(.int (own_pos u2)), (.int ((own_pos u1) + (own_pos u5))), (.int (own_max ((own_pos u0) + (own_pos u4)) ((own_pos u0) + (own_pos u5))))])) (fun t_ k_ => XS.iload X11.here hx rfl (hb hby d8_95) rfl k_) ?_
  refine Go.on (g' := (mkF m 99 _ [(.int (own_pos u3)), (.int (own_pos u2)), (.int ((own_pos u1) + (own_pos u5))), (.int (own_max ((own_pos u0) + (own_pos u4)) ((own_pos u0) + (own_pos u5))))])) (fun t_ k_ => XS.iload X11.here hx rfl (hb hby d8_97) rfl k_) ?_
  refine Go.callS X11 hx hZ hby (by rw [hml]; rfl) (y := (⟨"java/lang/Math", "max", "(II)I"⟩ : MethodName)) hown (hw _ (List.mem_of_getElem? (i := 8) rfl)) (hw _ (List.mem_of_getElem? (i := 9) rfl)) (hw _ (List.mem_of_getElem? (i := 10) rfl)) (hw _ (List.mem_of_getElem? (i := 11) rfl)) (by decide) (argsL := [(.int (own_pos u2)), (.int (own_pos u3))]) (rest := [(.int ((own_pos u1) + (own_pos u5))), (.int (own_max ((own_pos u0) + (own_pos u4)) ((own_pos u0) + (own_pos u5))))]) (rmM l Z w0 hw [] (own_pos u2) (own_pos u3) h0) e11 2 (by decide) (by decide) (by decide) (by decide) rfl pdM rfl (Nat.le_of_eq rfl) d8_99 (pcF := 102) rfl ?_
  intro v12 T12 L12 X12 hQ12
  obtain ⟨rfl, rfl, e12⟩ := hQ12
  rw [List.append_nil] at X12
  show Go p e below _ _ (mkF m 102 _ [(.int (own_max (own_pos u2) (own_pos u3))), (.int ((own_pos u1) + (own_pos u5))), (.int (own_max ((own_pos u0) + (own_pos u4)) ((own_pos u0) + (own_pos u5))))])
  refine Go.callS X12 hx hZ hby (by rw [hml]; rfl) (y := (⟨"java/lang/Math", "max", "(II)I"⟩ : MethodName)) hown (hw _ (List.mem_of_getElem? (i := 8) rfl)) (hw _ (List.mem_of_getElem? (i := 9) rfl)) (hw _ (List.mem_of_getElem? (i := 10) rfl)) (hw _ (List.mem_of_getElem? (i := 11) rfl)) (by decide) (argsL := [(.int ((own_pos u1) + (own_pos u5))), (.int (own_max (own_pos u2) (own_pos u3)))]) (rest := [(.int (own_max ((own_pos u0) + (own_pos u4)) ((own_pos u0) + (own_pos u5))))]) (rmM l Z w0 hw [] ((own_pos u1) + (own_pos u5)) (own_max (own_pos u2) (own_pos u3)) h0) e12 1 (by decide) (by decide) (by decide) (by decide) rfl pdM rfl (Nat.le_of_eq rfl) d8_102 (pcF := 105) rfl ?_
  intro v13 T13 L13 X13 hQ13
  obtain ⟨rfl, rfl, e13⟩ := hQ13
  rw [List.append_nil] at X13
  show Go p e below _ _ (mkF m 105 _ [(.int (own_max ((own_pos u1) + (own_pos u5)) (own_max (own_pos u2) (own_pos u3)))), (.int (own_max ((own_pos u0) + (own_pos u4)) ((own_pos u0) + (own_pos u5))))])
  refine Go.callS X13 hx hZ hby (by rw [hml]; rfl) (y := (⟨"java/lang/Math", "max", "(II)I"⟩ : MethodName)) hown (hw _ (List.mem_of_getElem? (i := 8) rfl)) (hw _ (List.mem_of_getElem? (i := 9) rfl)) (hw _ (List.mem_of_getElem? (i := 10) rfl)) (hw _ (List.mem_of_getElem? (i := 11) rfl)) (by decide) (argsL := [(.int (own_max ((own_pos u0) + (own_pos u4)) ((own_pos u0) + (own_pos u5)))), (.int (own_max ((own_pos u1) + (own_pos u5)) (own_max (own_pos u2) (own_pos u3))))]) (rest := []) (rmM l Z w0 hw [] (own_max ((own_pos u0) + (own_pos u4)) ((own_pos u0) + (own_pos u5))) (own_max ((own_pos u1) + (own_pos u5)) (own_max (own_pos u2) (own_pos u3))) h0) e13 0 (by decide) (by decide) (by decide) (by decide) rfl pdM rfl (Nat.le_of_eq rfl) d8_105 (pcF := 108) rfl ?_
  intro v14 T14 L14 X14 hQ14
  obtain ⟨rfl, rfl, e14⟩ := hQ14
  rw [List.append_nil] at X14
  show Go p e below _ _ (mkF m 108 _ [(.int (own_max (own_max ((own_pos u0) + (own_pos u4)) ((own_pos u0) + (own_pos u5))) (own_max ((own_pos u1) + (own_pos u5)) (own_max (own_pos u2) (own_pos u3)))))])
  refine Go.on (g' := (mkF m 110 #[.val (.int u0), .val (.int u1), .val (.int u2), .val (.int u3), .val (.int u4), .val (.int u5), .val (.int (own_pos u0)), .val (.int (own_pos u1)), .val (.int (own_pos u2)), .val (.int (own_pos u3)), .val (.int (own_pos u4)), .val (.int (own_pos u5)), .val (.int (own_pos u0)), .val (.int (own_max (own_pos u0) (own_pos u1))), .val (.int (own_max (own_max (own_pos u0) (own_pos u1)) (own_pos u2))), .val (.int (own_max ((own_pos u0) + (own_pos u4)) (own_max (own_pos u1) (own_pos u3)))), .val (.int (own_max (own_max ((own_pos u0) + (own_pos u4)) ((own_pos u0) + (own_pos u5))) (own_max ((own_pos u1) + (own_pos u5)) (own_max (own_pos u2) (own_pos u3)))))] [])) (fun t_ k_ => XS.istore X14.here hx rfl (hb hby d8_108) rfl (l' := #[.val (.int u0), .val (.int u1), .val (.int u2), .val (.int u3), .val (.int u4), .val (.int u5), .val (.int (own_pos u0)), .val (.int (own_pos u1)), .val (.int (own_pos u2)), .val (.int (own_pos u3)), .val (.int (own_pos u4)), .val (.int (own_pos u5)), .val (.int (own_pos u0)), .val (.int (own_max (own_pos u0) (own_pos u1))), .val (.int (own_max (own_max (own_pos u0) (own_pos u1)) (own_pos u2))), .val (.int (own_max ((own_pos u0) + (own_pos u4)) (own_max (own_pos u1) (own_pos u3)))), .val (.int (own_max (own_max ((own_pos u0) + (own_pos u4)) ((own_pos u0) + (own_pos u5))) (own_max ((own_pos u1) + (own_pos u5)) (own_max (own_pos u2) (own_pos u3)))))]) rfl k_) ?_
  obtain ⟨o12, ho12⟩ : ∃ z_ : Int32, z_ = (own_max (own_pos u0) (own_pos u1)) := ⟨_, rfl⟩
  rw [← ho12]
  obtain ⟨o13, ho13⟩ : ∃ z_ : Int32, z_ = (own_max o12 (own_pos u2)) := ⟨_, rfl⟩
  rw [← ho13]
  obtain ⟨o22, ho22⟩ : ∃ z_ : Int32, z_ = (own_max ((own_pos u0) + (own_pos u4)) (own_max (own_pos u1) (own_pos u3))) := ⟨_, rfl⟩
  rw [← ho22]
  obtain ⟨o23, ho23⟩ : ∃ z_ : Int32, z_ = (own_max (own_max ((own_pos u0) + (own_pos u4)) ((own_pos u0) + (own_pos u5))) (own_max ((own_pos u1) + (own_pos u5)) (own_max (own_pos u2) (own_pos u3)))) := ⟨_, rfl⟩
  rw [← ho23]
  refine Go.on (g' := (mkF m 112 _ [(.int u5)])) (fun t_ k_ => XS.iload X14.here hx rfl (hb hby d8_110) rfl k_) ?_
  refine Go.join (P := fun _ : Unit => ¬ (0 < u5 ∧ o23 = o12 + u5)) (g := fun _ => (mkF m 143 #[.val (.int u0), .val (.int u1), .val (.int u2), .val (.int u3), .val (.int u4), .val (.int u5), .val (.int (own_pos u0)), .val (.int (own_pos u1)), .val (.int (own_pos u2)), .val (.int (own_pos u3)), .val (.int (own_pos u4)), .val (.int (own_pos u5)), .val (.int (own_pos u0)), .val (.int o12), .val (.int o13), .val (.int o22), .val (.int o23)] [])) (fun _ hJ143 => ?_) (fun J143 => ?_)
  · show Go p e below _ _ (mkF m 143 _ [])
    refine Go.on (g' := (mkF m 145 _ [(.int o23)])) (fun t_ k_ => XS.iload X14.here hx rfl (hb hby d8_143) rfl k_) ?_
    refine Go.on (g' := (mkF m 147 _ [(.int o13), (.int o23)])) (fun t_ k_ => XS.iload X14.here hx rfl (hb hby d8_145) rfl k_) ?_
    refine Go.icmp X14 hx hby d8_147 (pcT := 168) (pcF := 150) (by decide) (by decide) rfl (fun q => ?_) (fun q => ?_)
    · have q1 := iNe.1 q
      clear q
      show Go p e below _ _ (mkF m 168 _ [])
      refine Go.on (g' := (mkF m 170 _ [(.int u4)])) (fun t_ k_ => XS.iload X14.here hx rfl (hb hby d8_168) rfl k_) ?_
      refine Go.join (P := fun _ : Unit => ¬ (0 < u4 ∧ o22 = own_pos u0 + u4)) (g := fun _ => (mkF m 201 #[.val (.int u0), .val (.int u1), .val (.int u2), .val (.int u3), .val (.int u4), .val (.int u5), .val (.int (own_pos u0)), .val (.int (own_pos u1)), .val (.int (own_pos u2)), .val (.int (own_pos u3)), .val (.int (own_pos u4)), .val (.int (own_pos u5)), .val (.int (own_pos u0)), .val (.int o12), .val (.int o13), .val (.int o22), .val (.int o23)] [])) (fun _ hJ201 => ?_) (fun J201 => ?_)
      · show Go p e below _ _ (mkF m 201 _ [])
        refine Go.on (g' := (mkF m 203 _ [(.int o22)])) (fun t_ k_ => XS.iload X14.here hx rfl (hb hby d8_201) rfl k_) ?_
        refine Go.on (g' := (mkF m 205 _ [(.int o12), (.int o22)])) (fun t_ k_ => XS.iload X14.here hx rfl (hb hby d8_203) rfl k_) ?_
        refine Go.icmp X14 hx hby d8_205 (pcT := 226) (pcF := 208) (by decide) (by decide) rfl (fun q => ?_) (fun q => ?_)
        · have q2 := iNe.1 q
          clear q
          show Go p e below _ _ (mkF m 226 _ [])
          refine Go.on (g' := (mkF m 227 _ [(.int u0)])) (fun t_ k_ => XS.iloadN X14.here hx rfl (hb hby d8_226) rfl k_) ?_
          refine Go.on (g' := (mkF m 228 _ [(.int u3), (.int u0)])) (fun t_ k_ => XS.iloadN X14.here hx rfl (hb hby d8_227) rfl k_) ?_
          refine Go.callS X14 hx hZ hby (by rw [hml]; rfl) (y := (⟨"com/example/same_shape/sameshape/service/OrderedPairingPairPinLaw", "twoByOne", "(II)[I"⟩ : MethodName)) hown (hw _ (List.mem_of_getElem? (i := 1) rfl)) (hw _ (List.mem_of_getElem? (i := 2) rfl)) (hw _ (List.mem_of_getElem? (i := 3) rfl)) (hw _ (List.mem_of_getElem? (i := 4) rfl)) (by decide) (argsL := [(.int u0), (.int u3)]) (rest := []) (rmTw l Z w0 hw [] u0 u3 h0 n0 Z0) e14 0 (by decide) (by decide) (by decide) (by decide) rfl pdTw rfl (Nat.le_of_eq rfl) d8_228 (pcF := 231) rfl ?_
          intro v15 T15 L15 X15 hQ15
          obtain ⟨ta, tc, rfl, M15, EY15, ma, AT, zt, g0, g1⟩ := hQ15
          have N15 := Fr.app N0 M15
          have e15 : T15.heap = T15.heap := rfl
          show Go p e below _ _ (mkF m 231 _ [(.ref ta)])
          exact Go.retA X15 hx hlk hret hby d8_231 rfl rfl (by decide) (by decide) ⟨ta, tc, rfl, N15, EY15, ma, AT, zt, by rw [own_fuE, ← ho12, ← ho13, ← ho22, ← ho23, if_neg hJ143, if_neg q1, if_neg hJ201, if_neg q2]; exact g0, by rw [own_fuE, ← ho12, ← ho13, ← ho22, ← ho23, if_neg hJ143, if_neg q1, if_neg hJ201, if_neg q2]; exact g1⟩
        · have q2 := iNe.2 q
          clear q
          show Go p e below _ _ (mkF m 208 _ [])
          refine Go.on (g' := (mkF m 209 _ [(.int (2 : Int32))])) (fun t_ k_ => XS.iconst X14.here hx rfl (hb hby d8_208) k_) ?_
          obtain ⟨T16, h16, cA16, X16, e16, E16, A16, st16⟩ := newP X14 hx hZ (hw _ (List.mem_of_getElem? (i := 0) rfl)) e14 (g := (mkF m 209 #[.val (.int u0), .val (.int u1), .val (.int u2), .val (.int u3), .val (.int u4), .val (.int u5), .val (.int (own_pos u0)), .val (.int (own_pos u1)), .val (.int (own_pos u2)), .val (.int (own_pos u3)), .val (.int (own_pos u4)), .val (.int (own_pos u5)), .val (.int (own_pos u0)), .val (.int o12), .val (.int o13), .val (.int o22), .val (.int o23)] [(.int (2 : Int32))])) rfl (hb hby d8_209) (n := (2 : Int32)) rfl (by decide) (cap := 2) (by decide) (by decide) (by decide) (by decide)
          obtain ⟨o16, go16⟩ : ∃ z, z = (h0).size := ⟨_, rfl⟩
          rw [← go16] at A16 st16
          have no16 : n0 ≤ o16 := Nat.le_trans Z0 (Nat.le_of_eq go16.symm)
          have Z16 : n0 ≤ h16.size := Nat.le_trans Z0 E16.1
          have EX_16 := extTrans EX0 E16
          have mo16 : h0.size ≤ o16 := Nat.le_trans EX0.1 (Nat.le_of_eq go16.symm)
          refine Go.on (g' := (mkF m 211 _ [(.ref o16)])) (st16) ?_
          refine Go.on (g' := (mkF m 212 _ [(.ref o16), (.ref o16)])) (fun t_ k_ => XS.dup X16.here hx rfl (hb hby d8_211) rfl rfl k_) ?_
          refine Go.on (g' := (mkF m 213 _ [(.int (0 : Int32)), (.ref o16), (.ref o16)])) (fun t_ k_ => XS.iconst X16.here hx rfl (hb hby d8_212) k_) ?_
          refine Go.on (g' := (mkF m 214 _ [(.int (2 : Int32)), (.int (0 : Int32)), (.ref o16), (.ref o16)])) (fun t_ k_ => XS.iconst X16.here hx rfl (hb hby d8_213) k_) ?_
          refine Go.on (g' := (mkF m 215 _ [(.int u0), (.int (2 : Int32)), (.int (0 : Int32)), (.ref o16), (.ref o16)])) (fun t_ k_ => XS.iloadN X16.here hx rfl (hb hby d8_214) rfl k_) ?_
          refine Go.on (g' := (mkF m 216 _ [(.int u1), (.int u0), (.int (2 : Int32)), (.int (0 : Int32)), (.ref o16), (.ref o16)])) (fun t_ k_ => XS.iloadN X16.here hx rfl (hb hby d8_215) rfl k_) ?_
          refine Go.on (g' := (mkF m 217 _ [(.int u2), (.int u1), (.int u0), (.int (2 : Int32)), (.int (0 : Int32)), (.ref o16), (.ref o16)])) (fun t_ k_ => XS.iloadN X16.here hx rfl (hb hby d8_216) rfl k_) ?_
          refine Go.callS X16 hx hZ hby (by rw [hml]; rfl) (y := (⟨"com/example/same_shape/sameshape/service/OrderedPairingPairPinLaw", "lastBest", "(IIII)I"⟩ : MethodName)) hown (hw _ (List.mem_of_getElem? (i := 12) rfl)) (hw _ (List.mem_of_getElem? (i := 13) rfl)) (hw _ (List.mem_of_getElem? (i := 3) rfl)) (hw _ (List.mem_of_getElem? (i := 14) rfl)) (by decide) (argsL := [(.int (2 : Int32)), (.int u0), (.int u1), (.int u2)]) (rest := [(.int (0 : Int32)), (.ref o16), (.ref o16)]) (rmLb2 l Z w0 hw [] u0 u1 u2 h16) e16 3 (by decide) (by decide) (by decide) (by decide) rfl pdLb rfl (Nat.le_of_eq rfl) d8_217 (pcF := 220) rfl ?_
          intro v17 T17 L17 X17 hQ17
          obtain ⟨rfl, rfl, e17⟩ := hQ17
          rw [List.append_nil] at X17
          show Go p e below _ _ (mkF m 220 _ [(.int (own_lb 2 u0 u1 u2)), (.int (0 : Int32)), (.ref o16), (.ref o16)])
          obtain ⟨T18, h18, X18, e18, W18, st18⟩ := stI X17 hx hZ e17 A16 (j := (0 : Int32)) (by simp only [sz_set, sz_new]; decide) (g := (mkF m 220 #[.val (.int u0), .val (.int u1), .val (.int u2), .val (.int u3), .val (.int u4), .val (.int u5), .val (.int (own_pos u0)), .val (.int (own_pos u1)), .val (.int (own_pos u2)), .val (.int (own_pos u3)), .val (.int (own_pos u4)), .val (.int (own_pos u5)), .val (.int (own_pos u0)), .val (.int o12), .val (.int o13), .val (.int o22), .val (.int o23)] [(.int (own_lb 2 u0 u1 u2)), (.int (0 : Int32)), (.ref o16), (.ref o16)])) rfl rfl (hb hby d8_220)
          have N18 := Fr.snoc X18 N0 no16
          have Z18 : n0 ≤ h18.size := by rw [W18.size]; exact Z16
          have EX_18 := extWr EX_16 W18 mo16
          have A18 := A16.same W18
          refine Go.on (g' := (mkF m 221 _ [(.ref o16)])) (st18) ?_
          refine Go.on (g' := (mkF m 222 _ [(.ref o16), (.ref o16)])) (fun t_ k_ => XS.dup X18.here hx rfl (hb hby d8_221) rfl rfl k_) ?_
          refine Go.on (g' := (mkF m 223 _ [(.int (1 : Int32)), (.ref o16), (.ref o16)])) (fun t_ k_ => XS.iconst X18.here hx rfl (hb hby d8_222) k_) ?_
          refine Go.on (g' := (mkF m 224 _ [(.int ((-1) : Int32)), (.int (1 : Int32)), (.ref o16), (.ref o16)])) (fun t_ k_ => XS.iconst X18.here hx rfl (hb hby d8_223) k_) ?_
          obtain ⟨T19, h19, X19, e19, W19, st19⟩ := stI X18 hx hZ e18 A18 (j := (1 : Int32)) (by simp only [sz_set, sz_new]; decide) (g := (mkF m 224 #[.val (.int u0), .val (.int u1), .val (.int u2), .val (.int u3), .val (.int u4), .val (.int u5), .val (.int (own_pos u0)), .val (.int (own_pos u1)), .val (.int (own_pos u2)), .val (.int (own_pos u3)), .val (.int (own_pos u4)), .val (.int (own_pos u5)), .val (.int (own_pos u0)), .val (.int o12), .val (.int o13), .val (.int o22), .val (.int o23)] [(.int ((-1) : Int32)), (.int (1 : Int32)), (.ref o16), (.ref o16)])) rfl rfl (hb hby d8_224)
          have N19 := Fr.snoc X19 N18 no16
          have Z19 : n0 ≤ h19.size := by rw [W19.size]; exact Z18
          have EX_19 := extWr EX_18 W19 mo16
          have A19 := A18.same W19
          refine Go.on (g' := (mkF m 225 _ [(.ref o16)])) (st19) ?_
          exact Go.retA X19 hx hlk hret hby d8_225 rfl rfl (by decide) (by decide) (by rw [e19]; exact ⟨_, _, rfl, N19, EX_19, mo16, A19, by simp only [sz_set, sz_new]; decide, by rw [own_fuE, ← ho12, ← ho13, ← ho22, ← ho23, if_neg hJ143, if_neg q1, if_neg hJ201, if_pos q2]; rfl, by rw [own_fuE, ← ho12, ← ho13, ← ho22, ← ho23, if_neg hJ143, if_neg q1, if_neg hJ201, if_pos q2]; rfl⟩)
      · show Go p e below _ _ (mkF m 170 _ [(.int u4)])
        refine Go.ifc X14 hx hby d8_170 (pcT := 201) (pcF := 173) (by decide) (by decide) rfl (fun q => ?_) (fun q => ?_)
        · have q3 := iLe.1 q
          clear q
          show Go p e below _ _ (mkF m 201 _ [])
          exact J201 () (fun z => q3 z.1)
        · have q3 := iLe.2 q
          clear q
          show Go p e below _ _ (mkF m 173 _ [])
          refine Go.on (g' := (mkF m 175 _ [(.int o22)])) (fun t_ k_ => XS.iload X14.here hx rfl (hb hby d8_173) rfl k_) ?_
          refine Go.on (g' := (mkF m 177 _ [(.int (own_pos u0)), (.int o22)])) (fun t_ k_ => XS.iload X14.here hx rfl (hb hby d8_175) rfl k_) ?_
          refine Go.on (g' := (mkF m 179 _ [(.int u4), (.int (own_pos u0)), (.int o22)])) (fun t_ k_ => XS.iload X14.here hx rfl (hb hby d8_177) rfl k_) ?_
          refine Go.on (g' := (mkF m 180 _ [(.int ((own_pos u0) + u4)), (.int o22)])) (fun t_ k_ => XS.iadd X14.here hx rfl (hb hby d8_179) rfl k_) ?_
          refine Go.icmp X14 hx hby d8_180 (pcT := 201) (pcF := 183) (by decide) (by decide) rfl (fun q => ?_) (fun q => ?_)
          · have q4 := iNe.1 q
            clear q
            show Go p e below _ _ (mkF m 201 _ [])
            exact J201 () (fun z => q4 z.2)
          · have q4 := iNe.2 q
            clear q
            show Go p e below _ _ (mkF m 183 _ [])
            refine Go.on (g' := (mkF m 184 _ [(.int (2 : Int32))])) (fun t_ k_ => XS.iconst X14.here hx rfl (hb hby d8_183) k_) ?_
            obtain ⟨T20, h20, cA20, X20, e20, E20, A20, st20⟩ := newP X14 hx hZ (hw _ (List.mem_of_getElem? (i := 0) rfl)) e14 (g := (mkF m 184 #[.val (.int u0), .val (.int u1), .val (.int u2), .val (.int u3), .val (.int u4), .val (.int u5), .val (.int (own_pos u0)), .val (.int (own_pos u1)), .val (.int (own_pos u2)), .val (.int (own_pos u3)), .val (.int (own_pos u4)), .val (.int (own_pos u5)), .val (.int (own_pos u0)), .val (.int o12), .val (.int o13), .val (.int o22), .val (.int o23)] [(.int (2 : Int32))])) rfl (hb hby d8_184) (n := (2 : Int32)) rfl (by decide) (cap := 2) (by decide) (by decide) (by decide) (by decide)
            obtain ⟨o20, go20⟩ : ∃ z, z = (h0).size := ⟨_, rfl⟩
            rw [← go20] at A20 st20
            have no20 : n0 ≤ o20 := Nat.le_trans Z0 (Nat.le_of_eq go20.symm)
            have Z20 : n0 ≤ h20.size := Nat.le_trans Z0 E20.1
            have EX_20 := extTrans EX0 E20
            have mo20 : h0.size ≤ o20 := Nat.le_trans EX0.1 (Nat.le_of_eq go20.symm)
            refine Go.on (g' := (mkF m 186 _ [(.ref o20)])) (st20) ?_
            refine Go.on (g' := (mkF m 187 _ [(.ref o20), (.ref o20)])) (fun t_ k_ => XS.dup X20.here hx rfl (hb hby d8_186) rfl rfl k_) ?_
            refine Go.on (g' := (mkF m 188 _ [(.int (0 : Int32)), (.ref o20), (.ref o20)])) (fun t_ k_ => XS.iconst X20.here hx rfl (hb hby d8_187) k_) ?_
            refine Go.on (g' := (mkF m 189 _ [(.int (1 : Int32)), (.int (0 : Int32)), (.ref o20), (.ref o20)])) (fun t_ k_ => XS.iconst X20.here hx rfl (hb hby d8_188) k_) ?_
            refine Go.on (g' := (mkF m 190 _ [(.int u0), (.int (1 : Int32)), (.int (0 : Int32)), (.ref o20), (.ref o20)])) (fun t_ k_ => XS.iloadN X20.here hx rfl (hb hby d8_189) rfl k_) ?_
            refine Go.on (g' := (mkF m 191 _ [(.int u1), (.int u0), (.int (1 : Int32)), (.int (0 : Int32)), (.ref o20), (.ref o20)])) (fun t_ k_ => XS.iloadN X20.here hx rfl (hb hby d8_190) rfl k_) ?_
            refine Go.on (g' := (mkF m 192 _ [(.int u2), (.int u1), (.int u0), (.int (1 : Int32)), (.int (0 : Int32)), (.ref o20), (.ref o20)])) (fun t_ k_ => XS.iloadN X20.here hx rfl (hb hby d8_191) rfl k_) ?_
            refine Go.callS X20 hx hZ hby (by rw [hml]; rfl) (y := (⟨"com/example/same_shape/sameshape/service/OrderedPairingPairPinLaw", "lastBest", "(IIII)I"⟩ : MethodName)) hown (hw _ (List.mem_of_getElem? (i := 12) rfl)) (hw _ (List.mem_of_getElem? (i := 13) rfl)) (hw _ (List.mem_of_getElem? (i := 3) rfl)) (hw _ (List.mem_of_getElem? (i := 14) rfl)) (by decide) (argsL := [(.int (1 : Int32)), (.int u0), (.int u1), (.int u2)]) (rest := [(.int (0 : Int32)), (.ref o20), (.ref o20)]) (rmLb1 l Z w0 hw [] u0 u1 u2 h20) e20 3 (by decide) (by decide) (by decide) (by decide) rfl pdLb rfl (Nat.le_of_eq rfl) d8_192 (pcF := 195) rfl ?_
            intro v21 T21 L21 X21 hQ21
            obtain ⟨rfl, rfl, e21⟩ := hQ21
            rw [List.append_nil] at X21
            show Go p e below _ _ (mkF m 195 _ [(.int (own_lb 1 u0 u1 u2)), (.int (0 : Int32)), (.ref o20), (.ref o20)])
            obtain ⟨T22, h22, X22, e22, W22, st22⟩ := stI X21 hx hZ e21 A20 (j := (0 : Int32)) (by simp only [sz_set, sz_new]; decide) (g := (mkF m 195 #[.val (.int u0), .val (.int u1), .val (.int u2), .val (.int u3), .val (.int u4), .val (.int u5), .val (.int (own_pos u0)), .val (.int (own_pos u1)), .val (.int (own_pos u2)), .val (.int (own_pos u3)), .val (.int (own_pos u4)), .val (.int (own_pos u5)), .val (.int (own_pos u0)), .val (.int o12), .val (.int o13), .val (.int o22), .val (.int o23)] [(.int (own_lb 1 u0 u1 u2)), (.int (0 : Int32)), (.ref o20), (.ref o20)])) rfl rfl (hb hby d8_195)
            have N22 := Fr.snoc X22 N0 no20
            have Z22 : n0 ≤ h22.size := by rw [W22.size]; exact Z20
            have EX_22 := extWr EX_20 W22 mo20
            have A22 := A20.same W22
            refine Go.on (g' := (mkF m 196 _ [(.ref o20)])) (st22) ?_
            refine Go.on (g' := (mkF m 197 _ [(.ref o20), (.ref o20)])) (fun t_ k_ => XS.dup X22.here hx rfl (hb hby d8_196) rfl rfl k_) ?_
            refine Go.on (g' := (mkF m 198 _ [(.int (1 : Int32)), (.ref o20), (.ref o20)])) (fun t_ k_ => XS.iconst X22.here hx rfl (hb hby d8_197) k_) ?_
            refine Go.on (g' := (mkF m 199 _ [(.int (1 : Int32)), (.int (1 : Int32)), (.ref o20), (.ref o20)])) (fun t_ k_ => XS.iconst X22.here hx rfl (hb hby d8_198) k_) ?_
            obtain ⟨T23, h23, X23, e23, W23, st23⟩ := stI X22 hx hZ e22 A22 (j := (1 : Int32)) (by simp only [sz_set, sz_new]; decide) (g := (mkF m 199 #[.val (.int u0), .val (.int u1), .val (.int u2), .val (.int u3), .val (.int u4), .val (.int u5), .val (.int (own_pos u0)), .val (.int (own_pos u1)), .val (.int (own_pos u2)), .val (.int (own_pos u3)), .val (.int (own_pos u4)), .val (.int (own_pos u5)), .val (.int (own_pos u0)), .val (.int o12), .val (.int o13), .val (.int o22), .val (.int o23)] [(.int (1 : Int32)), (.int (1 : Int32)), (.ref o20), (.ref o20)])) rfl rfl (hb hby d8_199)
            have N23 := Fr.snoc X23 N22 no20
            have Z23 : n0 ≤ h23.size := by rw [W23.size]; exact Z22
            have EX_23 := extWr EX_22 W23 mo20
            have A23 := A22.same W23
            refine Go.on (g' := (mkF m 200 _ [(.ref o20)])) (st23) ?_
            exact Go.retA X23 hx hlk hret hby d8_200 rfl rfl (by decide) (by decide) (by rw [e23]; exact ⟨_, _, rfl, N23, EX_23, mo20, A23, by simp only [sz_set, sz_new]; decide, by rw [own_fuE, ← ho12, ← ho13, ← ho22, ← ho23, if_neg hJ143, if_neg q1, if_pos ⟨q3, q4⟩]; rfl, by rw [own_fuE, ← ho12, ← ho13, ← ho22, ← ho23, if_neg hJ143, if_neg q1, if_pos ⟨q3, q4⟩]; rfl⟩)
    · have q1 := iNe.2 q
      clear q
      show Go p e below _ _ (mkF m 150 _ [])
      refine Go.on (g' := (mkF m 151 _ [(.int (2 : Int32))])) (fun t_ k_ => XS.iconst X14.here hx rfl (hb hby d8_150) k_) ?_
      obtain ⟨T24, h24, cA24, X24, e24, E24, A24, st24⟩ := newP X14 hx hZ (hw _ (List.mem_of_getElem? (i := 0) rfl)) e14 (g := (mkF m 151 #[.val (.int u0), .val (.int u1), .val (.int u2), .val (.int u3), .val (.int u4), .val (.int u5), .val (.int (own_pos u0)), .val (.int (own_pos u1)), .val (.int (own_pos u2)), .val (.int (own_pos u3)), .val (.int (own_pos u4)), .val (.int (own_pos u5)), .val (.int (own_pos u0)), .val (.int o12), .val (.int o13), .val (.int o22), .val (.int o23)] [(.int (2 : Int32))])) rfl (hb hby d8_151) (n := (2 : Int32)) rfl (by decide) (cap := 2) (by decide) (by decide) (by decide) (by decide)
      obtain ⟨o24, go24⟩ : ∃ z, z = (h0).size := ⟨_, rfl⟩
      rw [← go24] at A24 st24
      have no24 : n0 ≤ o24 := Nat.le_trans Z0 (Nat.le_of_eq go24.symm)
      have Z24 : n0 ≤ h24.size := Nat.le_trans Z0 E24.1
      have EX_24 := extTrans EX0 E24
      have mo24 : h0.size ≤ o24 := Nat.le_trans EX0.1 (Nat.le_of_eq go24.symm)
      refine Go.on (g' := (mkF m 153 _ [(.ref o24)])) (st24) ?_
      refine Go.on (g' := (mkF m 154 _ [(.ref o24), (.ref o24)])) (fun t_ k_ => XS.dup X24.here hx rfl (hb hby d8_153) rfl rfl k_) ?_
      refine Go.on (g' := (mkF m 155 _ [(.int (0 : Int32)), (.ref o24), (.ref o24)])) (fun t_ k_ => XS.iconst X24.here hx rfl (hb hby d8_154) k_) ?_
      refine Go.on (g' := (mkF m 156 _ [(.int (3 : Int32)), (.int (0 : Int32)), (.ref o24), (.ref o24)])) (fun t_ k_ => XS.iconst X24.here hx rfl (hb hby d8_155) k_) ?_
      refine Go.on (g' := (mkF m 157 _ [(.int u0), (.int (3 : Int32)), (.int (0 : Int32)), (.ref o24), (.ref o24)])) (fun t_ k_ => XS.iloadN X24.here hx rfl (hb hby d8_156) rfl k_) ?_
      refine Go.on (g' := (mkF m 158 _ [(.int u1), (.int u0), (.int (3 : Int32)), (.int (0 : Int32)), (.ref o24), (.ref o24)])) (fun t_ k_ => XS.iloadN X24.here hx rfl (hb hby d8_157) rfl k_) ?_
      refine Go.on (g' := (mkF m 159 _ [(.int u2), (.int u1), (.int u0), (.int (3 : Int32)), (.int (0 : Int32)), (.ref o24), (.ref o24)])) (fun t_ k_ => XS.iloadN X24.here hx rfl (hb hby d8_158) rfl k_) ?_
      refine Go.callS X24 hx hZ hby (by rw [hml]; rfl) (y := (⟨"com/example/same_shape/sameshape/service/OrderedPairingPairPinLaw", "lastBest", "(IIII)I"⟩ : MethodName)) hown (hw _ (List.mem_of_getElem? (i := 12) rfl)) (hw _ (List.mem_of_getElem? (i := 13) rfl)) (hw _ (List.mem_of_getElem? (i := 3) rfl)) (hw _ (List.mem_of_getElem? (i := 14) rfl)) (by decide) (argsL := [(.int (3 : Int32)), (.int u0), (.int u1), (.int u2)]) (rest := [(.int (0 : Int32)), (.ref o24), (.ref o24)]) (rmLb3 l Z w0 hw [] u0 u1 u2 h24) e24 3 (by decide) (by decide) (by decide) (by decide) rfl pdLb rfl (Nat.le_of_eq rfl) d8_159 (pcF := 162) rfl ?_
      intro v25 T25 L25 X25 hQ25
      obtain ⟨rfl, rfl, e25⟩ := hQ25
      rw [List.append_nil] at X25
      show Go p e below _ _ (mkF m 162 _ [(.int (own_lb 3 u0 u1 u2)), (.int (0 : Int32)), (.ref o24), (.ref o24)])
      obtain ⟨T26, h26, X26, e26, W26, st26⟩ := stI X25 hx hZ e25 A24 (j := (0 : Int32)) (by simp only [sz_set, sz_new]; decide) (g := (mkF m 162 #[.val (.int u0), .val (.int u1), .val (.int u2), .val (.int u3), .val (.int u4), .val (.int u5), .val (.int (own_pos u0)), .val (.int (own_pos u1)), .val (.int (own_pos u2)), .val (.int (own_pos u3)), .val (.int (own_pos u4)), .val (.int (own_pos u5)), .val (.int (own_pos u0)), .val (.int o12), .val (.int o13), .val (.int o22), .val (.int o23)] [(.int (own_lb 3 u0 u1 u2)), (.int (0 : Int32)), (.ref o24), (.ref o24)])) rfl rfl (hb hby d8_162)
      have N26 := Fr.snoc X26 N0 no24
      have Z26 : n0 ≤ h26.size := by rw [W26.size]; exact Z24
      have EX_26 := extWr EX_24 W26 mo24
      have A26 := A24.same W26
      refine Go.on (g' := (mkF m 163 _ [(.ref o24)])) (st26) ?_
      refine Go.on (g' := (mkF m 164 _ [(.ref o24), (.ref o24)])) (fun t_ k_ => XS.dup X26.here hx rfl (hb hby d8_163) rfl rfl k_) ?_
      refine Go.on (g' := (mkF m 165 _ [(.int (1 : Int32)), (.ref o24), (.ref o24)])) (fun t_ k_ => XS.iconst X26.here hx rfl (hb hby d8_164) k_) ?_
      refine Go.on (g' := (mkF m 166 _ [(.int ((-1) : Int32)), (.int (1 : Int32)), (.ref o24), (.ref o24)])) (fun t_ k_ => XS.iconst X26.here hx rfl (hb hby d8_165) k_) ?_
      obtain ⟨T27, h27, X27, e27, W27, st27⟩ := stI X26 hx hZ e26 A26 (j := (1 : Int32)) (by simp only [sz_set, sz_new]; decide) (g := (mkF m 166 #[.val (.int u0), .val (.int u1), .val (.int u2), .val (.int u3), .val (.int u4), .val (.int u5), .val (.int (own_pos u0)), .val (.int (own_pos u1)), .val (.int (own_pos u2)), .val (.int (own_pos u3)), .val (.int (own_pos u4)), .val (.int (own_pos u5)), .val (.int (own_pos u0)), .val (.int o12), .val (.int o13), .val (.int o22), .val (.int o23)] [(.int ((-1) : Int32)), (.int (1 : Int32)), (.ref o24), (.ref o24)])) rfl rfl (hb hby d8_166)
      have N27 := Fr.snoc X27 N26 no24
      have Z27 : n0 ≤ h27.size := by rw [W27.size]; exact Z26
      have EX_27 := extWr EX_26 W27 mo24
      have A27 := A26.same W27
      refine Go.on (g' := (mkF m 167 _ [(.ref o24)])) (st27) ?_
      exact Go.retA X27 hx hlk hret hby d8_167 rfl rfl (by decide) (by decide) (by rw [e27]; exact ⟨_, _, rfl, N27, EX_27, mo24, A27, by simp only [sz_set, sz_new]; decide, by rw [own_fuE, ← ho12, ← ho13, ← ho22, ← ho23, if_neg hJ143, if_pos q1]; rfl, by rw [own_fuE, ← ho12, ← ho13, ← ho22, ← ho23, if_neg hJ143, if_pos q1]; rfl⟩)
  · show Go p e below _ _ (mkF m 112 _ [(.int u5)])
    refine Go.ifc X14 hx hby d8_112 (pcT := 143) (pcF := 115) (by decide) (by decide) rfl (fun q => ?_) (fun q => ?_)
    · have q5 := iLe.1 q
      clear q
      show Go p e below _ _ (mkF m 143 _ [])
      exact J143 () (fun z => q5 z.1)
    · have q5 := iLe.2 q
      clear q
      show Go p e below _ _ (mkF m 115 _ [])
      refine Go.on (g' := (mkF m 117 _ [(.int o23)])) (fun t_ k_ => XS.iload X14.here hx rfl (hb hby d8_115) rfl k_) ?_
      refine Go.on (g' := (mkF m 119 _ [(.int o12), (.int o23)])) (fun t_ k_ => XS.iload X14.here hx rfl (hb hby d8_117) rfl k_) ?_
      refine Go.on (g' := (mkF m 121 _ [(.int u5), (.int o12), (.int o23)])) (fun t_ k_ => XS.iload X14.here hx rfl (hb hby d8_119) rfl k_) ?_
      refine Go.on (g' := (mkF m 122 _ [(.int (o12 + u5)), (.int o23)])) (fun t_ k_ => XS.iadd X14.here hx rfl (hb hby d8_121) rfl k_) ?_
      refine Go.icmp X14 hx hby d8_122 (pcT := 143) (pcF := 125) (by decide) (by decide) rfl (fun q => ?_) (fun q => ?_)
      · have q6 := iNe.1 q
        clear q
        show Go p e below _ _ (mkF m 143 _ [])
        exact J143 () (fun z => q6 z.2)
      · have q6 := iNe.2 q
        clear q
        show Go p e below _ _ (mkF m 125 _ [])
        refine Go.on (g' := (mkF m 126 _ [(.int (2 : Int32))])) (fun t_ k_ => XS.iconst X14.here hx rfl (hb hby d8_125) k_) ?_
        obtain ⟨T28, h28, cA28, X28, e28, E28, A28, st28⟩ := newP X14 hx hZ (hw _ (List.mem_of_getElem? (i := 0) rfl)) e14 (g := (mkF m 126 #[.val (.int u0), .val (.int u1), .val (.int u2), .val (.int u3), .val (.int u4), .val (.int u5), .val (.int (own_pos u0)), .val (.int (own_pos u1)), .val (.int (own_pos u2)), .val (.int (own_pos u3)), .val (.int (own_pos u4)), .val (.int (own_pos u5)), .val (.int (own_pos u0)), .val (.int o12), .val (.int o13), .val (.int o22), .val (.int o23)] [(.int (2 : Int32))])) rfl (hb hby d8_126) (n := (2 : Int32)) rfl (by decide) (cap := 2) (by decide) (by decide) (by decide) (by decide)
        obtain ⟨o28, go28⟩ : ∃ z, z = (h0).size := ⟨_, rfl⟩
        rw [← go28] at A28 st28
        have no28 : n0 ≤ o28 := Nat.le_trans Z0 (Nat.le_of_eq go28.symm)
        have Z28 : n0 ≤ h28.size := Nat.le_trans Z0 E28.1
        have EX_28 := extTrans EX0 E28
        have mo28 : h0.size ≤ o28 := Nat.le_trans EX0.1 (Nat.le_of_eq go28.symm)
        refine Go.on (g' := (mkF m 128 _ [(.ref o28)])) (st28) ?_
        refine Go.on (g' := (mkF m 129 _ [(.ref o28), (.ref o28)])) (fun t_ k_ => XS.dup X28.here hx rfl (hb hby d8_128) rfl rfl k_) ?_
        refine Go.on (g' := (mkF m 130 _ [(.int (0 : Int32)), (.ref o28), (.ref o28)])) (fun t_ k_ => XS.iconst X28.here hx rfl (hb hby d8_129) k_) ?_
        refine Go.on (g' := (mkF m 131 _ [(.int (2 : Int32)), (.int (0 : Int32)), (.ref o28), (.ref o28)])) (fun t_ k_ => XS.iconst X28.here hx rfl (hb hby d8_130) k_) ?_
        refine Go.on (g' := (mkF m 132 _ [(.int u0), (.int (2 : Int32)), (.int (0 : Int32)), (.ref o28), (.ref o28)])) (fun t_ k_ => XS.iloadN X28.here hx rfl (hb hby d8_131) rfl k_) ?_
        refine Go.on (g' := (mkF m 133 _ [(.int u1), (.int u0), (.int (2 : Int32)), (.int (0 : Int32)), (.ref o28), (.ref o28)])) (fun t_ k_ => XS.iloadN X28.here hx rfl (hb hby d8_132) rfl k_) ?_
        refine Go.on (g' := (mkF m 134 _ [(.int u2), (.int u1), (.int u0), (.int (2 : Int32)), (.int (0 : Int32)), (.ref o28), (.ref o28)])) (fun t_ k_ => XS.iloadN X28.here hx rfl (hb hby d8_133) rfl k_) ?_
        refine Go.callS X28 hx hZ hby (by rw [hml]; rfl) (y := (⟨"com/example/same_shape/sameshape/service/OrderedPairingPairPinLaw", "lastBest", "(IIII)I"⟩ : MethodName)) hown (hw _ (List.mem_of_getElem? (i := 12) rfl)) (hw _ (List.mem_of_getElem? (i := 13) rfl)) (hw _ (List.mem_of_getElem? (i := 3) rfl)) (hw _ (List.mem_of_getElem? (i := 14) rfl)) (by decide) (argsL := [(.int (2 : Int32)), (.int u0), (.int u1), (.int u2)]) (rest := [(.int (0 : Int32)), (.ref o28), (.ref o28)]) (rmLb2 l Z w0 hw [] u0 u1 u2 h28) e28 3 (by decide) (by decide) (by decide) (by decide) rfl pdLb rfl (Nat.le_of_eq rfl) d8_134 (pcF := 137) rfl ?_
        intro v29 T29 L29 X29 hQ29
        obtain ⟨rfl, rfl, e29⟩ := hQ29
        rw [List.append_nil] at X29
        show Go p e below _ _ (mkF m 137 _ [(.int (own_lb 2 u0 u1 u2)), (.int (0 : Int32)), (.ref o28), (.ref o28)])
        obtain ⟨T30, h30, X30, e30, W30, st30⟩ := stI X29 hx hZ e29 A28 (j := (0 : Int32)) (by simp only [sz_set, sz_new]; decide) (g := (mkF m 137 #[.val (.int u0), .val (.int u1), .val (.int u2), .val (.int u3), .val (.int u4), .val (.int u5), .val (.int (own_pos u0)), .val (.int (own_pos u1)), .val (.int (own_pos u2)), .val (.int (own_pos u3)), .val (.int (own_pos u4)), .val (.int (own_pos u5)), .val (.int (own_pos u0)), .val (.int o12), .val (.int o13), .val (.int o22), .val (.int o23)] [(.int (own_lb 2 u0 u1 u2)), (.int (0 : Int32)), (.ref o28), (.ref o28)])) rfl rfl (hb hby d8_137)
        have N30 := Fr.snoc X30 N0 no28
        have Z30 : n0 ≤ h30.size := by rw [W30.size]; exact Z28
        have EX_30 := extWr EX_28 W30 mo28
        have A30 := A28.same W30
        refine Go.on (g' := (mkF m 138 _ [(.ref o28)])) (st30) ?_
        refine Go.on (g' := (mkF m 139 _ [(.ref o28), (.ref o28)])) (fun t_ k_ => XS.dup X30.here hx rfl (hb hby d8_138) rfl rfl k_) ?_
        refine Go.on (g' := (mkF m 140 _ [(.int (1 : Int32)), (.ref o28), (.ref o28)])) (fun t_ k_ => XS.iconst X30.here hx rfl (hb hby d8_139) k_) ?_
        refine Go.on (g' := (mkF m 141 _ [(.int (2 : Int32)), (.int (1 : Int32)), (.ref o28), (.ref o28)])) (fun t_ k_ => XS.iconst X30.here hx rfl (hb hby d8_140) k_) ?_
        obtain ⟨T31, h31, X31, e31, W31, st31⟩ := stI X30 hx hZ e30 A30 (j := (1 : Int32)) (by simp only [sz_set, sz_new]; decide) (g := (mkF m 141 #[.val (.int u0), .val (.int u1), .val (.int u2), .val (.int u3), .val (.int u4), .val (.int u5), .val (.int (own_pos u0)), .val (.int (own_pos u1)), .val (.int (own_pos u2)), .val (.int (own_pos u3)), .val (.int (own_pos u4)), .val (.int (own_pos u5)), .val (.int (own_pos u0)), .val (.int o12), .val (.int o13), .val (.int o22), .val (.int o23)] [(.int (2 : Int32)), (.int (1 : Int32)), (.ref o28), (.ref o28)])) rfl rfl (hb hby d8_141)
        have N31 := Fr.snoc X31 N30 no28
        have Z31 : n0 ≤ h31.size := by rw [W31.size]; exact Z30
        have EX_31 := extWr EX_30 W31 mo28
        have A31 := A30.same W31
        refine Go.on (g' := (mkF m 142 _ [(.ref o28)])) (st31) ?_
        exact Go.retA X31 hx hlk hret hby d8_142 rfl rfl (by decide) (by decide) (by rw [e31]; exact ⟨_, _, rfl, N31, EX_31, mo28, A31, by simp only [sz_set, sz_new]; decide, by rw [own_fuE, ← ho12, ← ho13, ← ho22, ← ho23, if_pos ⟨q5, q6⟩]; rfl, by rw [own_fuE, ← ho12, ← ho13, ← ho22, ← ho23, if_pos ⟨q5, q6⟩]; rfl⟩)
theorem d6_0 : decode jdk_65_method_103_code 0 = .ok (.iconst 0, 1) := by decide +kernel
theorem d6_1 : decode jdk_65_method_103_code 1 = .ok (.istore_n 2, 1) := by decide +kernel
theorem d6_2 : decode jdk_65_method_103_code 2 = .ok (.aload_n 0, 1) := by decide +kernel
theorem d6_3 : decode jdk_65_method_103_code 3 = .ok (.arraylength, 1) := by decide +kernel
theorem d6_4 : decode jdk_65_method_103_code 4 = .ok (.istore_n 3, 1) := by decide +kernel
theorem d6_5 : decode jdk_65_method_103_code 5 = .ok (.iload_n 2, 1) := by decide +kernel
theorem d6_6 : decode jdk_65_method_103_code 6 = .ok (.iload_n 3, 1) := by decide +kernel
theorem d6_7 : decode jdk_65_method_103_code 7 = .ok (.if_icmp .ge 13, 3) := by decide +kernel
theorem d6_10 : decode jdk_65_method_103_code 10 = .ok (.aload_n 0, 1) := by decide +kernel
theorem d6_11 : decode jdk_65_method_103_code 11 = .ok (.iload_n 2, 1) := by decide +kernel
theorem d6_12 : decode jdk_65_method_103_code 12 = .ok (.iload_n 1, 1) := by decide +kernel
theorem d6_13 : decode jdk_65_method_103_code 13 = .ok (.iastore, 1) := by decide +kernel
theorem d6_14 : decode jdk_65_method_103_code 14 = .ok (.iinc 2 1, 3) := by decide +kernel
theorem d6_17 : decode jdk_65_method_103_code 17 = .ok (.goto (-12), 3) := by decide +kernel
theorem d6_20 : decode jdk_65_method_103_code 20 = .ok (.return_, 1) := by decide +kernel
set_option maxRecDepth 65536 in
set_option maxHeartbeats 40000000 in
theorem rmFi1 (l : Launch) (Z : State) (w0 : Array Value) (hw : ∀ d ∈ tables_1, d.before w0 Z = true) (ws : List Jvm.Cond) (a : Addr) (x : Int32) (h0 : Heap) (n0 : Nat) (Z0 : n0 ≤ h0.size) (na : n0 ≤ a) (cl : Cell) (A0 : Arr Z h0 a cl .int) (hsz : cl.slots.size = 1) : Pact l Z (⟨"java/util/Arrays", "fill", "([II)V"⟩ : MethodName) jdk_65_method_103_code 4 none ws ({ frames := 0, cells := 0, slots := 0, locals := 0 } : Room) #[.ref a, .int x] h0 (own_QF Z a (cl.setSlot (0 : Int32).toNatClampNeg (.int x)) h0 n0) := by
  refine Pact.intro (plainFor_of_name pnA) ?_
  intro p e s m below meth c T0 X0 hx hby hml hret hlk hown hnm hZ e0
  refine Go.at (efFi m a x) ?_
  have N0 := Fr.nil n0
  have KP0 : Keep h0 h0 [a] := Keep.refl _ _
  have hl : cl.slots.size.toInt32 = (1 : Int32) := by rw [hsz]; rfl
  refine Go.on (g' := (mkF m 1 _ [(.int (0 : Int32))])) (fun t_ k_ => XS.iconst X0.here hx rfl (hb hby d6_0) k_) ?_
  refine Go.on (g' := (mkF m 2 #[.val (.ref a), .val (.int x), .val (.int (0 : Int32)), .unset] [])) (fun t_ k_ => XS.istoreN X0.here hx rfl (hb hby d6_1) rfl (l' := #[.val (.ref a), .val (.int x), .val (.int (0 : Int32)), .unset]) rfl k_) ?_
  refine Go.on (g' := (mkF m 3 _ [(.ref a)])) (fun t_ k_ => XS.aloadN X0.here hx rfl (hb hby d6_2) rfl rfl k_) ?_
  refine Go.on (T' := T0) (g' := (mkF m 4 _ [(.int (1 : Int32))])) (fun t_ k_ => X0.arraylength hx (by rw [e0]; exact A0.1) (State.isArrayOf_alike hZ.alike A0.2.1) (g := (mkF m 3 #[.val (.ref a), .val (.int x), .val (.int (0 : Int32)), .unset] [(.ref a)])) rfl rfl (hb hby d6_3) t_ (by rw [hl]; exact k_)) ?_
  refine Go.on (g' := (mkF m 5 #[.val (.ref a), .val (.int x), .val (.int (0 : Int32)), .val (.int (1 : Int32))] [])) (fun t_ k_ => XS.istoreN X0.here hx rfl (hb hby d6_4) rfl (l' := #[.val (.ref a), .val (.int x), .val (.int (0 : Int32)), .val (.int (1 : Int32))]) rfl k_) ?_
  refine Go.on (g' := (mkF m 6 _ [(.int (0 : Int32))])) (fun t_ k_ => XS.iloadN X0.here hx rfl (hb hby d6_5) rfl k_) ?_
  refine Go.on (g' := (mkF m 7 _ [(.int (1 : Int32)), (.int (0 : Int32))])) (fun t_ k_ => XS.iloadN X0.here hx rfl (hb hby d6_6) rfl k_) ?_
  refine Go.icmp X0 hx hby d6_7 (pcT := 20) (pcF := 10) (by decide) (by decide) rfl (fun q => absurd q (by decide)) (fun q => ?_)
  clear q
  show Go p e below _ _ (mkF m 10 _ [])
  refine Go.on (g' := (mkF m 11 _ [(.ref a)])) (fun t_ k_ => XS.aloadN X0.here hx rfl (hb hby d6_10) rfl rfl k_) ?_
  refine Go.on (g' := (mkF m 12 _ [(.int (0 : Int32)), (.ref a)])) (fun t_ k_ => XS.iloadN X0.here hx rfl (hb hby d6_11) rfl k_) ?_
  refine Go.on (g' := (mkF m 13 _ [(.int x), (.int (0 : Int32)), (.ref a)])) (fun t_ k_ => XS.iloadN X0.here hx rfl (hb hby d6_12) rfl k_) ?_
  obtain ⟨T1, h1, X1, e1, W1, st1⟩ := stI X0 hx hZ e0 A0 (j := (0 : Int32)) (by simp only [sz_set, hsz]; decide) (g := (mkF m 13 #[.val (.ref a), .val (.int x), .val (.int (0 : Int32)), .val (.int (1 : Int32))] [(.int x), (.int (0 : Int32)), (.ref a)])) rfl rfl (hb hby d6_13)
  have N1 := Fr.snoc X1 N0 na
  have Z1 : n0 ≤ h1.size := by rw [W1.size]; exact Z0
  have KP_1 := KP0.wr W1 (Or.inl (List.mem_of_getElem? (i := 0) rfl))
  have A1 := A0.same W1
  refine Go.on (g' := (mkF m 14 _ [])) (st1) ?_
  refine Go.on (g' := (mkF m 17 #[.val (.ref a), .val (.int x), .val (.int ((0 : Int32) + (1 : Int32))), .val (.int (1 : Int32))] [])) (fun t_ k_ => XS.iinc X1.here hx rfl (hb hby d6_14) rfl (l' := #[.val (.ref a), .val (.int x), .val (.int ((0 : Int32) + (1 : Int32))), .val (.int (1 : Int32))]) rfl k_) ?_
  rw [show ((0 : Int32) + (1 : Int32)) = (1 : Int32) from by decide]
  refine Go.on (g' := (mkF m 5 _ [])) (fun t_ k_ => XS.goto X1.here hx rfl (pc0 := 17) (pc' := 5) rfl (hb hby d6_17) (by decide) (by decide) k_) ?_
  refine Go.on (g' := (mkF m 6 _ [(.int (1 : Int32))])) (fun t_ k_ => XS.iloadN X1.here hx rfl (hb hby d6_5) rfl k_) ?_
  refine Go.on (g' := (mkF m 7 _ [(.int (1 : Int32)), (.int (1 : Int32))])) (fun t_ k_ => XS.iloadN X1.here hx rfl (hb hby d6_6) rfl k_) ?_
  refine Go.icmp X1 hx hby d6_7 (pcT := 20) (pcF := 10) (by decide) (by decide) rfl (fun q => ?_) (fun q => absurd q (by decide))
  clear q
  show Go p e below _ _ (mkF m 20 _ [])
  exact Go.ret0 X1 hx hlk hret hby d6_20 (by decide) (by decide) (by rw [e1]; exact ⟨rfl, N1, KP_1, A1⟩)
set_option maxRecDepth 65536 in
set_option maxHeartbeats 40000000 in
theorem rmFi2 (l : Launch) (Z : State) (w0 : Array Value) (hw : ∀ d ∈ tables_1, d.before w0 Z = true) (ws : List Jvm.Cond) (a : Addr) (x : Int32) (h0 : Heap) (n0 : Nat) (Z0 : n0 ≤ h0.size) (na : n0 ≤ a) (cl : Cell) (A0 : Arr Z h0 a cl .int) (hsz : cl.slots.size = 2) : Pact l Z (⟨"java/util/Arrays", "fill", "([II)V"⟩ : MethodName) jdk_65_method_103_code 4 none ws ({ frames := 0, cells := 0, slots := 0, locals := 0 } : Room) #[.ref a, .int x] h0 (own_QF Z a ((cl.setSlot (0 : Int32).toNatClampNeg (.int x)).setSlot (1 : Int32).toNatClampNeg (.int x)) h0 n0) := by
  refine Pact.intro (plainFor_of_name pnA) ?_
  intro p e s m below meth c T0 X0 hx hby hml hret hlk hown hnm hZ e0
  refine Go.at (efFi m a x) ?_
  have N0 := Fr.nil n0
  have KP0 : Keep h0 h0 [a] := Keep.refl _ _
  have hl : cl.slots.size.toInt32 = (2 : Int32) := by rw [hsz]; rfl
  refine Go.on (g' := (mkF m 1 _ [(.int (0 : Int32))])) (fun t_ k_ => XS.iconst X0.here hx rfl (hb hby d6_0) k_) ?_
  refine Go.on (g' := (mkF m 2 #[.val (.ref a), .val (.int x), .val (.int (0 : Int32)), .unset] [])) (fun t_ k_ => XS.istoreN X0.here hx rfl (hb hby d6_1) rfl (l' := #[.val (.ref a), .val (.int x), .val (.int (0 : Int32)), .unset]) rfl k_) ?_
  refine Go.on (g' := (mkF m 3 _ [(.ref a)])) (fun t_ k_ => XS.aloadN X0.here hx rfl (hb hby d6_2) rfl rfl k_) ?_
  refine Go.on (T' := T0) (g' := (mkF m 4 _ [(.int (2 : Int32))])) (fun t_ k_ => X0.arraylength hx (by rw [e0]; exact A0.1) (State.isArrayOf_alike hZ.alike A0.2.1) (g := (mkF m 3 #[.val (.ref a), .val (.int x), .val (.int (0 : Int32)), .unset] [(.ref a)])) rfl rfl (hb hby d6_3) t_ (by rw [hl]; exact k_)) ?_
  refine Go.on (g' := (mkF m 5 #[.val (.ref a), .val (.int x), .val (.int (0 : Int32)), .val (.int (2 : Int32))] [])) (fun t_ k_ => XS.istoreN X0.here hx rfl (hb hby d6_4) rfl (l' := #[.val (.ref a), .val (.int x), .val (.int (0 : Int32)), .val (.int (2 : Int32))]) rfl k_) ?_
  refine Go.on (g' := (mkF m 6 _ [(.int (0 : Int32))])) (fun t_ k_ => XS.iloadN X0.here hx rfl (hb hby d6_5) rfl k_) ?_
  refine Go.on (g' := (mkF m 7 _ [(.int (2 : Int32)), (.int (0 : Int32))])) (fun t_ k_ => XS.iloadN X0.here hx rfl (hb hby d6_6) rfl k_) ?_
  refine Go.icmp X0 hx hby d6_7 (pcT := 20) (pcF := 10) (by decide) (by decide) rfl (fun q => absurd q (by decide)) (fun q => ?_)
  clear q
  show Go p e below _ _ (mkF m 10 _ [])
  refine Go.on (g' := (mkF m 11 _ [(.ref a)])) (fun t_ k_ => XS.aloadN X0.here hx rfl (hb hby d6_10) rfl rfl k_) ?_
  refine Go.on (g' := (mkF m 12 _ [(.int (0 : Int32)), (.ref a)])) (fun t_ k_ => XS.iloadN X0.here hx rfl (hb hby d6_11) rfl k_) ?_
  refine Go.on (g' := (mkF m 13 _ [(.int x), (.int (0 : Int32)), (.ref a)])) (fun t_ k_ => XS.iloadN X0.here hx rfl (hb hby d6_12) rfl k_) ?_
  obtain ⟨T1, h1, X1, e1, W1, st1⟩ := stI X0 hx hZ e0 A0 (j := (0 : Int32)) (by simp only [sz_set, hsz]; decide) (g := (mkF m 13 #[.val (.ref a), .val (.int x), .val (.int (0 : Int32)), .val (.int (2 : Int32))] [(.int x), (.int (0 : Int32)), (.ref a)])) rfl rfl (hb hby d6_13)
  have N1 := Fr.snoc X1 N0 na
  have Z1 : n0 ≤ h1.size := by rw [W1.size]; exact Z0
  have KP_1 := KP0.wr W1 (Or.inl (List.mem_of_getElem? (i := 0) rfl))
  have A1 := A0.same W1
  refine Go.on (g' := (mkF m 14 _ [])) (st1) ?_
  refine Go.on (g' := (mkF m 17 #[.val (.ref a), .val (.int x), .val (.int ((0 : Int32) + (1 : Int32))), .val (.int (2 : Int32))] [])) (fun t_ k_ => XS.iinc X1.here hx rfl (hb hby d6_14) rfl (l' := #[.val (.ref a), .val (.int x), .val (.int ((0 : Int32) + (1 : Int32))), .val (.int (2 : Int32))]) rfl k_) ?_
  rw [show ((0 : Int32) + (1 : Int32)) = (1 : Int32) from by decide]
  refine Go.on (g' := (mkF m 5 _ [])) (fun t_ k_ => XS.goto X1.here hx rfl (pc0 := 17) (pc' := 5) rfl (hb hby d6_17) (by decide) (by decide) k_) ?_
  refine Go.on (g' := (mkF m 6 _ [(.int (1 : Int32))])) (fun t_ k_ => XS.iloadN X1.here hx rfl (hb hby d6_5) rfl k_) ?_
  refine Go.on (g' := (mkF m 7 _ [(.int (2 : Int32)), (.int (1 : Int32))])) (fun t_ k_ => XS.iloadN X1.here hx rfl (hb hby d6_6) rfl k_) ?_
  refine Go.icmp X1 hx hby d6_7 (pcT := 20) (pcF := 10) (by decide) (by decide) rfl (fun q => absurd q (by decide)) (fun q => ?_)
  clear q
  show Go p e below _ _ (mkF m 10 _ [])
  refine Go.on (g' := (mkF m 11 _ [(.ref a)])) (fun t_ k_ => XS.aloadN X1.here hx rfl (hb hby d6_10) rfl rfl k_) ?_
  refine Go.on (g' := (mkF m 12 _ [(.int (1 : Int32)), (.ref a)])) (fun t_ k_ => XS.iloadN X1.here hx rfl (hb hby d6_11) rfl k_) ?_
  refine Go.on (g' := (mkF m 13 _ [(.int x), (.int (1 : Int32)), (.ref a)])) (fun t_ k_ => XS.iloadN X1.here hx rfl (hb hby d6_12) rfl k_) ?_
  obtain ⟨T2, h2, X2, e2, W2, st2⟩ := stI X1 hx hZ e1 A1 (j := (1 : Int32)) (by simp only [sz_set, hsz]; decide) (g := (mkF m 13 #[.val (.ref a), .val (.int x), .val (.int (1 : Int32)), .val (.int (2 : Int32))] [(.int x), (.int (1 : Int32)), (.ref a)])) rfl rfl (hb hby d6_13)
  have N2 := Fr.snoc X2 N1 na
  have Z2 : n0 ≤ h2.size := by rw [W2.size]; exact Z1
  have KP_2 := KP_1.wr W2 (Or.inl (List.mem_of_getElem? (i := 0) rfl))
  have A2 := A1.same W2
  refine Go.on (g' := (mkF m 14 _ [])) (st2) ?_
  refine Go.on (g' := (mkF m 17 #[.val (.ref a), .val (.int x), .val (.int ((1 : Int32) + (1 : Int32))), .val (.int (2 : Int32))] [])) (fun t_ k_ => XS.iinc X2.here hx rfl (hb hby d6_14) rfl (l' := #[.val (.ref a), .val (.int x), .val (.int ((1 : Int32) + (1 : Int32))), .val (.int (2 : Int32))]) rfl k_) ?_
  rw [show ((1 : Int32) + (1 : Int32)) = (2 : Int32) from by decide]
  refine Go.on (g' := (mkF m 5 _ [])) (fun t_ k_ => XS.goto X2.here hx rfl (pc0 := 17) (pc' := 5) rfl (hb hby d6_17) (by decide) (by decide) k_) ?_
  refine Go.on (g' := (mkF m 6 _ [(.int (2 : Int32))])) (fun t_ k_ => XS.iloadN X2.here hx rfl (hb hby d6_5) rfl k_) ?_
  refine Go.on (g' := (mkF m 7 _ [(.int (2 : Int32)), (.int (2 : Int32))])) (fun t_ k_ => XS.iloadN X2.here hx rfl (hb hby d6_6) rfl k_) ?_
  refine Go.icmp X2 hx hby d6_7 (pcT := 20) (pcF := 10) (by decide) (by decide) rfl (fun q => ?_) (fun q => absurd q (by decide))
  clear q
  show Go p e below _ _ (mkF m 20 _ [])
  exact Go.ret0 X2 hx hlk hret hby d6_20 (by decide) (by decide) (by rw [e2]; exact ⟨rfl, N2, KP_2, A2⟩)
theorem d7_0 : decode method_7_code 0 = .ok (.aload_n 0, 1) := by decide +kernel
theorem d7_1 : decode method_7_code 1 = .ok (.ifnull 10, 3) := by decide +kernel
theorem d7_4 : decode method_7_code 4 = .ok (.aload_n 0, 1) := by decide +kernel
theorem d7_5 : decode method_7_code 5 = .ok (.arraylength, 1) := by decide +kernel
theorem d7_6 : decode method_7_code 6 = .ok (.aload_n 1, 1) := by decide +kernel
theorem d7_7 : decode method_7_code 7 = .ok (.arraylength, 1) := by decide +kernel
theorem d7_8 : decode method_7_code 8 = .ok (.if_icmp .eq 5, 3) := by decide +kernel
theorem d7_11 : decode method_7_code 11 = .ok (.iconst 0, 1) := by decide +kernel
theorem d7_12 : decode method_7_code 12 = .ok (.ireturn, 1) := by decide +kernel
theorem d7_13 : decode method_7_code 13 = .ok (.aload_n 1, 1) := by decide +kernel
theorem d7_14 : decode method_7_code 14 = .ok (.arraylength, 1) := by decide +kernel
theorem d7_15 : decode method_7_code 15 = .ok (.iconst 1, 1) := by decide +kernel
theorem d7_16 : decode method_7_code 16 = .ok (.if_icmp .lt 14, 3) := by decide +kernel
theorem d7_19 : decode method_7_code 19 = .ok (.aload_n 0, 1) := by decide +kernel
theorem d7_20 : decode method_7_code 20 = .ok (.iconst 0, 1) := by decide +kernel
theorem d7_21 : decode method_7_code 21 = .ok (.iaload, 1) := by decide +kernel
theorem d7_22 : decode method_7_code 22 = .ok (.aload_n 1, 1) := by decide +kernel
theorem d7_23 : decode method_7_code 23 = .ok (.iconst 0, 1) := by decide +kernel
theorem d7_24 : decode method_7_code 24 = .ok (.iaload, 1) := by decide +kernel
theorem d7_25 : decode method_7_code 25 = .ok (.if_icmp .eq 5, 3) := by decide +kernel
theorem d7_28 : decode method_7_code 28 = .ok (.iconst 0, 1) := by decide +kernel
theorem d7_29 : decode method_7_code 29 = .ok (.ireturn, 1) := by decide +kernel
theorem d7_30 : decode method_7_code 30 = .ok (.aload_n 1, 1) := by decide +kernel
theorem d7_31 : decode method_7_code 31 = .ok (.arraylength, 1) := by decide +kernel
theorem d7_32 : decode method_7_code 32 = .ok (.iconst 2, 1) := by decide +kernel
theorem d7_33 : decode method_7_code 33 = .ok (.if_icmp .lt 14, 3) := by decide +kernel
theorem d7_36 : decode method_7_code 36 = .ok (.aload_n 0, 1) := by decide +kernel
theorem d7_37 : decode method_7_code 37 = .ok (.iconst 1, 1) := by decide +kernel
theorem d7_38 : decode method_7_code 38 = .ok (.iaload, 1) := by decide +kernel
theorem d7_39 : decode method_7_code 39 = .ok (.aload_n 1, 1) := by decide +kernel
theorem d7_40 : decode method_7_code 40 = .ok (.iconst 1, 1) := by decide +kernel
theorem d7_41 : decode method_7_code 41 = .ok (.iaload, 1) := by decide +kernel
theorem d7_42 : decode method_7_code 42 = .ok (.if_icmp .eq 5, 3) := by decide +kernel
theorem d7_45 : decode method_7_code 45 = .ok (.iconst 0, 1) := by decide +kernel
theorem d7_46 : decode method_7_code 46 = .ok (.ireturn, 1) := by decide +kernel
theorem d7_47 : decode method_7_code 47 = .ok (.iconst 1, 1) := by decide +kernel
theorem d7_48 : decode method_7_code 48 = .ok (.ireturn, 1) := by decide +kernel
set_option maxRecDepth 65536 in
set_option maxHeartbeats 40000000 in
theorem rmSm1 (l : Launch) (Z : State) (w0 : Array Value) (hw : ∀ d ∈ tables_1, d.before w0 Z = true) (ws : List Jvm.Cond) (a b : Addr) (r0 : Int32) (h0 : Heap) (ca : Cell) (Aa : Arr Z h0 a ca .int) (za : ca.slots.size = 1) (ha0 : ca.slots[(0 : Int32).toNatClampNeg]? = some (.int r0)) (cb : Cell) (Ab : Arr Z h0 b cb .int) (zb : cb.slots.size = 1) (hb0 : cb.slots[(0 : Int32).toNatClampNeg]? = some (.int r0)) : Pact l Z (⟨"com/example/same_shape/sameshape/service/OrderedPairingPairPinLaw", "same", "([I[I)Z"⟩ : MethodName) method_7_code 2 (some .boolean) ws ({ frames := 0, cells := 0, slots := 0, locals := 0 } : Room) #[.ref a, .ref b] h0 (own_QR h0 (.int 1)) := by
  refine Pact.intro (plainFor_of_name pnLaw) ?_
  intro p e s m below meth c T0 X0 hx hby hml hret hlk hown hnm hZ e0
  refine Go.at (efSm m a b) ?_
  have la : ca.slots.size.toInt32 = (1 : Int32) := by rw [za]; rfl
  have lb : cb.slots.size.toInt32 = (1 : Int32) := by rw [zb]; rfl
  refine Go.on (g' := (mkF m 1 _ [(.ref a)])) (fun t_ k_ => XS.aloadN X0.here hx rfl (hb hby d7_0) rfl rfl k_) ?_
  refine Go.on (g' := (mkF m 4 _ [])) (fun t_ k_ => XS.ifnullNo X0.here hx rfl (hb hby d7_1) rfl k_) ?_
  refine Go.on (g' := (mkF m 5 _ [(.ref a)])) (fun t_ k_ => XS.aloadN X0.here hx rfl (hb hby d7_4) rfl rfl k_) ?_
  refine Go.on (T' := T0) (g' := (mkF m 6 _ [(.int (1 : Int32))])) (fun t_ k_ => X0.arraylength hx (by rw [e0]; exact Aa.1) (State.isArrayOf_alike hZ.alike Aa.2.1) (g := (mkF m 5 #[.val (.ref a), .val (.ref b)] [(.ref a)])) rfl rfl (hb hby d7_5) t_ (by rw [la]; exact k_)) ?_
  refine Go.on (g' := (mkF m 7 _ [(.ref b), (.int (1 : Int32))])) (fun t_ k_ => XS.aloadN X0.here hx rfl (hb hby d7_6) rfl rfl k_) ?_
  refine Go.on (T' := T0) (g' := (mkF m 8 _ [(.int (1 : Int32)), (.int (1 : Int32))])) (fun t_ k_ => X0.arraylength hx (by rw [e0]; exact Ab.1) (State.isArrayOf_alike hZ.alike Ab.2.1) (g := (mkF m 7 #[.val (.ref a), .val (.ref b)] [(.ref b), (.int (1 : Int32))])) rfl rfl (hb hby d7_7) t_ (by rw [lb]; exact k_)) ?_
  refine Go.icmp X0 hx hby d7_8 (pcT := 13) (pcF := 11) (by decide) (by decide) rfl (fun q => ?_) (fun q => absurd q (by decide))
  clear q
  show Go p e below _ _ (mkF m 13 _ [])
  refine Go.on (g' := (mkF m 14 _ [(.ref b)])) (fun t_ k_ => XS.aloadN X0.here hx rfl (hb hby d7_13) rfl rfl k_) ?_
  refine Go.on (T' := T0) (g' := (mkF m 15 _ [(.int (1 : Int32))])) (fun t_ k_ => X0.arraylength hx (by rw [e0]; exact Ab.1) (State.isArrayOf_alike hZ.alike Ab.2.1) (g := (mkF m 14 #[.val (.ref a), .val (.ref b)] [(.ref b)])) rfl rfl (hb hby d7_14) t_ (by rw [lb]; exact k_)) ?_
  refine Go.on (g' := (mkF m 16 _ [(.int (1 : Int32)), (.int (1 : Int32))])) (fun t_ k_ => XS.iconst X0.here hx rfl (hb hby d7_15) k_) ?_
  refine Go.icmp X0 hx hby d7_16 (pcT := 30) (pcF := 19) (by decide) (by decide) rfl (fun q => absurd q (by decide)) (fun q => ?_)
  clear q
  show Go p e below _ _ (mkF m 19 _ [])
  refine Go.on (g' := (mkF m 20 _ [(.ref a)])) (fun t_ k_ => XS.aloadN X0.here hx rfl (hb hby d7_19) rfl rfl k_) ?_
  refine Go.on (g' := (mkF m 21 _ [(.int (0 : Int32)), (.ref a)])) (fun t_ k_ => XS.iconst X0.here hx rfl (hb hby d7_20) k_) ?_
  refine Go.on (g' := (mkF m 22 _ [(.int r0)])) (X0.iaload hx (j := (0 : Int32)) (v := (.int r0)) (by rw [e0]; exact Aa.1) (State.isArrayOf_alike hZ.alike Aa.2.1) Aa.2.2 (by rw [za]; decide) ha0 (g := (mkF m 21 #[.val (.ref a), .val (.ref b)] [(.int (0 : Int32)), (.ref a)])) rfl rfl (hb hby d7_21)) ?_
  refine Go.on (g' := (mkF m 23 _ [(.ref b), (.int r0)])) (fun t_ k_ => XS.aloadN X0.here hx rfl (hb hby d7_22) rfl rfl k_) ?_
  refine Go.on (g' := (mkF m 24 _ [(.int (0 : Int32)), (.ref b), (.int r0)])) (fun t_ k_ => XS.iconst X0.here hx rfl (hb hby d7_23) k_) ?_
  refine Go.on (g' := (mkF m 25 _ [(.int r0), (.int r0)])) (X0.iaload hx (j := (0 : Int32)) (v := (.int r0)) (by rw [e0]; exact Ab.1) (State.isArrayOf_alike hZ.alike Ab.2.1) Ab.2.2 (by rw [zb]; decide) hb0 (g := (mkF m 24 #[.val (.ref a), .val (.ref b)] [(.int (0 : Int32)), (.ref b), (.int r0)])) rfl rfl (hb hby d7_24)) ?_
  refine Go.icmp X0 hx hby d7_25 (pcT := 30) (pcF := 28) (by decide) (by decide) rfl (fun q => ?_) (fun q => absurd q (fun q => (iEq.2 q) rfl))
  clear q
  show Go p e below _ _ (mkF m 30 _ [])
  refine Go.on (g' := (mkF m 31 _ [(.ref b)])) (fun t_ k_ => XS.aloadN X0.here hx rfl (hb hby d7_30) rfl rfl k_) ?_
  refine Go.on (T' := T0) (g' := (mkF m 32 _ [(.int (1 : Int32))])) (fun t_ k_ => X0.arraylength hx (by rw [e0]; exact Ab.1) (State.isArrayOf_alike hZ.alike Ab.2.1) (g := (mkF m 31 #[.val (.ref a), .val (.ref b)] [(.ref b)])) rfl rfl (hb hby d7_31) t_ (by rw [lb]; exact k_)) ?_
  refine Go.on (g' := (mkF m 33 _ [(.int (2 : Int32)), (.int (1 : Int32))])) (fun t_ k_ => XS.iconst X0.here hx rfl (hb hby d7_32) k_) ?_
  refine Go.icmp X0 hx hby d7_33 (pcT := 47) (pcF := 36) (by decide) (by decide) rfl (fun q => ?_) (fun q => absurd q (by decide))
  clear q
  show Go p e below _ _ (mkF m 47 _ [])
  refine Go.on (g' := (mkF m 48 _ [(.int (1 : Int32))])) (fun t_ k_ => XS.iconst X0.here hx rfl (hb hby d7_47) k_) ?_
  exact Go.retI X0 hx hlk hret hby d7_48 rfl (by simp) (by decide) (by decide) ⟨rfl, rfl, e0⟩
set_option maxRecDepth 65536 in
set_option maxHeartbeats 40000000 in
theorem rmSm2 (l : Launch) (Z : State) (w0 : Array Value) (hw : ∀ d ∈ tables_1, d.before w0 Z = true) (ws : List Jvm.Cond) (a b : Addr) (r0 r1 : Int32) (h0 : Heap) (ca : Cell) (Aa : Arr Z h0 a ca .int) (za : ca.slots.size = 2) (ha0 : ca.slots[(0 : Int32).toNatClampNeg]? = some (.int r0)) (ha1 : ca.slots[(1 : Int32).toNatClampNeg]? = some (.int r1)) (cb : Cell) (Ab : Arr Z h0 b cb .int) (zb : cb.slots.size = 2) (hb0 : cb.slots[(0 : Int32).toNatClampNeg]? = some (.int r0)) (hb1 : cb.slots[(1 : Int32).toNatClampNeg]? = some (.int r1)) : Pact l Z (⟨"com/example/same_shape/sameshape/service/OrderedPairingPairPinLaw", "same", "([I[I)Z"⟩ : MethodName) method_7_code 2 (some .boolean) ws ({ frames := 0, cells := 0, slots := 0, locals := 0 } : Room) #[.ref a, .ref b] h0 (own_QR h0 (.int 1)) := by
  refine Pact.intro (plainFor_of_name pnLaw) ?_
  intro p e s m below meth c T0 X0 hx hby hml hret hlk hown hnm hZ e0
  refine Go.at (efSm m a b) ?_
  have la : ca.slots.size.toInt32 = (2 : Int32) := by rw [za]; rfl
  have lb : cb.slots.size.toInt32 = (2 : Int32) := by rw [zb]; rfl
  refine Go.on (g' := (mkF m 1 _ [(.ref a)])) (fun t_ k_ => XS.aloadN X0.here hx rfl (hb hby d7_0) rfl rfl k_) ?_
  refine Go.on (g' := (mkF m 4 _ [])) (fun t_ k_ => XS.ifnullNo X0.here hx rfl (hb hby d7_1) rfl k_) ?_
  refine Go.on (g' := (mkF m 5 _ [(.ref a)])) (fun t_ k_ => XS.aloadN X0.here hx rfl (hb hby d7_4) rfl rfl k_) ?_
  refine Go.on (T' := T0) (g' := (mkF m 6 _ [(.int (2 : Int32))])) (fun t_ k_ => X0.arraylength hx (by rw [e0]; exact Aa.1) (State.isArrayOf_alike hZ.alike Aa.2.1) (g := (mkF m 5 #[.val (.ref a), .val (.ref b)] [(.ref a)])) rfl rfl (hb hby d7_5) t_ (by rw [la]; exact k_)) ?_
  refine Go.on (g' := (mkF m 7 _ [(.ref b), (.int (2 : Int32))])) (fun t_ k_ => XS.aloadN X0.here hx rfl (hb hby d7_6) rfl rfl k_) ?_
  refine Go.on (T' := T0) (g' := (mkF m 8 _ [(.int (2 : Int32)), (.int (2 : Int32))])) (fun t_ k_ => X0.arraylength hx (by rw [e0]; exact Ab.1) (State.isArrayOf_alike hZ.alike Ab.2.1) (g := (mkF m 7 #[.val (.ref a), .val (.ref b)] [(.ref b), (.int (2 : Int32))])) rfl rfl (hb hby d7_7) t_ (by rw [lb]; exact k_)) ?_
  refine Go.icmp X0 hx hby d7_8 (pcT := 13) (pcF := 11) (by decide) (by decide) rfl (fun q => ?_) (fun q => absurd q (by decide))
  clear q
  show Go p e below _ _ (mkF m 13 _ [])
  refine Go.on (g' := (mkF m 14 _ [(.ref b)])) (fun t_ k_ => XS.aloadN X0.here hx rfl (hb hby d7_13) rfl rfl k_) ?_
  refine Go.on (T' := T0) (g' := (mkF m 15 _ [(.int (2 : Int32))])) (fun t_ k_ => X0.arraylength hx (by rw [e0]; exact Ab.1) (State.isArrayOf_alike hZ.alike Ab.2.1) (g := (mkF m 14 #[.val (.ref a), .val (.ref b)] [(.ref b)])) rfl rfl (hb hby d7_14) t_ (by rw [lb]; exact k_)) ?_
  refine Go.on (g' := (mkF m 16 _ [(.int (1 : Int32)), (.int (2 : Int32))])) (fun t_ k_ => XS.iconst X0.here hx rfl (hb hby d7_15) k_) ?_
  refine Go.icmp X0 hx hby d7_16 (pcT := 30) (pcF := 19) (by decide) (by decide) rfl (fun q => absurd q (by decide)) (fun q => ?_)
  clear q
  show Go p e below _ _ (mkF m 19 _ [])
  refine Go.on (g' := (mkF m 20 _ [(.ref a)])) (fun t_ k_ => XS.aloadN X0.here hx rfl (hb hby d7_19) rfl rfl k_) ?_
  refine Go.on (g' := (mkF m 21 _ [(.int (0 : Int32)), (.ref a)])) (fun t_ k_ => XS.iconst X0.here hx rfl (hb hby d7_20) k_) ?_
  refine Go.on (g' := (mkF m 22 _ [(.int r0)])) (X0.iaload hx (j := (0 : Int32)) (v := (.int r0)) (by rw [e0]; exact Aa.1) (State.isArrayOf_alike hZ.alike Aa.2.1) Aa.2.2 (by rw [za]; decide) ha0 (g := (mkF m 21 #[.val (.ref a), .val (.ref b)] [(.int (0 : Int32)), (.ref a)])) rfl rfl (hb hby d7_21)) ?_
  refine Go.on (g' := (mkF m 23 _ [(.ref b), (.int r0)])) (fun t_ k_ => XS.aloadN X0.here hx rfl (hb hby d7_22) rfl rfl k_) ?_
  refine Go.on (g' := (mkF m 24 _ [(.int (0 : Int32)), (.ref b), (.int r0)])) (fun t_ k_ => XS.iconst X0.here hx rfl (hb hby d7_23) k_) ?_
  refine Go.on (g' := (mkF m 25 _ [(.int r0), (.int r0)])) (X0.iaload hx (j := (0 : Int32)) (v := (.int r0)) (by rw [e0]; exact Ab.1) (State.isArrayOf_alike hZ.alike Ab.2.1) Ab.2.2 (by rw [zb]; decide) hb0 (g := (mkF m 24 #[.val (.ref a), .val (.ref b)] [(.int (0 : Int32)), (.ref b), (.int r0)])) rfl rfl (hb hby d7_24)) ?_
  refine Go.icmp X0 hx hby d7_25 (pcT := 30) (pcF := 28) (by decide) (by decide) rfl (fun q => ?_) (fun q => absurd q (fun q => (iEq.2 q) rfl))
  clear q
  show Go p e below _ _ (mkF m 30 _ [])
  refine Go.on (g' := (mkF m 31 _ [(.ref b)])) (fun t_ k_ => XS.aloadN X0.here hx rfl (hb hby d7_30) rfl rfl k_) ?_
  refine Go.on (T' := T0) (g' := (mkF m 32 _ [(.int (2 : Int32))])) (fun t_ k_ => X0.arraylength hx (by rw [e0]; exact Ab.1) (State.isArrayOf_alike hZ.alike Ab.2.1) (g := (mkF m 31 #[.val (.ref a), .val (.ref b)] [(.ref b)])) rfl rfl (hb hby d7_31) t_ (by rw [lb]; exact k_)) ?_
  refine Go.on (g' := (mkF m 33 _ [(.int (2 : Int32)), (.int (2 : Int32))])) (fun t_ k_ => XS.iconst X0.here hx rfl (hb hby d7_32) k_) ?_
  refine Go.icmp X0 hx hby d7_33 (pcT := 47) (pcF := 36) (by decide) (by decide) rfl (fun q => absurd q (by decide)) (fun q => ?_)
  clear q
  show Go p e below _ _ (mkF m 36 _ [])
  refine Go.on (g' := (mkF m 37 _ [(.ref a)])) (fun t_ k_ => XS.aloadN X0.here hx rfl (hb hby d7_36) rfl rfl k_) ?_
  refine Go.on (g' := (mkF m 38 _ [(.int (1 : Int32)), (.ref a)])) (fun t_ k_ => XS.iconst X0.here hx rfl (hb hby d7_37) k_) ?_
  refine Go.on (g' := (mkF m 39 _ [(.int r1)])) (X0.iaload hx (j := (1 : Int32)) (v := (.int r1)) (by rw [e0]; exact Aa.1) (State.isArrayOf_alike hZ.alike Aa.2.1) Aa.2.2 (by rw [za]; decide) ha1 (g := (mkF m 38 #[.val (.ref a), .val (.ref b)] [(.int (1 : Int32)), (.ref a)])) rfl rfl (hb hby d7_38)) ?_
  refine Go.on (g' := (mkF m 40 _ [(.ref b), (.int r1)])) (fun t_ k_ => XS.aloadN X0.here hx rfl (hb hby d7_39) rfl rfl k_) ?_
  refine Go.on (g' := (mkF m 41 _ [(.int (1 : Int32)), (.ref b), (.int r1)])) (fun t_ k_ => XS.iconst X0.here hx rfl (hb hby d7_40) k_) ?_
  refine Go.on (g' := (mkF m 42 _ [(.int r1), (.int r1)])) (X0.iaload hx (j := (1 : Int32)) (v := (.int r1)) (by rw [e0]; exact Ab.1) (State.isArrayOf_alike hZ.alike Ab.2.1) Ab.2.2 (by rw [zb]; decide) hb1 (g := (mkF m 41 #[.val (.ref a), .val (.ref b)] [(.int (1 : Int32)), (.ref b), (.int r1)])) rfl rfl (hb hby d7_41)) ?_
  refine Go.icmp X0 hx hby d7_42 (pcT := 47) (pcF := 45) (by decide) (by decide) rfl (fun q => ?_) (fun q => absurd q (fun q => (iEq.2 q) rfl))
  clear q
  show Go p e below _ _ (mkF m 47 _ [])
  refine Go.on (g' := (mkF m 48 _ [(.int (1 : Int32))])) (fun t_ k_ => XS.iconst X0.here hx rfl (hb hby d7_47) k_) ?_
  exact Go.retI X0 hx hlk hret hby d7_48 rfl (by simp) (by decide) (by decide) ⟨rfl, rfl, e0⟩
def own_c11 (y0 : Int32) : Int32 := own_cell y0 (own_max 0 0) 0
def own_c12 (y0 y1 : Int32) : Int32 := own_cell y1 (own_max 0 (own_c11 y0)) 0
def own_c13 (y0 y1 y2 : Int32) : Int32 := own_cell y2 (own_max 0 (own_c12 y0 y1)) 0
def own_c21 (y0 v : Int32) : Int32 := own_cell v (own_max (own_c11 y0) 0) 0
def own_c22 (y0 y1 y3 y4 : Int32) : Int32 := own_cell y4 (own_max (own_c12 y0 y1) (own_c21 y0 y3)) (own_c11 y0)
def own_c23 (y0 y1 y2 y3 y4 y5 : Int32) : Int32 := own_cell y5 (own_max (own_c13 y0 y1 y2) (own_c22 y0 y1 y3 y4)) (own_c12 y0 y1)
def own_p23 (y0 y1 y2 y3 y4 y5 : Int32) : Int32 × Int32 := own_23 y0 y1 y2 y3 y4 y5 (own_c11 y0) (own_c12 y0 y1) (own_c13 y0 y1 y2) (own_c21 y0 y3) (own_c22 y0 y1 y3 y4) (own_c23 y0 y1 y2 y3 y4 y5)
def own_p13 (y0 y1 y2 : Int32) : Int32 := own_r13 y0 y1 y2 (own_c11 y0) (own_c12 y0 y1) (own_c13 y0 y1 y2)
def own_p21 (y0 y1 : Int32) : Int32 × Int32 := own_21 y0 y1 (own_c11 y0) (own_c21 y0 y1)
theorem d5_0 : decode prog_7_method_2_code 0 = .ok (.iload_n 1, 1) := by decide +kernel
theorem d5_1 : decode prog_7_method_2_code 1 = .ok (.iconst 1, 1) := by decide +kernel
theorem d5_2 : decode prog_7_method_2_code 2 = .ok (.iadd, 1) := by decide +kernel
theorem d5_3 : decode prog_7_method_2_code 3 = .ok (.iload_n 2, 1) := by decide +kernel
theorem d5_4 : decode prog_7_method_2_code 4 = .ok (.iconst 1, 1) := by decide +kernel
theorem d5_5 : decode prog_7_method_2_code 5 = .ok (.iadd, 1) := by decide +kernel
theorem d5_6 : decode prog_7_method_2_code 6 = .ok (.imul, 1) := by decide +kernel
theorem d5_7 : decode prog_7_method_2_code 7 = .ok (.newarray .int, 2) := by decide +kernel
theorem d5_9 : decode prog_7_method_2_code 9 = .ok (.astore_n 3, 1) := by decide +kernel
theorem d5_10 : decode prog_7_method_2_code 10 = .ok (.iconst 1, 1) := by decide +kernel
theorem d5_11 : decode prog_7_method_2_code 11 = .ok (.istore 4, 2) := by decide +kernel
theorem d5_13 : decode prog_7_method_2_code 13 = .ok (.iload 4, 2) := by decide +kernel
theorem d5_15 : decode prog_7_method_2_code 15 = .ok (.iload_n 1, 1) := by decide +kernel
theorem d5_16 : decode prog_7_method_2_code 16 = .ok (.if_icmp .gt 98, 3) := by decide +kernel
theorem d5_19 : decode prog_7_method_2_code 19 = .ok (.iconst 1, 1) := by decide +kernel
theorem d5_20 : decode prog_7_method_2_code 20 = .ok (.istore 5, 2) := by decide +kernel
theorem d5_22 : decode prog_7_method_2_code 22 = .ok (.iload 5, 2) := by decide +kernel
theorem d5_24 : decode prog_7_method_2_code 24 = .ok (.iload_n 2, 1) := by decide +kernel
theorem d5_25 : decode prog_7_method_2_code 25 = .ok (.if_icmp .gt 83, 3) := by decide +kernel
theorem d5_28 : decode prog_7_method_2_code 28 = .ok (.aload_n 0, 1) := by decide +kernel
theorem d5_29 : decode prog_7_method_2_code 29 = .ok (.iload 4, 2) := by decide +kernel
theorem d5_31 : decode prog_7_method_2_code 31 = .ok (.iconst 1, 1) := by decide +kernel
theorem d5_32 : decode prog_7_method_2_code 32 = .ok (.isub, 1) := by decide +kernel
theorem d5_33 : decode prog_7_method_2_code 33 = .ok (.iload_n 2, 1) := by decide +kernel
theorem d5_34 : decode prog_7_method_2_code 34 = .ok (.imul, 1) := by decide +kernel
theorem d5_35 : decode prog_7_method_2_code 35 = .ok (.iload 5, 2) := by decide +kernel
theorem d5_37 : decode prog_7_method_2_code 37 = .ok (.iadd, 1) := by decide +kernel
theorem d5_38 : decode prog_7_method_2_code 38 = .ok (.iconst 1, 1) := by decide +kernel
theorem d5_39 : decode prog_7_method_2_code 39 = .ok (.isub, 1) := by decide +kernel
theorem d5_40 : decode prog_7_method_2_code 40 = .ok (.iaload, 1) := by decide +kernel
theorem d5_41 : decode prog_7_method_2_code 41 = .ok (.istore 6, 2) := by decide +kernel
theorem d5_43 : decode prog_7_method_2_code 43 = .ok (.iload 4, 2) := by decide +kernel
theorem d5_45 : decode prog_7_method_2_code 45 = .ok (.iload_n 2, 1) := by decide +kernel
theorem d5_46 : decode prog_7_method_2_code 46 = .ok (.iconst 1, 1) := by decide +kernel
theorem d5_47 : decode prog_7_method_2_code 47 = .ok (.iadd, 1) := by decide +kernel
theorem d5_48 : decode prog_7_method_2_code 48 = .ok (.imul, 1) := by decide +kernel
theorem d5_49 : decode prog_7_method_2_code 49 = .ok (.iload 5, 2) := by decide +kernel
theorem d5_51 : decode prog_7_method_2_code 51 = .ok (.iadd, 1) := by decide +kernel
theorem d5_52 : decode prog_7_method_2_code 52 = .ok (.istore 7, 2) := by decide +kernel
theorem d5_54 : decode prog_7_method_2_code 54 = .ok (.aload_n 3, 1) := by decide +kernel
theorem d5_55 : decode prog_7_method_2_code 55 = .ok (.iload 7, 2) := by decide +kernel
theorem d5_57 : decode prog_7_method_2_code 57 = .ok (.iload_n 2, 1) := by decide +kernel
theorem d5_58 : decode prog_7_method_2_code 58 = .ok (.isub, 1) := by decide +kernel
theorem d5_59 : decode prog_7_method_2_code 59 = .ok (.iconst 1, 1) := by decide +kernel
theorem d5_60 : decode prog_7_method_2_code 60 = .ok (.isub, 1) := by decide +kernel
theorem d5_61 : decode prog_7_method_2_code 61 = .ok (.iaload, 1) := by decide +kernel
theorem d5_62 : decode prog_7_method_2_code 62 = .ok (.aload_n 3, 1) := by decide +kernel
theorem d5_63 : decode prog_7_method_2_code 63 = .ok (.iload 7, 2) := by decide +kernel
theorem d5_65 : decode prog_7_method_2_code 65 = .ok (.iconst 1, 1) := by decide +kernel
theorem d5_66 : decode prog_7_method_2_code 66 = .ok (.isub, 1) := by decide +kernel
theorem d5_67 : decode prog_7_method_2_code 67 = .ok (.iaload, 1) := by decide +kernel
theorem d5_68 : decode prog_7_method_2_code 68 = .ok (.invokestatic 7, 3) := by decide +kernel
theorem d5_71 : decode prog_7_method_2_code 71 = .ok (.istore 8, 2) := by decide +kernel
theorem d5_73 : decode prog_7_method_2_code 73 = .ok (.iload 6, 2) := by decide +kernel
theorem d5_75 : decode prog_7_method_2_code 75 = .ok (.ifCond .le 21, 3) := by decide +kernel
theorem d5_78 : decode prog_7_method_2_code 78 = .ok (.iload 8, 2) := by decide +kernel
theorem d5_80 : decode prog_7_method_2_code 80 = .ok (.aload_n 3, 1) := by decide +kernel
theorem d5_81 : decode prog_7_method_2_code 81 = .ok (.iload 7, 2) := by decide +kernel
theorem d5_83 : decode prog_7_method_2_code 83 = .ok (.iload_n 2, 1) := by decide +kernel
theorem d5_84 : decode prog_7_method_2_code 84 = .ok (.isub, 1) := by decide +kernel
theorem d5_85 : decode prog_7_method_2_code 85 = .ok (.iconst 2, 1) := by decide +kernel
theorem d5_86 : decode prog_7_method_2_code 86 = .ok (.isub, 1) := by decide +kernel
theorem d5_87 : decode prog_7_method_2_code 87 = .ok (.iaload, 1) := by decide +kernel
theorem d5_88 : decode prog_7_method_2_code 88 = .ok (.iload 6, 2) := by decide +kernel
theorem d5_90 : decode prog_7_method_2_code 90 = .ok (.iadd, 1) := by decide +kernel
theorem d5_91 : decode prog_7_method_2_code 91 = .ok (.invokestatic 7, 3) := by decide +kernel
theorem d5_94 : decode prog_7_method_2_code 94 = .ok (.istore 8, 2) := by decide +kernel
theorem d5_96 : decode prog_7_method_2_code 96 = .ok (.aload_n 3, 1) := by decide +kernel
theorem d5_97 : decode prog_7_method_2_code 97 = .ok (.iload 7, 2) := by decide +kernel
theorem d5_99 : decode prog_7_method_2_code 99 = .ok (.iload 8, 2) := by decide +kernel
theorem d5_101 : decode prog_7_method_2_code 101 = .ok (.iastore, 1) := by decide +kernel
theorem d5_102 : decode prog_7_method_2_code 102 = .ok (.iinc 5 1, 3) := by decide +kernel
theorem d5_105 : decode prog_7_method_2_code 105 = .ok (.goto (-83), 3) := by decide +kernel
theorem d5_108 : decode prog_7_method_2_code 108 = .ok (.iinc 4 1, 3) := by decide +kernel
theorem d5_111 : decode prog_7_method_2_code 111 = .ok (.goto (-98), 3) := by decide +kernel
theorem d5_114 : decode prog_7_method_2_code 114 = .ok (.iload_n 1, 1) := by decide +kernel
theorem d5_115 : decode prog_7_method_2_code 115 = .ok (.newarray .int, 2) := by decide +kernel
theorem d5_117 : decode prog_7_method_2_code 117 = .ok (.astore 4, 2) := by decide +kernel
theorem d5_119 : decode prog_7_method_2_code 119 = .ok (.aload 4, 2) := by decide +kernel
theorem d5_121 : decode prog_7_method_2_code 121 = .ok (.iconst (-1), 1) := by decide +kernel
theorem d5_122 : decode prog_7_method_2_code 122 = .ok (.invokestatic 13, 3) := by decide +kernel
theorem d5_125 : decode prog_7_method_2_code 125 = .ok (.iload_n 1, 1) := by decide +kernel
theorem d5_126 : decode prog_7_method_2_code 126 = .ok (.istore 5, 2) := by decide +kernel
theorem d5_128 : decode prog_7_method_2_code 128 = .ok (.iload_n 2, 1) := by decide +kernel
theorem d5_129 : decode prog_7_method_2_code 129 = .ok (.istore 6, 2) := by decide +kernel
theorem d5_131 : decode prog_7_method_2_code 131 = .ok (.iload 5, 2) := by decide +kernel
theorem d5_133 : decode prog_7_method_2_code 133 = .ok (.ifCond .le 104, 3) := by decide +kernel
theorem d5_136 : decode prog_7_method_2_code 136 = .ok (.iload 6, 2) := by decide +kernel
theorem d5_138 : decode prog_7_method_2_code 138 = .ok (.ifCond .le 99, 3) := by decide +kernel
theorem d5_141 : decode prog_7_method_2_code 141 = .ok (.iload 5, 2) := by decide +kernel
theorem d5_143 : decode prog_7_method_2_code 143 = .ok (.iload_n 2, 1) := by decide +kernel
theorem d5_144 : decode prog_7_method_2_code 144 = .ok (.iconst 1, 1) := by decide +kernel
theorem d5_145 : decode prog_7_method_2_code 145 = .ok (.iadd, 1) := by decide +kernel
theorem d5_146 : decode prog_7_method_2_code 146 = .ok (.imul, 1) := by decide +kernel
theorem d5_147 : decode prog_7_method_2_code 147 = .ok (.iload 6, 2) := by decide +kernel
theorem d5_149 : decode prog_7_method_2_code 149 = .ok (.iadd, 1) := by decide +kernel
theorem d5_150 : decode prog_7_method_2_code 150 = .ok (.istore 7, 2) := by decide +kernel
theorem d5_152 : decode prog_7_method_2_code 152 = .ok (.aload_n 0, 1) := by decide +kernel
theorem d5_153 : decode prog_7_method_2_code 153 = .ok (.iload 5, 2) := by decide +kernel
theorem d5_155 : decode prog_7_method_2_code 155 = .ok (.iconst 1, 1) := by decide +kernel
theorem d5_156 : decode prog_7_method_2_code 156 = .ok (.isub, 1) := by decide +kernel
theorem d5_157 : decode prog_7_method_2_code 157 = .ok (.iload_n 2, 1) := by decide +kernel
theorem d5_158 : decode prog_7_method_2_code 158 = .ok (.imul, 1) := by decide +kernel
theorem d5_159 : decode prog_7_method_2_code 159 = .ok (.iload 6, 2) := by decide +kernel
theorem d5_161 : decode prog_7_method_2_code 161 = .ok (.iadd, 1) := by decide +kernel
theorem d5_162 : decode prog_7_method_2_code 162 = .ok (.iconst 1, 1) := by decide +kernel
theorem d5_163 : decode prog_7_method_2_code 163 = .ok (.isub, 1) := by decide +kernel
theorem d5_164 : decode prog_7_method_2_code 164 = .ok (.iaload, 1) := by decide +kernel
theorem d5_165 : decode prog_7_method_2_code 165 = .ok (.istore 8, 2) := by decide +kernel
theorem d5_167 : decode prog_7_method_2_code 167 = .ok (.iload 8, 2) := by decide +kernel
theorem d5_169 : decode prog_7_method_2_code 169 = .ok (.ifCond .le 41, 3) := by decide +kernel
theorem d5_172 : decode prog_7_method_2_code 172 = .ok (.aload_n 3, 1) := by decide +kernel
theorem d5_173 : decode prog_7_method_2_code 173 = .ok (.iload 7, 2) := by decide +kernel
theorem d5_175 : decode prog_7_method_2_code 175 = .ok (.iaload, 1) := by decide +kernel
theorem d5_176 : decode prog_7_method_2_code 176 = .ok (.aload_n 3, 1) := by decide +kernel
theorem d5_177 : decode prog_7_method_2_code 177 = .ok (.iload 7, 2) := by decide +kernel
theorem d5_179 : decode prog_7_method_2_code 179 = .ok (.iload_n 2, 1) := by decide +kernel
theorem d5_180 : decode prog_7_method_2_code 180 = .ok (.isub, 1) := by decide +kernel
theorem d5_181 : decode prog_7_method_2_code 181 = .ok (.iconst 2, 1) := by decide +kernel
theorem d5_182 : decode prog_7_method_2_code 182 = .ok (.isub, 1) := by decide +kernel
theorem d5_183 : decode prog_7_method_2_code 183 = .ok (.iaload, 1) := by decide +kernel
theorem d5_184 : decode prog_7_method_2_code 184 = .ok (.iload 8, 2) := by decide +kernel
theorem d5_186 : decode prog_7_method_2_code 186 = .ok (.iadd, 1) := by decide +kernel
theorem d5_187 : decode prog_7_method_2_code 187 = .ok (.if_icmp .ne 23, 3) := by decide +kernel
theorem d5_190 : decode prog_7_method_2_code 190 = .ok (.aload 4, 2) := by decide +kernel
theorem d5_192 : decode prog_7_method_2_code 192 = .ok (.iload 5, 2) := by decide +kernel
theorem d5_194 : decode prog_7_method_2_code 194 = .ok (.iconst 1, 1) := by decide +kernel
theorem d5_195 : decode prog_7_method_2_code 195 = .ok (.isub, 1) := by decide +kernel
theorem d5_196 : decode prog_7_method_2_code 196 = .ok (.iload 6, 2) := by decide +kernel
theorem d5_198 : decode prog_7_method_2_code 198 = .ok (.iconst 1, 1) := by decide +kernel
theorem d5_199 : decode prog_7_method_2_code 199 = .ok (.isub, 1) := by decide +kernel
theorem d5_200 : decode prog_7_method_2_code 200 = .ok (.iastore, 1) := by decide +kernel
theorem d5_201 : decode prog_7_method_2_code 201 = .ok (.iinc 5 (-1), 3) := by decide +kernel
theorem d5_204 : decode prog_7_method_2_code 204 = .ok (.iinc 6 (-1), 3) := by decide +kernel
theorem d5_207 : decode prog_7_method_2_code 207 = .ok (.goto 27, 3) := by decide +kernel
theorem d5_210 : decode prog_7_method_2_code 210 = .ok (.aload_n 3, 1) := by decide +kernel
theorem d5_211 : decode prog_7_method_2_code 211 = .ok (.iload 7, 2) := by decide +kernel
theorem d5_213 : decode prog_7_method_2_code 213 = .ok (.iaload, 1) := by decide +kernel
theorem d5_214 : decode prog_7_method_2_code 214 = .ok (.aload_n 3, 1) := by decide +kernel
theorem d5_215 : decode prog_7_method_2_code 215 = .ok (.iload 7, 2) := by decide +kernel
theorem d5_217 : decode prog_7_method_2_code 217 = .ok (.iload_n 2, 1) := by decide +kernel
theorem d5_218 : decode prog_7_method_2_code 218 = .ok (.isub, 1) := by decide +kernel
theorem d5_219 : decode prog_7_method_2_code 219 = .ok (.iconst 1, 1) := by decide +kernel
theorem d5_220 : decode prog_7_method_2_code 220 = .ok (.isub, 1) := by decide +kernel
theorem d5_221 : decode prog_7_method_2_code 221 = .ok (.iaload, 1) := by decide +kernel
theorem d5_222 : decode prog_7_method_2_code 222 = .ok (.if_icmp .ne 9, 3) := by decide +kernel
theorem d5_225 : decode prog_7_method_2_code 225 = .ok (.iinc 5 (-1), 3) := by decide +kernel
theorem d5_228 : decode prog_7_method_2_code 228 = .ok (.goto 6, 3) := by decide +kernel
theorem d5_231 : decode prog_7_method_2_code 231 = .ok (.iinc 6 (-1), 3) := by decide +kernel
theorem d5_234 : decode prog_7_method_2_code 234 = .ok (.goto (-103), 3) := by decide +kernel
theorem d5_237 : decode prog_7_method_2_code 237 = .ok (.aload 4, 2) := by decide +kernel
theorem d5_239 : decode prog_7_method_2_code 239 = .ok (.areturn, 1) := by decide +kernel
def own_W23 (c : Cell) (y0 y1 y2 y3 y4 y5 : Int32) : Prop := c.slots.size = 6 ∧ c.slots[(0 : Int32).toNatClampNeg]? = some (.int y0) ∧ c.slots[(1 : Int32).toNatClampNeg]? = some (.int y1) ∧ c.slots[(2 : Int32).toNatClampNeg]? = some (.int y2) ∧ c.slots[(3 : Int32).toNatClampNeg]? = some (.int y3) ∧ c.slots[(4 : Int32).toNatClampNeg]? = some (.int y4) ∧ c.slots[(5 : Int32).toNatClampNeg]? = some (.int y5)
def own_B23 (c : Cell) (b11 b12 b13 b21 b22 b23 : Int32) : Prop := c.slots.size = 12 ∧ c.slots[(0 : Int32).toNatClampNeg]? = some (.int (0 : Int32)) ∧ c.slots[(1 : Int32).toNatClampNeg]? = some (.int (0 : Int32)) ∧ c.slots[(2 : Int32).toNatClampNeg]? = some (.int (0 : Int32)) ∧ c.slots[(3 : Int32).toNatClampNeg]? = some (.int (0 : Int32)) ∧ c.slots[(4 : Int32).toNatClampNeg]? = some (.int (0 : Int32)) ∧ c.slots[(5 : Int32).toNatClampNeg]? = some (.int b11) ∧ c.slots[(6 : Int32).toNatClampNeg]? = some (.int b12) ∧ c.slots[(7 : Int32).toNatClampNeg]? = some (.int b13) ∧ c.slots[(8 : Int32).toNatClampNeg]? = some (.int (0 : Int32)) ∧ c.slots[(9 : Int32).toNatClampNeg]? = some (.int b21) ∧ c.slots[(10 : Int32).toNatClampNeg]? = some (.int b22) ∧ c.slots[(11 : Int32).toNatClampNeg]? = some (.int b23)
set_option maxRecDepth 65536 in
set_option maxHeartbeats 40000000 in
theorem nd23_1_1 (l : Launch) (Z : State) (w0 : Array Value) (hw : ∀ d ∈ tables_1, d.before w0 Z = true) (ws : List Jvm.Cond) (aw ab ar : Addr) (p : Program) (e : Env) (s : State) (m : MethodId) (below : List Frame) (meth : Method) (c : Code) (h0 : Heap) (n0 : Nat) (T0 : State) (locs : List Loc) (X0 : Stand p l e ({ frames := 1, cells := 2, slots := 14, locals := 15 } : Room) s m #[.ref aw, .int (2 : Int32), .int (3 : Int32)] below meth c T0 locs 2 14) (hx : p.tables.exec = Jvm.exec) (hby : c.code = prog_7_method_2_code) (hml : c.maxLocals = 9) (hret : meth.sig.returnType = (some (.array .int))) (hlk : meth.locks = false) (hZ : Z.Warmed39 s.vm) (hh : Heap) (e0 : T0.heap = hh) (Z0 : n0 ≤ hh.size) (N0 : Fr n0 locs) (EX0 : Ext h0 hh) (nar : n0 ≤ ar) (mar : h0.size ≤ ar) (nwr : aw ≠ ar) (nbr : ab ≠ ar) (cw : Cell) (AW : Arr Z hh aw cw .int) (y0 y1 y2 y3 y4 y5 : Int32) (HW : own_W23 cw y0 y1 y2 y3 y4 y5) (cb : Cell) (AB : Arr Z hh ab cb .int) (b11 b12 b13 b21 b22 b23 : Int32) (HB : own_B23 cb b11 b12 b13 b21 b22 b23) (cr : Cell) (AR : Arr Z hh ar cr .int) (SZ : cr.slots.size = 2) (x1 : Int32) (H0 : cr.slots[(0 : Int32).toNatClampNeg]? = some (.int ((-1) : Int32))) (H1 : cr.slots[(1 : Int32).toNatClampNeg]? = some (.int x1)) (x7 x8 : Slot) (O7 : One x7) (O8 : One x8) : Go p e below (EndK s (own_Q2 Z (own_r11 y0 b11, x1) h0 n0) 2 14) T0 (mkF m 131 #[.val (.ref aw), .val (.int (2 : Int32)), .val (.int (3 : Int32)), .val (.ref ab), .val (.ref ar), .val (.int (1 : Int32)), .val (.int (1 : Int32)), x7, x8] []) := by
  refine Go.on (g' := (mkF m 133 _ [(.int (1 : Int32))])) (fun t_ k_ => XS.iload X0.here hx rfl (hb hby d5_131) rfl k_) ?_
  refine Go.ifc X0 hx hby d5_133 (pcT := 237) (pcF := 136) (by decide) (by decide) rfl (fun q => absurd q (by decide)) (fun q => ?_)
  clear q
  show Go p e below _ _ (mkF m 136 _ [])
  refine Go.on (g' := (mkF m 138 _ [(.int (1 : Int32))])) (fun t_ k_ => XS.iload X0.here hx rfl (hb hby d5_136) rfl k_) ?_
  refine Go.ifc X0 hx hby d5_138 (pcT := 237) (pcF := 141) (by decide) (by decide) rfl (fun q => absurd q (by decide)) (fun q => ?_)
  clear q
  show Go p e below _ _ (mkF m 141 _ [])
  refine Go.on (g' := (mkF m 143 _ [(.int (1 : Int32))])) (fun t_ k_ => XS.iload X0.here hx rfl (hb hby d5_141) rfl k_) ?_
  refine Go.on (g' := (mkF m 144 _ [(.int (3 : Int32)), (.int (1 : Int32))])) (fun t_ k_ => XS.iloadN X0.here hx rfl (hb hby d5_143) rfl k_) ?_
  refine Go.on (g' := (mkF m 145 _ [(.int (1 : Int32)), (.int (3 : Int32)), (.int (1 : Int32))])) (fun t_ k_ => XS.iconst X0.here hx rfl (hb hby d5_144) k_) ?_
  refine Go.on (g' := (mkF m 146 _ [(.int ((3 : Int32) + (1 : Int32))), (.int (1 : Int32))])) (fun t_ k_ => XS.iadd X0.here hx rfl (hb hby d5_145) rfl k_) ?_
  rw [show ((3 : Int32) + (1 : Int32)) = (4 : Int32) from by decide]
  refine Go.on (g' := (mkF m 147 _ [(.int ((1 : Int32) * (4 : Int32)))])) (fun t_ k_ => XS.imul X0.here hx rfl (hb hby d5_146) rfl k_) ?_
  rw [show ((1 : Int32) * (4 : Int32)) = (4 : Int32) from by decide]
  refine Go.on (g' := (mkF m 149 _ [(.int (1 : Int32)), (.int (4 : Int32))])) (fun t_ k_ => XS.iload X0.here hx rfl (hb hby d5_147) rfl k_) ?_
  refine Go.on (g' := (mkF m 150 _ [(.int ((4 : Int32) + (1 : Int32)))])) (fun t_ k_ => XS.iadd X0.here hx rfl (hb hby d5_149) rfl k_) ?_
  rw [show ((4 : Int32) + (1 : Int32)) = (5 : Int32) from by decide]
  refine Go.on (g' := (mkF m 152 #[.val (.ref aw), .val (.int (2 : Int32)), .val (.int (3 : Int32)), .val (.ref ab), .val (.ref ar), .val (.int (1 : Int32)), .val (.int (1 : Int32)), .val (.int (5 : Int32)), x8] [])) (fun t_ k_ => XS.istore X0.here hx rfl (hb hby d5_150) rfl (l' := #[.val (.ref aw), .val (.int (2 : Int32)), .val (.int (3 : Int32)), .val (.ref ab), .val (.ref ar), .val (.int (1 : Int32)), .val (.int (1 : Int32)), .val (.int (5 : Int32)), x8]) (XS.store1 (o := x7) rfl O7 rfl) k_) ?_
  refine Go.on (g' := (mkF m 153 _ [(.ref aw)])) (fun t_ k_ => XS.aloadN X0.here hx rfl (hb hby d5_152) rfl rfl k_) ?_
  refine Go.on (g' := (mkF m 155 _ [(.int (1 : Int32)), (.ref aw)])) (fun t_ k_ => XS.iload X0.here hx rfl (hb hby d5_153) rfl k_) ?_
  refine Go.on (g' := (mkF m 156 _ [(.int (1 : Int32)), (.int (1 : Int32)), (.ref aw)])) (fun t_ k_ => XS.iconst X0.here hx rfl (hb hby d5_155) k_) ?_
  refine Go.on (g' := (mkF m 157 _ [(.int ((1 : Int32) - (1 : Int32))), (.ref aw)])) (fun t_ k_ => XS.isub X0.here hx rfl (hb hby d5_156) rfl k_) ?_
  rw [show ((1 : Int32) - (1 : Int32)) = (0 : Int32) from by decide]
  refine Go.on (g' := (mkF m 158 _ [(.int (3 : Int32)), (.int (0 : Int32)), (.ref aw)])) (fun t_ k_ => XS.iloadN X0.here hx rfl (hb hby d5_157) rfl k_) ?_
  refine Go.on (g' := (mkF m 159 _ [(.int ((0 : Int32) * (3 : Int32))), (.ref aw)])) (fun t_ k_ => XS.imul X0.here hx rfl (hb hby d5_158) rfl k_) ?_
  rw [show ((0 : Int32) * (3 : Int32)) = (0 : Int32) from by decide]
  refine Go.on (g' := (mkF m 161 _ [(.int (1 : Int32)), (.int (0 : Int32)), (.ref aw)])) (fun t_ k_ => XS.iload X0.here hx rfl (hb hby d5_159) rfl k_) ?_
  refine Go.on (g' := (mkF m 162 _ [(.int ((0 : Int32) + (1 : Int32))), (.ref aw)])) (fun t_ k_ => XS.iadd X0.here hx rfl (hb hby d5_161) rfl k_) ?_
  rw [show ((0 : Int32) + (1 : Int32)) = (1 : Int32) from by decide]
  refine Go.on (g' := (mkF m 163 _ [(.int (1 : Int32)), (.int (1 : Int32)), (.ref aw)])) (fun t_ k_ => XS.iconst X0.here hx rfl (hb hby d5_162) k_) ?_
  refine Go.on (g' := (mkF m 164 _ [(.int ((1 : Int32) - (1 : Int32))), (.ref aw)])) (fun t_ k_ => XS.isub X0.here hx rfl (hb hby d5_163) rfl k_) ?_
  rw [show ((1 : Int32) - (1 : Int32)) = (0 : Int32) from by decide]
  refine Go.on (g' := (mkF m 165 _ [(.int y0)])) (X0.iaload hx (j := (0 : Int32)) (v := (.int y0)) (by rw [e0]; exact AW.1) (State.isArrayOf_alike hZ.alike AW.2.1) AW.2.2 (by rw [HW.1]; decide) HW.2.1 (g := (mkF m 164 #[.val (.ref aw), .val (.int (2 : Int32)), .val (.int (3 : Int32)), .val (.ref ab), .val (.ref ar), .val (.int (1 : Int32)), .val (.int (1 : Int32)), .val (.int (5 : Int32)), x8] [(.int (0 : Int32)), (.ref aw)])) rfl rfl (hb hby d5_164)) ?_
  refine Go.on (g' := (mkF m 167 #[.val (.ref aw), .val (.int (2 : Int32)), .val (.int (3 : Int32)), .val (.ref ab), .val (.ref ar), .val (.int (1 : Int32)), .val (.int (1 : Int32)), .val (.int (5 : Int32)), .val (.int y0)] [])) (fun t_ k_ => XS.istore X0.here hx rfl (hb hby d5_165) rfl (l' := #[.val (.ref aw), .val (.int (2 : Int32)), .val (.int (3 : Int32)), .val (.ref ab), .val (.ref ar), .val (.int (1 : Int32)), .val (.int (1 : Int32)), .val (.int (5 : Int32)), .val (.int y0)]) (XS.store1 (o := x8) rfl O8 rfl) k_) ?_
  refine Go.on (g' := (mkF m 169 _ [(.int y0)])) (fun t_ k_ => XS.iload X0.here hx rfl (hb hby d5_167) rfl k_) ?_
  refine Go.join (P := fun _ : Unit => ¬ (0 < y0 ∧ b11 = (0 : Int32) + y0)) (g := fun _ => (mkF m 210 #[.val (.ref aw), .val (.int (2 : Int32)), .val (.int (3 : Int32)), .val (.ref ab), .val (.ref ar), .val (.int (1 : Int32)), .val (.int (1 : Int32)), .val (.int (5 : Int32)), .val (.int y0)] [])) (fun _ hJ210 => ?_) (fun J210 => ?_)
  · show Go p e below _ _ (mkF m 210 _ [])
    refine Go.on (g' := (mkF m 211 _ [(.ref ab)])) (fun t_ k_ => XS.aloadN X0.here hx rfl (hb hby d5_210) rfl rfl k_) ?_
    refine Go.on (g' := (mkF m 213 _ [(.int (5 : Int32)), (.ref ab)])) (fun t_ k_ => XS.iload X0.here hx rfl (hb hby d5_211) rfl k_) ?_
    refine Go.on (g' := (mkF m 214 _ [(.int b11)])) (X0.iaload hx (j := (5 : Int32)) (v := (.int b11)) (by rw [e0]; exact AB.1) (State.isArrayOf_alike hZ.alike AB.2.1) AB.2.2 (by rw [HB.1]; decide) HB.2.2.2.2.2.2.1 (g := (mkF m 213 #[.val (.ref aw), .val (.int (2 : Int32)), .val (.int (3 : Int32)), .val (.ref ab), .val (.ref ar), .val (.int (1 : Int32)), .val (.int (1 : Int32)), .val (.int (5 : Int32)), .val (.int y0)] [(.int (5 : Int32)), (.ref ab)])) rfl rfl (hb hby d5_213)) ?_
    refine Go.on (g' := (mkF m 215 _ [(.ref ab), (.int b11)])) (fun t_ k_ => XS.aloadN X0.here hx rfl (hb hby d5_214) rfl rfl k_) ?_
    refine Go.on (g' := (mkF m 217 _ [(.int (5 : Int32)), (.ref ab), (.int b11)])) (fun t_ k_ => XS.iload X0.here hx rfl (hb hby d5_215) rfl k_) ?_
    refine Go.on (g' := (mkF m 218 _ [(.int (3 : Int32)), (.int (5 : Int32)), (.ref ab), (.int b11)])) (fun t_ k_ => XS.iloadN X0.here hx rfl (hb hby d5_217) rfl k_) ?_
    refine Go.on (g' := (mkF m 219 _ [(.int ((5 : Int32) - (3 : Int32))), (.ref ab), (.int b11)])) (fun t_ k_ => XS.isub X0.here hx rfl (hb hby d5_218) rfl k_) ?_
    rw [show ((5 : Int32) - (3 : Int32)) = (2 : Int32) from by decide]
    refine Go.on (g' := (mkF m 220 _ [(.int (1 : Int32)), (.int (2 : Int32)), (.ref ab), (.int b11)])) (fun t_ k_ => XS.iconst X0.here hx rfl (hb hby d5_219) k_) ?_
    refine Go.on (g' := (mkF m 221 _ [(.int ((2 : Int32) - (1 : Int32))), (.ref ab), (.int b11)])) (fun t_ k_ => XS.isub X0.here hx rfl (hb hby d5_220) rfl k_) ?_
    rw [show ((2 : Int32) - (1 : Int32)) = (1 : Int32) from by decide]
    refine Go.on (g' := (mkF m 222 _ [(.int (0 : Int32)), (.int b11)])) (X0.iaload hx (j := (1 : Int32)) (v := (.int (0 : Int32))) (by rw [e0]; exact AB.1) (State.isArrayOf_alike hZ.alike AB.2.1) AB.2.2 (by rw [HB.1]; decide) HB.2.2.1 (g := (mkF m 221 #[.val (.ref aw), .val (.int (2 : Int32)), .val (.int (3 : Int32)), .val (.ref ab), .val (.ref ar), .val (.int (1 : Int32)), .val (.int (1 : Int32)), .val (.int (5 : Int32)), .val (.int y0)] [(.int (1 : Int32)), (.ref ab), (.int b11)])) rfl rfl (hb hby d5_221)) ?_
    refine Go.icmp X0 hx hby d5_222 (pcT := 231) (pcF := 225) (by decide) (by decide) rfl (fun q => ?_) (fun q => ?_)
    · have q1 := iNe.1 q
      clear q
      show Go p e below _ _ (mkF m 231 _ [])
      refine Go.on (g' := (mkF m 234 #[.val (.ref aw), .val (.int (2 : Int32)), .val (.int (3 : Int32)), .val (.ref ab), .val (.ref ar), .val (.int (1 : Int32)), .val (.int ((1 : Int32) + ((-1) : Int32))), .val (.int (5 : Int32)), .val (.int y0)] [])) (fun t_ k_ => XS.iinc X0.here hx rfl (hb hby d5_231) rfl (l' := #[.val (.ref aw), .val (.int (2 : Int32)), .val (.int (3 : Int32)), .val (.ref ab), .val (.ref ar), .val (.int (1 : Int32)), .val (.int ((1 : Int32) + ((-1) : Int32))), .val (.int (5 : Int32)), .val (.int y0)]) rfl k_) ?_
      rw [show ((1 : Int32) + ((-1) : Int32)) = (0 : Int32) from by decide]
      refine Go.on (g' := (mkF m 131 _ [])) (fun t_ k_ => XS.goto X0.here hx rfl (pc0 := 234) (pc' := 131) rfl (hb hby d5_234) (by decide) (by decide) k_) ?_
      refine Go.on (g' := (mkF m 133 _ [(.int (1 : Int32))])) (fun t_ k_ => XS.iload X0.here hx rfl (hb hby d5_131) rfl k_) ?_
      refine Go.ifc X0 hx hby d5_133 (pcT := 237) (pcF := 136) (by decide) (by decide) rfl (fun q => absurd q (by decide)) (fun q => ?_)
      clear q
      show Go p e below _ _ (mkF m 136 _ [])
      refine Go.on (g' := (mkF m 138 _ [(.int (0 : Int32))])) (fun t_ k_ => XS.iload X0.here hx rfl (hb hby d5_136) rfl k_) ?_
      refine Go.ifc X0 hx hby d5_138 (pcT := 237) (pcF := 141) (by decide) (by decide) rfl (fun q => ?_) (fun q => absurd q (by decide))
      clear q
      show Go p e below _ _ (mkF m 237 _ [])
      refine Go.on (g' := (mkF m 239 _ [(.ref ar)])) (fun t_ k_ => XS.aload X0.here hx rfl (hb hby d5_237) rfl rfl k_) ?_
      exact Go.retA X0 hx hlk hret hby d5_239 rfl rfl (by decide) (by decide) (by rw [e0, own_r11, if_neg hJ210]; exact ⟨ar, _, rfl, N0, EX0, mar, AR, SZ, H0, H1⟩)
    · have q1 := iNe.2 q
      clear q
      show Go p e below _ _ (mkF m 225 _ [])
      refine Go.on (g' := (mkF m 228 #[.val (.ref aw), .val (.int (2 : Int32)), .val (.int (3 : Int32)), .val (.ref ab), .val (.ref ar), .val (.int ((1 : Int32) + ((-1) : Int32))), .val (.int (1 : Int32)), .val (.int (5 : Int32)), .val (.int y0)] [])) (fun t_ k_ => XS.iinc X0.here hx rfl (hb hby d5_225) rfl (l' := #[.val (.ref aw), .val (.int (2 : Int32)), .val (.int (3 : Int32)), .val (.ref ab), .val (.ref ar), .val (.int ((1 : Int32) + ((-1) : Int32))), .val (.int (1 : Int32)), .val (.int (5 : Int32)), .val (.int y0)]) rfl k_) ?_
      rw [show ((1 : Int32) + ((-1) : Int32)) = (0 : Int32) from by decide]
      refine Go.on (g' := (mkF m 234 _ [])) (fun t_ k_ => XS.goto X0.here hx rfl (pc0 := 228) (pc' := 234) rfl (hb hby d5_228) (by decide) (by decide) k_) ?_
      refine Go.on (g' := (mkF m 131 _ [])) (fun t_ k_ => XS.goto X0.here hx rfl (pc0 := 234) (pc' := 131) rfl (hb hby d5_234) (by decide) (by decide) k_) ?_
      refine Go.on (g' := (mkF m 133 _ [(.int (0 : Int32))])) (fun t_ k_ => XS.iload X0.here hx rfl (hb hby d5_131) rfl k_) ?_
      refine Go.ifc X0 hx hby d5_133 (pcT := 237) (pcF := 136) (by decide) (by decide) rfl (fun q => ?_) (fun q => absurd q (by decide))
      clear q
      show Go p e below _ _ (mkF m 237 _ [])
      refine Go.on (g' := (mkF m 239 _ [(.ref ar)])) (fun t_ k_ => XS.aload X0.here hx rfl (hb hby d5_237) rfl rfl k_) ?_
      exact Go.retA X0 hx hlk hret hby d5_239 rfl rfl (by decide) (by decide) (by rw [e0, own_r11, if_neg hJ210]; exact ⟨ar, _, rfl, N0, EX0, mar, AR, SZ, H0, H1⟩)
  · show Go p e below _ _ (mkF m 169 _ [(.int y0)])
    refine Go.ifc X0 hx hby d5_169 (pcT := 210) (pcF := 172) (by decide) (by decide) rfl (fun q => ?_) (fun q => ?_)
    · have q2 := iLe.1 q
      clear q
      show Go p e below _ _ (mkF m 210 _ [])
      exact J210 () (fun z => q2 z.1)
    · have q2 := iLe.2 q
      clear q
      show Go p e below _ _ (mkF m 172 _ [])
      refine Go.on (g' := (mkF m 173 _ [(.ref ab)])) (fun t_ k_ => XS.aloadN X0.here hx rfl (hb hby d5_172) rfl rfl k_) ?_
      refine Go.on (g' := (mkF m 175 _ [(.int (5 : Int32)), (.ref ab)])) (fun t_ k_ => XS.iload X0.here hx rfl (hb hby d5_173) rfl k_) ?_
      refine Go.on (g' := (mkF m 176 _ [(.int b11)])) (X0.iaload hx (j := (5 : Int32)) (v := (.int b11)) (by rw [e0]; exact AB.1) (State.isArrayOf_alike hZ.alike AB.2.1) AB.2.2 (by rw [HB.1]; decide) HB.2.2.2.2.2.2.1 (g := (mkF m 175 #[.val (.ref aw), .val (.int (2 : Int32)), .val (.int (3 : Int32)), .val (.ref ab), .val (.ref ar), .val (.int (1 : Int32)), .val (.int (1 : Int32)), .val (.int (5 : Int32)), .val (.int y0)] [(.int (5 : Int32)), (.ref ab)])) rfl rfl (hb hby d5_175)) ?_
      refine Go.on (g' := (mkF m 177 _ [(.ref ab), (.int b11)])) (fun t_ k_ => XS.aloadN X0.here hx rfl (hb hby d5_176) rfl rfl k_) ?_
      refine Go.on (g' := (mkF m 179 _ [(.int (5 : Int32)), (.ref ab), (.int b11)])) (fun t_ k_ => XS.iload X0.here hx rfl (hb hby d5_177) rfl k_) ?_
      refine Go.on (g' := (mkF m 180 _ [(.int (3 : Int32)), (.int (5 : Int32)), (.ref ab), (.int b11)])) (fun t_ k_ => XS.iloadN X0.here hx rfl (hb hby d5_179) rfl k_) ?_
      refine Go.on (g' := (mkF m 181 _ [(.int ((5 : Int32) - (3 : Int32))), (.ref ab), (.int b11)])) (fun t_ k_ => XS.isub X0.here hx rfl (hb hby d5_180) rfl k_) ?_
      rw [show ((5 : Int32) - (3 : Int32)) = (2 : Int32) from by decide]
      refine Go.on (g' := (mkF m 182 _ [(.int (2 : Int32)), (.int (2 : Int32)), (.ref ab), (.int b11)])) (fun t_ k_ => XS.iconst X0.here hx rfl (hb hby d5_181) k_) ?_
      refine Go.on (g' := (mkF m 183 _ [(.int ((2 : Int32) - (2 : Int32))), (.ref ab), (.int b11)])) (fun t_ k_ => XS.isub X0.here hx rfl (hb hby d5_182) rfl k_) ?_
      rw [show ((2 : Int32) - (2 : Int32)) = (0 : Int32) from by decide]
      refine Go.on (g' := (mkF m 184 _ [(.int (0 : Int32)), (.int b11)])) (X0.iaload hx (j := (0 : Int32)) (v := (.int (0 : Int32))) (by rw [e0]; exact AB.1) (State.isArrayOf_alike hZ.alike AB.2.1) AB.2.2 (by rw [HB.1]; decide) HB.2.1 (g := (mkF m 183 #[.val (.ref aw), .val (.int (2 : Int32)), .val (.int (3 : Int32)), .val (.ref ab), .val (.ref ar), .val (.int (1 : Int32)), .val (.int (1 : Int32)), .val (.int (5 : Int32)), .val (.int y0)] [(.int (0 : Int32)), (.ref ab), (.int b11)])) rfl rfl (hb hby d5_183)) ?_
      refine Go.on (g' := (mkF m 186 _ [(.int y0), (.int (0 : Int32)), (.int b11)])) (fun t_ k_ => XS.iload X0.here hx rfl (hb hby d5_184) rfl k_) ?_
      refine Go.on (g' := (mkF m 187 _ [(.int ((0 : Int32) + y0)), (.int b11)])) (fun t_ k_ => XS.iadd X0.here hx rfl (hb hby d5_186) rfl k_) ?_
      refine Go.icmp X0 hx hby d5_187 (pcT := 210) (pcF := 190) (by decide) (by decide) rfl (fun q => ?_) (fun q => ?_)
      · have q3 := iNe.1 q
        clear q
        show Go p e below _ _ (mkF m 210 _ [])
        exact J210 () (fun z => q3 z.2)
      · have q3 := iNe.2 q
        clear q
        show Go p e below _ _ (mkF m 190 _ [])
        refine Go.on (g' := (mkF m 192 _ [(.ref ar)])) (fun t_ k_ => XS.aload X0.here hx rfl (hb hby d5_190) rfl rfl k_) ?_
        refine Go.on (g' := (mkF m 194 _ [(.int (1 : Int32)), (.ref ar)])) (fun t_ k_ => XS.iload X0.here hx rfl (hb hby d5_192) rfl k_) ?_
        refine Go.on (g' := (mkF m 195 _ [(.int (1 : Int32)), (.int (1 : Int32)), (.ref ar)])) (fun t_ k_ => XS.iconst X0.here hx rfl (hb hby d5_194) k_) ?_
        refine Go.on (g' := (mkF m 196 _ [(.int ((1 : Int32) - (1 : Int32))), (.ref ar)])) (fun t_ k_ => XS.isub X0.here hx rfl (hb hby d5_195) rfl k_) ?_
        rw [show ((1 : Int32) - (1 : Int32)) = (0 : Int32) from by decide]
        refine Go.on (g' := (mkF m 198 _ [(.int (1 : Int32)), (.int (0 : Int32)), (.ref ar)])) (fun t_ k_ => XS.iload X0.here hx rfl (hb hby d5_196) rfl k_) ?_
        refine Go.on (g' := (mkF m 199 _ [(.int (1 : Int32)), (.int (1 : Int32)), (.int (0 : Int32)), (.ref ar)])) (fun t_ k_ => XS.iconst X0.here hx rfl (hb hby d5_198) k_) ?_
        refine Go.on (g' := (mkF m 200 _ [(.int ((1 : Int32) - (1 : Int32))), (.int (0 : Int32)), (.ref ar)])) (fun t_ k_ => XS.isub X0.here hx rfl (hb hby d5_199) rfl k_) ?_
        rw [show ((1 : Int32) - (1 : Int32)) = (0 : Int32) from by decide]
        have hi_200 : ¬ ((0 : Int32) < 0 ∨ cr.slots.size ≤ ((0 : Int32)).toNatClampNeg) := by rw [SZ]; decide
        obtain ⟨T1, h1, X1, e1, W1, st1⟩ := stI X0 hx hZ e0 AR (j := (0 : Int32)) hi_200 (g := (mkF m 200 #[.val (.ref aw), .val (.int (2 : Int32)), .val (.int (3 : Int32)), .val (.ref ab), .val (.ref ar), .val (.int (1 : Int32)), .val (.int (1 : Int32)), .val (.int (5 : Int32)), .val (.int y0)] [(.int (0 : Int32)), (.int (0 : Int32)), (.ref ar)])) rfl rfl (hb hby d5_200)
        have N1 := Fr.snoc X1 N0 nar
        have Z1 : n0 ≤ h1.size := by rw [W1.size]; exact Z0
        have arr_aw_1 := AW.other W1 nwr
        have arr_ab_1 := AB.other W1 nbr
        have EX_1 := extWr EX0 W1 mar
        have A1 := AR.same W1
        refine Go.on (g' := (mkF m 201 _ [])) (st1) ?_
        have sz1 := (sz_set cr ((0 : Int32)).toNatClampNeg (.int (0 : Int32))).trans SZ
        have hr0_1 := get_hit (v := .int (0 : Int32)) hi_200 (rfl : (0 : Int32) = (0 : Int32))
        have hr1_1 := (get_miss (c := cr) (j := (0 : Int32)) (k := (1 : Int32)) (v := .int (0 : Int32)) (by decide) (by decide) (by decide)).trans H1
        refine Go.on (g' := (mkF m 204 #[.val (.ref aw), .val (.int (2 : Int32)), .val (.int (3 : Int32)), .val (.ref ab), .val (.ref ar), .val (.int ((1 : Int32) + ((-1) : Int32))), .val (.int (1 : Int32)), .val (.int (5 : Int32)), .val (.int y0)] [])) (fun t_ k_ => XS.iinc X1.here hx rfl (hb hby d5_201) rfl (l' := #[.val (.ref aw), .val (.int (2 : Int32)), .val (.int (3 : Int32)), .val (.ref ab), .val (.ref ar), .val (.int ((1 : Int32) + ((-1) : Int32))), .val (.int (1 : Int32)), .val (.int (5 : Int32)), .val (.int y0)]) rfl k_) ?_
        rw [show ((1 : Int32) + ((-1) : Int32)) = (0 : Int32) from by decide]
        refine Go.on (g' := (mkF m 207 #[.val (.ref aw), .val (.int (2 : Int32)), .val (.int (3 : Int32)), .val (.ref ab), .val (.ref ar), .val (.int (0 : Int32)), .val (.int ((1 : Int32) + ((-1) : Int32))), .val (.int (5 : Int32)), .val (.int y0)] [])) (fun t_ k_ => XS.iinc X1.here hx rfl (hb hby d5_204) rfl (l' := #[.val (.ref aw), .val (.int (2 : Int32)), .val (.int (3 : Int32)), .val (.ref ab), .val (.ref ar), .val (.int (0 : Int32)), .val (.int ((1 : Int32) + ((-1) : Int32))), .val (.int (5 : Int32)), .val (.int y0)]) rfl k_) ?_
        rw [show ((1 : Int32) + ((-1) : Int32)) = (0 : Int32) from by decide]
        refine Go.on (g' := (mkF m 234 _ [])) (fun t_ k_ => XS.goto X1.here hx rfl (pc0 := 207) (pc' := 234) rfl (hb hby d5_207) (by decide) (by decide) k_) ?_
        refine Go.on (g' := (mkF m 131 _ [])) (fun t_ k_ => XS.goto X1.here hx rfl (pc0 := 234) (pc' := 131) rfl (hb hby d5_234) (by decide) (by decide) k_) ?_
        refine Go.on (g' := (mkF m 133 _ [(.int (0 : Int32))])) (fun t_ k_ => XS.iload X1.here hx rfl (hb hby d5_131) rfl k_) ?_
        refine Go.ifc X1 hx hby d5_133 (pcT := 237) (pcF := 136) (by decide) (by decide) rfl (fun q => ?_) (fun q => absurd q (by decide))
        clear q
        show Go p e below _ _ (mkF m 237 _ [])
        refine Go.on (g' := (mkF m 239 _ [(.ref ar)])) (fun t_ k_ => XS.aload X1.here hx rfl (hb hby d5_237) rfl rfl k_) ?_
        exact Go.retA X1 hx hlk hret hby d5_239 rfl rfl (by decide) (by decide) (by rw [e1, own_r11, if_pos ⟨q2, q3⟩]; exact ⟨ar, _, rfl, N1, EX_1, mar, A1, sz1, hr0_1, hr1_1⟩)
set_option maxRecDepth 65536 in
set_option maxHeartbeats 40000000 in
theorem nd23_1_2 (l : Launch) (Z : State) (w0 : Array Value) (hw : ∀ d ∈ tables_1, d.before w0 Z = true) (ws : List Jvm.Cond) (aw ab ar : Addr) (p : Program) (e : Env) (s : State) (m : MethodId) (below : List Frame) (meth : Method) (c : Code) (h0 : Heap) (n0 : Nat) (T0 : State) (locs : List Loc) (X0 : Stand p l e ({ frames := 1, cells := 2, slots := 14, locals := 15 } : Room) s m #[.ref aw, .int (2 : Int32), .int (3 : Int32)] below meth c T0 locs 2 14) (hx : p.tables.exec = Jvm.exec) (hby : c.code = prog_7_method_2_code) (hml : c.maxLocals = 9) (hret : meth.sig.returnType = (some (.array .int))) (hlk : meth.locks = false) (hZ : Z.Warmed39 s.vm) (hh : Heap) (e0 : T0.heap = hh) (Z0 : n0 ≤ hh.size) (N0 : Fr n0 locs) (EX0 : Ext h0 hh) (nar : n0 ≤ ar) (mar : h0.size ≤ ar) (nwr : aw ≠ ar) (nbr : ab ≠ ar) (cw : Cell) (AW : Arr Z hh aw cw .int) (y0 y1 y2 y3 y4 y5 : Int32) (HW : own_W23 cw y0 y1 y2 y3 y4 y5) (cb : Cell) (AB : Arr Z hh ab cb .int) (b11 b12 b13 b21 b22 b23 : Int32) (HB : own_B23 cb b11 b12 b13 b21 b22 b23) (cr : Cell) (AR : Arr Z hh ar cr .int) (SZ : cr.slots.size = 2) (x1 : Int32) (H0 : cr.slots[(0 : Int32).toNatClampNeg]? = some (.int ((-1) : Int32))) (H1 : cr.slots[(1 : Int32).toNatClampNeg]? = some (.int x1)) (x7 x8 : Slot) (O7 : One x7) (O8 : One x8) : Go p e below (EndK s (own_Q2 Z (own_r12 y0 y1 b11 b12, x1) h0 n0) 2 14) T0 (mkF m 131 #[.val (.ref aw), .val (.int (2 : Int32)), .val (.int (3 : Int32)), .val (.ref ab), .val (.ref ar), .val (.int (1 : Int32)), .val (.int (2 : Int32)), x7, x8] []) := by
  refine Go.on (g' := (mkF m 133 _ [(.int (1 : Int32))])) (fun t_ k_ => XS.iload X0.here hx rfl (hb hby d5_131) rfl k_) ?_
  refine Go.ifc X0 hx hby d5_133 (pcT := 237) (pcF := 136) (by decide) (by decide) rfl (fun q => absurd q (by decide)) (fun q => ?_)
  clear q
  show Go p e below _ _ (mkF m 136 _ [])
  refine Go.on (g' := (mkF m 138 _ [(.int (2 : Int32))])) (fun t_ k_ => XS.iload X0.here hx rfl (hb hby d5_136) rfl k_) ?_
  refine Go.ifc X0 hx hby d5_138 (pcT := 237) (pcF := 141) (by decide) (by decide) rfl (fun q => absurd q (by decide)) (fun q => ?_)
  clear q
  show Go p e below _ _ (mkF m 141 _ [])
  refine Go.on (g' := (mkF m 143 _ [(.int (1 : Int32))])) (fun t_ k_ => XS.iload X0.here hx rfl (hb hby d5_141) rfl k_) ?_
  refine Go.on (g' := (mkF m 144 _ [(.int (3 : Int32)), (.int (1 : Int32))])) (fun t_ k_ => XS.iloadN X0.here hx rfl (hb hby d5_143) rfl k_) ?_
  refine Go.on (g' := (mkF m 145 _ [(.int (1 : Int32)), (.int (3 : Int32)), (.int (1 : Int32))])) (fun t_ k_ => XS.iconst X0.here hx rfl (hb hby d5_144) k_) ?_
  refine Go.on (g' := (mkF m 146 _ [(.int ((3 : Int32) + (1 : Int32))), (.int (1 : Int32))])) (fun t_ k_ => XS.iadd X0.here hx rfl (hb hby d5_145) rfl k_) ?_
  rw [show ((3 : Int32) + (1 : Int32)) = (4 : Int32) from by decide]
  refine Go.on (g' := (mkF m 147 _ [(.int ((1 : Int32) * (4 : Int32)))])) (fun t_ k_ => XS.imul X0.here hx rfl (hb hby d5_146) rfl k_) ?_
  rw [show ((1 : Int32) * (4 : Int32)) = (4 : Int32) from by decide]
  refine Go.on (g' := (mkF m 149 _ [(.int (2 : Int32)), (.int (4 : Int32))])) (fun t_ k_ => XS.iload X0.here hx rfl (hb hby d5_147) rfl k_) ?_
  refine Go.on (g' := (mkF m 150 _ [(.int ((4 : Int32) + (2 : Int32)))])) (fun t_ k_ => XS.iadd X0.here hx rfl (hb hby d5_149) rfl k_) ?_
  rw [show ((4 : Int32) + (2 : Int32)) = (6 : Int32) from by decide]
  refine Go.on (g' := (mkF m 152 #[.val (.ref aw), .val (.int (2 : Int32)), .val (.int (3 : Int32)), .val (.ref ab), .val (.ref ar), .val (.int (1 : Int32)), .val (.int (2 : Int32)), .val (.int (6 : Int32)), x8] [])) (fun t_ k_ => XS.istore X0.here hx rfl (hb hby d5_150) rfl (l' := #[.val (.ref aw), .val (.int (2 : Int32)), .val (.int (3 : Int32)), .val (.ref ab), .val (.ref ar), .val (.int (1 : Int32)), .val (.int (2 : Int32)), .val (.int (6 : Int32)), x8]) (XS.store1 (o := x7) rfl O7 rfl) k_) ?_
  refine Go.on (g' := (mkF m 153 _ [(.ref aw)])) (fun t_ k_ => XS.aloadN X0.here hx rfl (hb hby d5_152) rfl rfl k_) ?_
  refine Go.on (g' := (mkF m 155 _ [(.int (1 : Int32)), (.ref aw)])) (fun t_ k_ => XS.iload X0.here hx rfl (hb hby d5_153) rfl k_) ?_
  refine Go.on (g' := (mkF m 156 _ [(.int (1 : Int32)), (.int (1 : Int32)), (.ref aw)])) (fun t_ k_ => XS.iconst X0.here hx rfl (hb hby d5_155) k_) ?_
  refine Go.on (g' := (mkF m 157 _ [(.int ((1 : Int32) - (1 : Int32))), (.ref aw)])) (fun t_ k_ => XS.isub X0.here hx rfl (hb hby d5_156) rfl k_) ?_
  rw [show ((1 : Int32) - (1 : Int32)) = (0 : Int32) from by decide]
  refine Go.on (g' := (mkF m 158 _ [(.int (3 : Int32)), (.int (0 : Int32)), (.ref aw)])) (fun t_ k_ => XS.iloadN X0.here hx rfl (hb hby d5_157) rfl k_) ?_
  refine Go.on (g' := (mkF m 159 _ [(.int ((0 : Int32) * (3 : Int32))), (.ref aw)])) (fun t_ k_ => XS.imul X0.here hx rfl (hb hby d5_158) rfl k_) ?_
  rw [show ((0 : Int32) * (3 : Int32)) = (0 : Int32) from by decide]
  refine Go.on (g' := (mkF m 161 _ [(.int (2 : Int32)), (.int (0 : Int32)), (.ref aw)])) (fun t_ k_ => XS.iload X0.here hx rfl (hb hby d5_159) rfl k_) ?_
  refine Go.on (g' := (mkF m 162 _ [(.int ((0 : Int32) + (2 : Int32))), (.ref aw)])) (fun t_ k_ => XS.iadd X0.here hx rfl (hb hby d5_161) rfl k_) ?_
  rw [show ((0 : Int32) + (2 : Int32)) = (2 : Int32) from by decide]
  refine Go.on (g' := (mkF m 163 _ [(.int (1 : Int32)), (.int (2 : Int32)), (.ref aw)])) (fun t_ k_ => XS.iconst X0.here hx rfl (hb hby d5_162) k_) ?_
  refine Go.on (g' := (mkF m 164 _ [(.int ((2 : Int32) - (1 : Int32))), (.ref aw)])) (fun t_ k_ => XS.isub X0.here hx rfl (hb hby d5_163) rfl k_) ?_
  rw [show ((2 : Int32) - (1 : Int32)) = (1 : Int32) from by decide]
  refine Go.on (g' := (mkF m 165 _ [(.int y1)])) (X0.iaload hx (j := (1 : Int32)) (v := (.int y1)) (by rw [e0]; exact AW.1) (State.isArrayOf_alike hZ.alike AW.2.1) AW.2.2 (by rw [HW.1]; decide) HW.2.2.1 (g := (mkF m 164 #[.val (.ref aw), .val (.int (2 : Int32)), .val (.int (3 : Int32)), .val (.ref ab), .val (.ref ar), .val (.int (1 : Int32)), .val (.int (2 : Int32)), .val (.int (6 : Int32)), x8] [(.int (1 : Int32)), (.ref aw)])) rfl rfl (hb hby d5_164)) ?_
  refine Go.on (g' := (mkF m 167 #[.val (.ref aw), .val (.int (2 : Int32)), .val (.int (3 : Int32)), .val (.ref ab), .val (.ref ar), .val (.int (1 : Int32)), .val (.int (2 : Int32)), .val (.int (6 : Int32)), .val (.int y1)] [])) (fun t_ k_ => XS.istore X0.here hx rfl (hb hby d5_165) rfl (l' := #[.val (.ref aw), .val (.int (2 : Int32)), .val (.int (3 : Int32)), .val (.ref ab), .val (.ref ar), .val (.int (1 : Int32)), .val (.int (2 : Int32)), .val (.int (6 : Int32)), .val (.int y1)]) (XS.store1 (o := x8) rfl O8 rfl) k_) ?_
  refine Go.on (g' := (mkF m 169 _ [(.int y1)])) (fun t_ k_ => XS.iload X0.here hx rfl (hb hby d5_167) rfl k_) ?_
  refine Go.join (P := fun _ : Unit => ¬ (0 < y1 ∧ b12 = (0 : Int32) + y1)) (g := fun _ => (mkF m 210 #[.val (.ref aw), .val (.int (2 : Int32)), .val (.int (3 : Int32)), .val (.ref ab), .val (.ref ar), .val (.int (1 : Int32)), .val (.int (2 : Int32)), .val (.int (6 : Int32)), .val (.int y1)] [])) (fun _ hJ210 => ?_) (fun J210 => ?_)
  · show Go p e below _ _ (mkF m 210 _ [])
    refine Go.on (g' := (mkF m 211 _ [(.ref ab)])) (fun t_ k_ => XS.aloadN X0.here hx rfl (hb hby d5_210) rfl rfl k_) ?_
    refine Go.on (g' := (mkF m 213 _ [(.int (6 : Int32)), (.ref ab)])) (fun t_ k_ => XS.iload X0.here hx rfl (hb hby d5_211) rfl k_) ?_
    refine Go.on (g' := (mkF m 214 _ [(.int b12)])) (X0.iaload hx (j := (6 : Int32)) (v := (.int b12)) (by rw [e0]; exact AB.1) (State.isArrayOf_alike hZ.alike AB.2.1) AB.2.2 (by rw [HB.1]; decide) HB.2.2.2.2.2.2.2.1 (g := (mkF m 213 #[.val (.ref aw), .val (.int (2 : Int32)), .val (.int (3 : Int32)), .val (.ref ab), .val (.ref ar), .val (.int (1 : Int32)), .val (.int (2 : Int32)), .val (.int (6 : Int32)), .val (.int y1)] [(.int (6 : Int32)), (.ref ab)])) rfl rfl (hb hby d5_213)) ?_
    refine Go.on (g' := (mkF m 215 _ [(.ref ab), (.int b12)])) (fun t_ k_ => XS.aloadN X0.here hx rfl (hb hby d5_214) rfl rfl k_) ?_
    refine Go.on (g' := (mkF m 217 _ [(.int (6 : Int32)), (.ref ab), (.int b12)])) (fun t_ k_ => XS.iload X0.here hx rfl (hb hby d5_215) rfl k_) ?_
    refine Go.on (g' := (mkF m 218 _ [(.int (3 : Int32)), (.int (6 : Int32)), (.ref ab), (.int b12)])) (fun t_ k_ => XS.iloadN X0.here hx rfl (hb hby d5_217) rfl k_) ?_
    refine Go.on (g' := (mkF m 219 _ [(.int ((6 : Int32) - (3 : Int32))), (.ref ab), (.int b12)])) (fun t_ k_ => XS.isub X0.here hx rfl (hb hby d5_218) rfl k_) ?_
    rw [show ((6 : Int32) - (3 : Int32)) = (3 : Int32) from by decide]
    refine Go.on (g' := (mkF m 220 _ [(.int (1 : Int32)), (.int (3 : Int32)), (.ref ab), (.int b12)])) (fun t_ k_ => XS.iconst X0.here hx rfl (hb hby d5_219) k_) ?_
    refine Go.on (g' := (mkF m 221 _ [(.int ((3 : Int32) - (1 : Int32))), (.ref ab), (.int b12)])) (fun t_ k_ => XS.isub X0.here hx rfl (hb hby d5_220) rfl k_) ?_
    rw [show ((3 : Int32) - (1 : Int32)) = (2 : Int32) from by decide]
    refine Go.on (g' := (mkF m 222 _ [(.int (0 : Int32)), (.int b12)])) (X0.iaload hx (j := (2 : Int32)) (v := (.int (0 : Int32))) (by rw [e0]; exact AB.1) (State.isArrayOf_alike hZ.alike AB.2.1) AB.2.2 (by rw [HB.1]; decide) HB.2.2.2.1 (g := (mkF m 221 #[.val (.ref aw), .val (.int (2 : Int32)), .val (.int (3 : Int32)), .val (.ref ab), .val (.ref ar), .val (.int (1 : Int32)), .val (.int (2 : Int32)), .val (.int (6 : Int32)), .val (.int y1)] [(.int (2 : Int32)), (.ref ab), (.int b12)])) rfl rfl (hb hby d5_221)) ?_
    refine Go.icmp X0 hx hby d5_222 (pcT := 231) (pcF := 225) (by decide) (by decide) rfl (fun q => ?_) (fun q => ?_)
    · have q1 := iNe.1 q
      clear q
      show Go p e below _ _ (mkF m 231 _ [])
      refine Go.on (g' := (mkF m 234 #[.val (.ref aw), .val (.int (2 : Int32)), .val (.int (3 : Int32)), .val (.ref ab), .val (.ref ar), .val (.int (1 : Int32)), .val (.int ((2 : Int32) + ((-1) : Int32))), .val (.int (6 : Int32)), .val (.int y1)] [])) (fun t_ k_ => XS.iinc X0.here hx rfl (hb hby d5_231) rfl (l' := #[.val (.ref aw), .val (.int (2 : Int32)), .val (.int (3 : Int32)), .val (.ref ab), .val (.ref ar), .val (.int (1 : Int32)), .val (.int ((2 : Int32) + ((-1) : Int32))), .val (.int (6 : Int32)), .val (.int y1)]) rfl k_) ?_
      rw [show ((2 : Int32) + ((-1) : Int32)) = (1 : Int32) from by decide]
      refine Go.on (g' := (mkF m 131 _ [])) (fun t_ k_ => XS.goto X0.here hx rfl (pc0 := 234) (pc' := 131) rfl (hb hby d5_234) (by decide) (by decide) k_) ?_
      rw [own_r12, if_neg hJ210, if_neg q1]
      exact nd23_1_1 l Z w0 hw ws aw ab ar p e s m below meth c h0 n0 T0 _ X0 hx hby hml hret hlk hZ _ e0 Z0 N0 EX0 nar mar nwr nbr cw AW y0 y1 y2 y3 y4 y5 HW cb AB b11 b12 b13 b21 b22 b23 HB _ AR SZ x1 H0 H1 (.val (.int (6 : Int32))) (.val (.int y1)) (One.val rfl) (One.val rfl)
    · have q1 := iNe.2 q
      clear q
      show Go p e below _ _ (mkF m 225 _ [])
      refine Go.on (g' := (mkF m 228 #[.val (.ref aw), .val (.int (2 : Int32)), .val (.int (3 : Int32)), .val (.ref ab), .val (.ref ar), .val (.int ((1 : Int32) + ((-1) : Int32))), .val (.int (2 : Int32)), .val (.int (6 : Int32)), .val (.int y1)] [])) (fun t_ k_ => XS.iinc X0.here hx rfl (hb hby d5_225) rfl (l' := #[.val (.ref aw), .val (.int (2 : Int32)), .val (.int (3 : Int32)), .val (.ref ab), .val (.ref ar), .val (.int ((1 : Int32) + ((-1) : Int32))), .val (.int (2 : Int32)), .val (.int (6 : Int32)), .val (.int y1)]) rfl k_) ?_
      rw [show ((1 : Int32) + ((-1) : Int32)) = (0 : Int32) from by decide]
      refine Go.on (g' := (mkF m 234 _ [])) (fun t_ k_ => XS.goto X0.here hx rfl (pc0 := 228) (pc' := 234) rfl (hb hby d5_228) (by decide) (by decide) k_) ?_
      refine Go.on (g' := (mkF m 131 _ [])) (fun t_ k_ => XS.goto X0.here hx rfl (pc0 := 234) (pc' := 131) rfl (hb hby d5_234) (by decide) (by decide) k_) ?_
      refine Go.on (g' := (mkF m 133 _ [(.int (0 : Int32))])) (fun t_ k_ => XS.iload X0.here hx rfl (hb hby d5_131) rfl k_) ?_
      refine Go.ifc X0 hx hby d5_133 (pcT := 237) (pcF := 136) (by decide) (by decide) rfl (fun q => ?_) (fun q => absurd q (by decide))
      clear q
      show Go p e below _ _ (mkF m 237 _ [])
      refine Go.on (g' := (mkF m 239 _ [(.ref ar)])) (fun t_ k_ => XS.aload X0.here hx rfl (hb hby d5_237) rfl rfl k_) ?_
      exact Go.retA X0 hx hlk hret hby d5_239 rfl rfl (by decide) (by decide) (by rw [e0, own_r12, if_neg hJ210, if_pos q1]; exact ⟨ar, _, rfl, N0, EX0, mar, AR, SZ, H0, H1⟩)
  · show Go p e below _ _ (mkF m 169 _ [(.int y1)])
    refine Go.ifc X0 hx hby d5_169 (pcT := 210) (pcF := 172) (by decide) (by decide) rfl (fun q => ?_) (fun q => ?_)
    · have q2 := iLe.1 q
      clear q
      show Go p e below _ _ (mkF m 210 _ [])
      exact J210 () (fun z => q2 z.1)
    · have q2 := iLe.2 q
      clear q
      show Go p e below _ _ (mkF m 172 _ [])
      refine Go.on (g' := (mkF m 173 _ [(.ref ab)])) (fun t_ k_ => XS.aloadN X0.here hx rfl (hb hby d5_172) rfl rfl k_) ?_
      refine Go.on (g' := (mkF m 175 _ [(.int (6 : Int32)), (.ref ab)])) (fun t_ k_ => XS.iload X0.here hx rfl (hb hby d5_173) rfl k_) ?_
      refine Go.on (g' := (mkF m 176 _ [(.int b12)])) (X0.iaload hx (j := (6 : Int32)) (v := (.int b12)) (by rw [e0]; exact AB.1) (State.isArrayOf_alike hZ.alike AB.2.1) AB.2.2 (by rw [HB.1]; decide) HB.2.2.2.2.2.2.2.1 (g := (mkF m 175 #[.val (.ref aw), .val (.int (2 : Int32)), .val (.int (3 : Int32)), .val (.ref ab), .val (.ref ar), .val (.int (1 : Int32)), .val (.int (2 : Int32)), .val (.int (6 : Int32)), .val (.int y1)] [(.int (6 : Int32)), (.ref ab)])) rfl rfl (hb hby d5_175)) ?_
      refine Go.on (g' := (mkF m 177 _ [(.ref ab), (.int b12)])) (fun t_ k_ => XS.aloadN X0.here hx rfl (hb hby d5_176) rfl rfl k_) ?_
      refine Go.on (g' := (mkF m 179 _ [(.int (6 : Int32)), (.ref ab), (.int b12)])) (fun t_ k_ => XS.iload X0.here hx rfl (hb hby d5_177) rfl k_) ?_
      refine Go.on (g' := (mkF m 180 _ [(.int (3 : Int32)), (.int (6 : Int32)), (.ref ab), (.int b12)])) (fun t_ k_ => XS.iloadN X0.here hx rfl (hb hby d5_179) rfl k_) ?_
      refine Go.on (g' := (mkF m 181 _ [(.int ((6 : Int32) - (3 : Int32))), (.ref ab), (.int b12)])) (fun t_ k_ => XS.isub X0.here hx rfl (hb hby d5_180) rfl k_) ?_
      rw [show ((6 : Int32) - (3 : Int32)) = (3 : Int32) from by decide]
      refine Go.on (g' := (mkF m 182 _ [(.int (2 : Int32)), (.int (3 : Int32)), (.ref ab), (.int b12)])) (fun t_ k_ => XS.iconst X0.here hx rfl (hb hby d5_181) k_) ?_
      refine Go.on (g' := (mkF m 183 _ [(.int ((3 : Int32) - (2 : Int32))), (.ref ab), (.int b12)])) (fun t_ k_ => XS.isub X0.here hx rfl (hb hby d5_182) rfl k_) ?_
      rw [show ((3 : Int32) - (2 : Int32)) = (1 : Int32) from by decide]
      refine Go.on (g' := (mkF m 184 _ [(.int (0 : Int32)), (.int b12)])) (X0.iaload hx (j := (1 : Int32)) (v := (.int (0 : Int32))) (by rw [e0]; exact AB.1) (State.isArrayOf_alike hZ.alike AB.2.1) AB.2.2 (by rw [HB.1]; decide) HB.2.2.1 (g := (mkF m 183 #[.val (.ref aw), .val (.int (2 : Int32)), .val (.int (3 : Int32)), .val (.ref ab), .val (.ref ar), .val (.int (1 : Int32)), .val (.int (2 : Int32)), .val (.int (6 : Int32)), .val (.int y1)] [(.int (1 : Int32)), (.ref ab), (.int b12)])) rfl rfl (hb hby d5_183)) ?_
      refine Go.on (g' := (mkF m 186 _ [(.int y1), (.int (0 : Int32)), (.int b12)])) (fun t_ k_ => XS.iload X0.here hx rfl (hb hby d5_184) rfl k_) ?_
      refine Go.on (g' := (mkF m 187 _ [(.int ((0 : Int32) + y1)), (.int b12)])) (fun t_ k_ => XS.iadd X0.here hx rfl (hb hby d5_186) rfl k_) ?_
      refine Go.icmp X0 hx hby d5_187 (pcT := 210) (pcF := 190) (by decide) (by decide) rfl (fun q => ?_) (fun q => ?_)
      · have q3 := iNe.1 q
        clear q
        show Go p e below _ _ (mkF m 210 _ [])
        exact J210 () (fun z => q3 z.2)
      · have q3 := iNe.2 q
        clear q
        show Go p e below _ _ (mkF m 190 _ [])
        refine Go.on (g' := (mkF m 192 _ [(.ref ar)])) (fun t_ k_ => XS.aload X0.here hx rfl (hb hby d5_190) rfl rfl k_) ?_
        refine Go.on (g' := (mkF m 194 _ [(.int (1 : Int32)), (.ref ar)])) (fun t_ k_ => XS.iload X0.here hx rfl (hb hby d5_192) rfl k_) ?_
        refine Go.on (g' := (mkF m 195 _ [(.int (1 : Int32)), (.int (1 : Int32)), (.ref ar)])) (fun t_ k_ => XS.iconst X0.here hx rfl (hb hby d5_194) k_) ?_
        refine Go.on (g' := (mkF m 196 _ [(.int ((1 : Int32) - (1 : Int32))), (.ref ar)])) (fun t_ k_ => XS.isub X0.here hx rfl (hb hby d5_195) rfl k_) ?_
        rw [show ((1 : Int32) - (1 : Int32)) = (0 : Int32) from by decide]
        refine Go.on (g' := (mkF m 198 _ [(.int (2 : Int32)), (.int (0 : Int32)), (.ref ar)])) (fun t_ k_ => XS.iload X0.here hx rfl (hb hby d5_196) rfl k_) ?_
        refine Go.on (g' := (mkF m 199 _ [(.int (1 : Int32)), (.int (2 : Int32)), (.int (0 : Int32)), (.ref ar)])) (fun t_ k_ => XS.iconst X0.here hx rfl (hb hby d5_198) k_) ?_
        refine Go.on (g' := (mkF m 200 _ [(.int ((2 : Int32) - (1 : Int32))), (.int (0 : Int32)), (.ref ar)])) (fun t_ k_ => XS.isub X0.here hx rfl (hb hby d5_199) rfl k_) ?_
        rw [show ((2 : Int32) - (1 : Int32)) = (1 : Int32) from by decide]
        have hi_200 : ¬ ((0 : Int32) < 0 ∨ cr.slots.size ≤ ((0 : Int32)).toNatClampNeg) := by rw [SZ]; decide
        obtain ⟨T1, h1, X1, e1, W1, st1⟩ := stI X0 hx hZ e0 AR (j := (0 : Int32)) hi_200 (g := (mkF m 200 #[.val (.ref aw), .val (.int (2 : Int32)), .val (.int (3 : Int32)), .val (.ref ab), .val (.ref ar), .val (.int (1 : Int32)), .val (.int (2 : Int32)), .val (.int (6 : Int32)), .val (.int y1)] [(.int (1 : Int32)), (.int (0 : Int32)), (.ref ar)])) rfl rfl (hb hby d5_200)
        have N1 := Fr.snoc X1 N0 nar
        have Z1 : n0 ≤ h1.size := by rw [W1.size]; exact Z0
        have arr_aw_1 := AW.other W1 nwr
        have arr_ab_1 := AB.other W1 nbr
        have EX_1 := extWr EX0 W1 mar
        have A1 := AR.same W1
        refine Go.on (g' := (mkF m 201 _ [])) (st1) ?_
        have sz1 := (sz_set cr ((0 : Int32)).toNatClampNeg (.int (1 : Int32))).trans SZ
        have hr0_1 := get_hit (v := .int (1 : Int32)) hi_200 (rfl : (0 : Int32) = (0 : Int32))
        have hr1_1 := (get_miss (c := cr) (j := (0 : Int32)) (k := (1 : Int32)) (v := .int (1 : Int32)) (by decide) (by decide) (by decide)).trans H1
        refine Go.on (g' := (mkF m 204 #[.val (.ref aw), .val (.int (2 : Int32)), .val (.int (3 : Int32)), .val (.ref ab), .val (.ref ar), .val (.int ((1 : Int32) + ((-1) : Int32))), .val (.int (2 : Int32)), .val (.int (6 : Int32)), .val (.int y1)] [])) (fun t_ k_ => XS.iinc X1.here hx rfl (hb hby d5_201) rfl (l' := #[.val (.ref aw), .val (.int (2 : Int32)), .val (.int (3 : Int32)), .val (.ref ab), .val (.ref ar), .val (.int ((1 : Int32) + ((-1) : Int32))), .val (.int (2 : Int32)), .val (.int (6 : Int32)), .val (.int y1)]) rfl k_) ?_
        rw [show ((1 : Int32) + ((-1) : Int32)) = (0 : Int32) from by decide]
        refine Go.on (g' := (mkF m 207 #[.val (.ref aw), .val (.int (2 : Int32)), .val (.int (3 : Int32)), .val (.ref ab), .val (.ref ar), .val (.int (0 : Int32)), .val (.int ((2 : Int32) + ((-1) : Int32))), .val (.int (6 : Int32)), .val (.int y1)] [])) (fun t_ k_ => XS.iinc X1.here hx rfl (hb hby d5_204) rfl (l' := #[.val (.ref aw), .val (.int (2 : Int32)), .val (.int (3 : Int32)), .val (.ref ab), .val (.ref ar), .val (.int (0 : Int32)), .val (.int ((2 : Int32) + ((-1) : Int32))), .val (.int (6 : Int32)), .val (.int y1)]) rfl k_) ?_
        rw [show ((2 : Int32) + ((-1) : Int32)) = (1 : Int32) from by decide]
        refine Go.on (g' := (mkF m 234 _ [])) (fun t_ k_ => XS.goto X1.here hx rfl (pc0 := 207) (pc' := 234) rfl (hb hby d5_207) (by decide) (by decide) k_) ?_
        refine Go.on (g' := (mkF m 131 _ [])) (fun t_ k_ => XS.goto X1.here hx rfl (pc0 := 234) (pc' := 131) rfl (hb hby d5_234) (by decide) (by decide) k_) ?_
        refine Go.on (g' := (mkF m 133 _ [(.int (0 : Int32))])) (fun t_ k_ => XS.iload X1.here hx rfl (hb hby d5_131) rfl k_) ?_
        refine Go.ifc X1 hx hby d5_133 (pcT := 237) (pcF := 136) (by decide) (by decide) rfl (fun q => ?_) (fun q => absurd q (by decide))
        clear q
        show Go p e below _ _ (mkF m 237 _ [])
        refine Go.on (g' := (mkF m 239 _ [(.ref ar)])) (fun t_ k_ => XS.aload X1.here hx rfl (hb hby d5_237) rfl rfl k_) ?_
        exact Go.retA X1 hx hlk hret hby d5_239 rfl rfl (by decide) (by decide) (by rw [e1, own_r12, if_pos ⟨q2, q3⟩]; exact ⟨ar, _, rfl, N1, EX_1, mar, A1, sz1, hr0_1, hr1_1⟩)
set_option maxRecDepth 65536 in
set_option maxHeartbeats 40000000 in
theorem nd23_1_3 (l : Launch) (Z : State) (w0 : Array Value) (hw : ∀ d ∈ tables_1, d.before w0 Z = true) (ws : List Jvm.Cond) (aw ab ar : Addr) (p : Program) (e : Env) (s : State) (m : MethodId) (below : List Frame) (meth : Method) (c : Code) (h0 : Heap) (n0 : Nat) (T0 : State) (locs : List Loc) (X0 : Stand p l e ({ frames := 1, cells := 2, slots := 14, locals := 15 } : Room) s m #[.ref aw, .int (2 : Int32), .int (3 : Int32)] below meth c T0 locs 2 14) (hx : p.tables.exec = Jvm.exec) (hby : c.code = prog_7_method_2_code) (hml : c.maxLocals = 9) (hret : meth.sig.returnType = (some (.array .int))) (hlk : meth.locks = false) (hZ : Z.Warmed39 s.vm) (hh : Heap) (e0 : T0.heap = hh) (Z0 : n0 ≤ hh.size) (N0 : Fr n0 locs) (EX0 : Ext h0 hh) (nar : n0 ≤ ar) (mar : h0.size ≤ ar) (nwr : aw ≠ ar) (nbr : ab ≠ ar) (cw : Cell) (AW : Arr Z hh aw cw .int) (y0 y1 y2 y3 y4 y5 : Int32) (HW : own_W23 cw y0 y1 y2 y3 y4 y5) (cb : Cell) (AB : Arr Z hh ab cb .int) (b11 b12 b13 b21 b22 b23 : Int32) (HB : own_B23 cb b11 b12 b13 b21 b22 b23) (cr : Cell) (AR : Arr Z hh ar cr .int) (SZ : cr.slots.size = 2) (x1 : Int32) (H0 : cr.slots[(0 : Int32).toNatClampNeg]? = some (.int ((-1) : Int32))) (H1 : cr.slots[(1 : Int32).toNatClampNeg]? = some (.int x1)) (x7 x8 : Slot) (O7 : One x7) (O8 : One x8) : Go p e below (EndK s (own_Q2 Z (own_r13 y0 y1 y2 b11 b12 b13, x1) h0 n0) 2 14) T0 (mkF m 131 #[.val (.ref aw), .val (.int (2 : Int32)), .val (.int (3 : Int32)), .val (.ref ab), .val (.ref ar), .val (.int (1 : Int32)), .val (.int (3 : Int32)), x7, x8] []) := by
  refine Go.on (g' := (mkF m 133 _ [(.int (1 : Int32))])) (fun t_ k_ => XS.iload X0.here hx rfl (hb hby d5_131) rfl k_) ?_
  refine Go.ifc X0 hx hby d5_133 (pcT := 237) (pcF := 136) (by decide) (by decide) rfl (fun q => absurd q (by decide)) (fun q => ?_)
  clear q
  show Go p e below _ _ (mkF m 136 _ [])
  refine Go.on (g' := (mkF m 138 _ [(.int (3 : Int32))])) (fun t_ k_ => XS.iload X0.here hx rfl (hb hby d5_136) rfl k_) ?_
  refine Go.ifc X0 hx hby d5_138 (pcT := 237) (pcF := 141) (by decide) (by decide) rfl (fun q => absurd q (by decide)) (fun q => ?_)
  clear q
  show Go p e below _ _ (mkF m 141 _ [])
  refine Go.on (g' := (mkF m 143 _ [(.int (1 : Int32))])) (fun t_ k_ => XS.iload X0.here hx rfl (hb hby d5_141) rfl k_) ?_
  refine Go.on (g' := (mkF m 144 _ [(.int (3 : Int32)), (.int (1 : Int32))])) (fun t_ k_ => XS.iloadN X0.here hx rfl (hb hby d5_143) rfl k_) ?_
  refine Go.on (g' := (mkF m 145 _ [(.int (1 : Int32)), (.int (3 : Int32)), (.int (1 : Int32))])) (fun t_ k_ => XS.iconst X0.here hx rfl (hb hby d5_144) k_) ?_
  refine Go.on (g' := (mkF m 146 _ [(.int ((3 : Int32) + (1 : Int32))), (.int (1 : Int32))])) (fun t_ k_ => XS.iadd X0.here hx rfl (hb hby d5_145) rfl k_) ?_
  rw [show ((3 : Int32) + (1 : Int32)) = (4 : Int32) from by decide]
  refine Go.on (g' := (mkF m 147 _ [(.int ((1 : Int32) * (4 : Int32)))])) (fun t_ k_ => XS.imul X0.here hx rfl (hb hby d5_146) rfl k_) ?_
  rw [show ((1 : Int32) * (4 : Int32)) = (4 : Int32) from by decide]
  refine Go.on (g' := (mkF m 149 _ [(.int (3 : Int32)), (.int (4 : Int32))])) (fun t_ k_ => XS.iload X0.here hx rfl (hb hby d5_147) rfl k_) ?_
  refine Go.on (g' := (mkF m 150 _ [(.int ((4 : Int32) + (3 : Int32)))])) (fun t_ k_ => XS.iadd X0.here hx rfl (hb hby d5_149) rfl k_) ?_
  rw [show ((4 : Int32) + (3 : Int32)) = (7 : Int32) from by decide]
  refine Go.on (g' := (mkF m 152 #[.val (.ref aw), .val (.int (2 : Int32)), .val (.int (3 : Int32)), .val (.ref ab), .val (.ref ar), .val (.int (1 : Int32)), .val (.int (3 : Int32)), .val (.int (7 : Int32)), x8] [])) (fun t_ k_ => XS.istore X0.here hx rfl (hb hby d5_150) rfl (l' := #[.val (.ref aw), .val (.int (2 : Int32)), .val (.int (3 : Int32)), .val (.ref ab), .val (.ref ar), .val (.int (1 : Int32)), .val (.int (3 : Int32)), .val (.int (7 : Int32)), x8]) (XS.store1 (o := x7) rfl O7 rfl) k_) ?_
  refine Go.on (g' := (mkF m 153 _ [(.ref aw)])) (fun t_ k_ => XS.aloadN X0.here hx rfl (hb hby d5_152) rfl rfl k_) ?_
  refine Go.on (g' := (mkF m 155 _ [(.int (1 : Int32)), (.ref aw)])) (fun t_ k_ => XS.iload X0.here hx rfl (hb hby d5_153) rfl k_) ?_
  refine Go.on (g' := (mkF m 156 _ [(.int (1 : Int32)), (.int (1 : Int32)), (.ref aw)])) (fun t_ k_ => XS.iconst X0.here hx rfl (hb hby d5_155) k_) ?_
  refine Go.on (g' := (mkF m 157 _ [(.int ((1 : Int32) - (1 : Int32))), (.ref aw)])) (fun t_ k_ => XS.isub X0.here hx rfl (hb hby d5_156) rfl k_) ?_
  rw [show ((1 : Int32) - (1 : Int32)) = (0 : Int32) from by decide]
  refine Go.on (g' := (mkF m 158 _ [(.int (3 : Int32)), (.int (0 : Int32)), (.ref aw)])) (fun t_ k_ => XS.iloadN X0.here hx rfl (hb hby d5_157) rfl k_) ?_
  refine Go.on (g' := (mkF m 159 _ [(.int ((0 : Int32) * (3 : Int32))), (.ref aw)])) (fun t_ k_ => XS.imul X0.here hx rfl (hb hby d5_158) rfl k_) ?_
  rw [show ((0 : Int32) * (3 : Int32)) = (0 : Int32) from by decide]
  refine Go.on (g' := (mkF m 161 _ [(.int (3 : Int32)), (.int (0 : Int32)), (.ref aw)])) (fun t_ k_ => XS.iload X0.here hx rfl (hb hby d5_159) rfl k_) ?_
  refine Go.on (g' := (mkF m 162 _ [(.int ((0 : Int32) + (3 : Int32))), (.ref aw)])) (fun t_ k_ => XS.iadd X0.here hx rfl (hb hby d5_161) rfl k_) ?_
  rw [show ((0 : Int32) + (3 : Int32)) = (3 : Int32) from by decide]
  refine Go.on (g' := (mkF m 163 _ [(.int (1 : Int32)), (.int (3 : Int32)), (.ref aw)])) (fun t_ k_ => XS.iconst X0.here hx rfl (hb hby d5_162) k_) ?_
  refine Go.on (g' := (mkF m 164 _ [(.int ((3 : Int32) - (1 : Int32))), (.ref aw)])) (fun t_ k_ => XS.isub X0.here hx rfl (hb hby d5_163) rfl k_) ?_
  rw [show ((3 : Int32) - (1 : Int32)) = (2 : Int32) from by decide]
  refine Go.on (g' := (mkF m 165 _ [(.int y2)])) (X0.iaload hx (j := (2 : Int32)) (v := (.int y2)) (by rw [e0]; exact AW.1) (State.isArrayOf_alike hZ.alike AW.2.1) AW.2.2 (by rw [HW.1]; decide) HW.2.2.2.1 (g := (mkF m 164 #[.val (.ref aw), .val (.int (2 : Int32)), .val (.int (3 : Int32)), .val (.ref ab), .val (.ref ar), .val (.int (1 : Int32)), .val (.int (3 : Int32)), .val (.int (7 : Int32)), x8] [(.int (2 : Int32)), (.ref aw)])) rfl rfl (hb hby d5_164)) ?_
  refine Go.on (g' := (mkF m 167 #[.val (.ref aw), .val (.int (2 : Int32)), .val (.int (3 : Int32)), .val (.ref ab), .val (.ref ar), .val (.int (1 : Int32)), .val (.int (3 : Int32)), .val (.int (7 : Int32)), .val (.int y2)] [])) (fun t_ k_ => XS.istore X0.here hx rfl (hb hby d5_165) rfl (l' := #[.val (.ref aw), .val (.int (2 : Int32)), .val (.int (3 : Int32)), .val (.ref ab), .val (.ref ar), .val (.int (1 : Int32)), .val (.int (3 : Int32)), .val (.int (7 : Int32)), .val (.int y2)]) (XS.store1 (o := x8) rfl O8 rfl) k_) ?_
  refine Go.on (g' := (mkF m 169 _ [(.int y2)])) (fun t_ k_ => XS.iload X0.here hx rfl (hb hby d5_167) rfl k_) ?_
  refine Go.join (P := fun _ : Unit => ¬ (0 < y2 ∧ b13 = (0 : Int32) + y2)) (g := fun _ => (mkF m 210 #[.val (.ref aw), .val (.int (2 : Int32)), .val (.int (3 : Int32)), .val (.ref ab), .val (.ref ar), .val (.int (1 : Int32)), .val (.int (3 : Int32)), .val (.int (7 : Int32)), .val (.int y2)] [])) (fun _ hJ210 => ?_) (fun J210 => ?_)
  · show Go p e below _ _ (mkF m 210 _ [])
    refine Go.on (g' := (mkF m 211 _ [(.ref ab)])) (fun t_ k_ => XS.aloadN X0.here hx rfl (hb hby d5_210) rfl rfl k_) ?_
    refine Go.on (g' := (mkF m 213 _ [(.int (7 : Int32)), (.ref ab)])) (fun t_ k_ => XS.iload X0.here hx rfl (hb hby d5_211) rfl k_) ?_
    refine Go.on (g' := (mkF m 214 _ [(.int b13)])) (X0.iaload hx (j := (7 : Int32)) (v := (.int b13)) (by rw [e0]; exact AB.1) (State.isArrayOf_alike hZ.alike AB.2.1) AB.2.2 (by rw [HB.1]; decide) HB.2.2.2.2.2.2.2.2.1 (g := (mkF m 213 #[.val (.ref aw), .val (.int (2 : Int32)), .val (.int (3 : Int32)), .val (.ref ab), .val (.ref ar), .val (.int (1 : Int32)), .val (.int (3 : Int32)), .val (.int (7 : Int32)), .val (.int y2)] [(.int (7 : Int32)), (.ref ab)])) rfl rfl (hb hby d5_213)) ?_
    refine Go.on (g' := (mkF m 215 _ [(.ref ab), (.int b13)])) (fun t_ k_ => XS.aloadN X0.here hx rfl (hb hby d5_214) rfl rfl k_) ?_
    refine Go.on (g' := (mkF m 217 _ [(.int (7 : Int32)), (.ref ab), (.int b13)])) (fun t_ k_ => XS.iload X0.here hx rfl (hb hby d5_215) rfl k_) ?_
    refine Go.on (g' := (mkF m 218 _ [(.int (3 : Int32)), (.int (7 : Int32)), (.ref ab), (.int b13)])) (fun t_ k_ => XS.iloadN X0.here hx rfl (hb hby d5_217) rfl k_) ?_
    refine Go.on (g' := (mkF m 219 _ [(.int ((7 : Int32) - (3 : Int32))), (.ref ab), (.int b13)])) (fun t_ k_ => XS.isub X0.here hx rfl (hb hby d5_218) rfl k_) ?_
    rw [show ((7 : Int32) - (3 : Int32)) = (4 : Int32) from by decide]
    refine Go.on (g' := (mkF m 220 _ [(.int (1 : Int32)), (.int (4 : Int32)), (.ref ab), (.int b13)])) (fun t_ k_ => XS.iconst X0.here hx rfl (hb hby d5_219) k_) ?_
    refine Go.on (g' := (mkF m 221 _ [(.int ((4 : Int32) - (1 : Int32))), (.ref ab), (.int b13)])) (fun t_ k_ => XS.isub X0.here hx rfl (hb hby d5_220) rfl k_) ?_
    rw [show ((4 : Int32) - (1 : Int32)) = (3 : Int32) from by decide]
    refine Go.on (g' := (mkF m 222 _ [(.int (0 : Int32)), (.int b13)])) (X0.iaload hx (j := (3 : Int32)) (v := (.int (0 : Int32))) (by rw [e0]; exact AB.1) (State.isArrayOf_alike hZ.alike AB.2.1) AB.2.2 (by rw [HB.1]; decide) HB.2.2.2.2.1 (g := (mkF m 221 #[.val (.ref aw), .val (.int (2 : Int32)), .val (.int (3 : Int32)), .val (.ref ab), .val (.ref ar), .val (.int (1 : Int32)), .val (.int (3 : Int32)), .val (.int (7 : Int32)), .val (.int y2)] [(.int (3 : Int32)), (.ref ab), (.int b13)])) rfl rfl (hb hby d5_221)) ?_
    refine Go.icmp X0 hx hby d5_222 (pcT := 231) (pcF := 225) (by decide) (by decide) rfl (fun q => ?_) (fun q => ?_)
    · have q1 := iNe.1 q
      clear q
      show Go p e below _ _ (mkF m 231 _ [])
      refine Go.on (g' := (mkF m 234 #[.val (.ref aw), .val (.int (2 : Int32)), .val (.int (3 : Int32)), .val (.ref ab), .val (.ref ar), .val (.int (1 : Int32)), .val (.int ((3 : Int32) + ((-1) : Int32))), .val (.int (7 : Int32)), .val (.int y2)] [])) (fun t_ k_ => XS.iinc X0.here hx rfl (hb hby d5_231) rfl (l' := #[.val (.ref aw), .val (.int (2 : Int32)), .val (.int (3 : Int32)), .val (.ref ab), .val (.ref ar), .val (.int (1 : Int32)), .val (.int ((3 : Int32) + ((-1) : Int32))), .val (.int (7 : Int32)), .val (.int y2)]) rfl k_) ?_
      rw [show ((3 : Int32) + ((-1) : Int32)) = (2 : Int32) from by decide]
      refine Go.on (g' := (mkF m 131 _ [])) (fun t_ k_ => XS.goto X0.here hx rfl (pc0 := 234) (pc' := 131) rfl (hb hby d5_234) (by decide) (by decide) k_) ?_
      rw [own_r13, if_neg hJ210, if_neg q1]
      exact nd23_1_2 l Z w0 hw ws aw ab ar p e s m below meth c h0 n0 T0 _ X0 hx hby hml hret hlk hZ _ e0 Z0 N0 EX0 nar mar nwr nbr cw AW y0 y1 y2 y3 y4 y5 HW cb AB b11 b12 b13 b21 b22 b23 HB _ AR SZ x1 H0 H1 (.val (.int (7 : Int32))) (.val (.int y2)) (One.val rfl) (One.val rfl)
    · have q1 := iNe.2 q
      clear q
      show Go p e below _ _ (mkF m 225 _ [])
      refine Go.on (g' := (mkF m 228 #[.val (.ref aw), .val (.int (2 : Int32)), .val (.int (3 : Int32)), .val (.ref ab), .val (.ref ar), .val (.int ((1 : Int32) + ((-1) : Int32))), .val (.int (3 : Int32)), .val (.int (7 : Int32)), .val (.int y2)] [])) (fun t_ k_ => XS.iinc X0.here hx rfl (hb hby d5_225) rfl (l' := #[.val (.ref aw), .val (.int (2 : Int32)), .val (.int (3 : Int32)), .val (.ref ab), .val (.ref ar), .val (.int ((1 : Int32) + ((-1) : Int32))), .val (.int (3 : Int32)), .val (.int (7 : Int32)), .val (.int y2)]) rfl k_) ?_
      rw [show ((1 : Int32) + ((-1) : Int32)) = (0 : Int32) from by decide]
      refine Go.on (g' := (mkF m 234 _ [])) (fun t_ k_ => XS.goto X0.here hx rfl (pc0 := 228) (pc' := 234) rfl (hb hby d5_228) (by decide) (by decide) k_) ?_
      refine Go.on (g' := (mkF m 131 _ [])) (fun t_ k_ => XS.goto X0.here hx rfl (pc0 := 234) (pc' := 131) rfl (hb hby d5_234) (by decide) (by decide) k_) ?_
      refine Go.on (g' := (mkF m 133 _ [(.int (0 : Int32))])) (fun t_ k_ => XS.iload X0.here hx rfl (hb hby d5_131) rfl k_) ?_
      refine Go.ifc X0 hx hby d5_133 (pcT := 237) (pcF := 136) (by decide) (by decide) rfl (fun q => ?_) (fun q => absurd q (by decide))
      clear q
      show Go p e below _ _ (mkF m 237 _ [])
      refine Go.on (g' := (mkF m 239 _ [(.ref ar)])) (fun t_ k_ => XS.aload X0.here hx rfl (hb hby d5_237) rfl rfl k_) ?_
      exact Go.retA X0 hx hlk hret hby d5_239 rfl rfl (by decide) (by decide) (by rw [e0, own_r13, if_neg hJ210, if_pos q1]; exact ⟨ar, _, rfl, N0, EX0, mar, AR, SZ, H0, H1⟩)
  · show Go p e below _ _ (mkF m 169 _ [(.int y2)])
    refine Go.ifc X0 hx hby d5_169 (pcT := 210) (pcF := 172) (by decide) (by decide) rfl (fun q => ?_) (fun q => ?_)
    · have q2 := iLe.1 q
      clear q
      show Go p e below _ _ (mkF m 210 _ [])
      exact J210 () (fun z => q2 z.1)
    · have q2 := iLe.2 q
      clear q
      show Go p e below _ _ (mkF m 172 _ [])
      refine Go.on (g' := (mkF m 173 _ [(.ref ab)])) (fun t_ k_ => XS.aloadN X0.here hx rfl (hb hby d5_172) rfl rfl k_) ?_
      refine Go.on (g' := (mkF m 175 _ [(.int (7 : Int32)), (.ref ab)])) (fun t_ k_ => XS.iload X0.here hx rfl (hb hby d5_173) rfl k_) ?_
      refine Go.on (g' := (mkF m 176 _ [(.int b13)])) (X0.iaload hx (j := (7 : Int32)) (v := (.int b13)) (by rw [e0]; exact AB.1) (State.isArrayOf_alike hZ.alike AB.2.1) AB.2.2 (by rw [HB.1]; decide) HB.2.2.2.2.2.2.2.2.1 (g := (mkF m 175 #[.val (.ref aw), .val (.int (2 : Int32)), .val (.int (3 : Int32)), .val (.ref ab), .val (.ref ar), .val (.int (1 : Int32)), .val (.int (3 : Int32)), .val (.int (7 : Int32)), .val (.int y2)] [(.int (7 : Int32)), (.ref ab)])) rfl rfl (hb hby d5_175)) ?_
      refine Go.on (g' := (mkF m 177 _ [(.ref ab), (.int b13)])) (fun t_ k_ => XS.aloadN X0.here hx rfl (hb hby d5_176) rfl rfl k_) ?_
      refine Go.on (g' := (mkF m 179 _ [(.int (7 : Int32)), (.ref ab), (.int b13)])) (fun t_ k_ => XS.iload X0.here hx rfl (hb hby d5_177) rfl k_) ?_
      refine Go.on (g' := (mkF m 180 _ [(.int (3 : Int32)), (.int (7 : Int32)), (.ref ab), (.int b13)])) (fun t_ k_ => XS.iloadN X0.here hx rfl (hb hby d5_179) rfl k_) ?_
      refine Go.on (g' := (mkF m 181 _ [(.int ((7 : Int32) - (3 : Int32))), (.ref ab), (.int b13)])) (fun t_ k_ => XS.isub X0.here hx rfl (hb hby d5_180) rfl k_) ?_
      rw [show ((7 : Int32) - (3 : Int32)) = (4 : Int32) from by decide]
      refine Go.on (g' := (mkF m 182 _ [(.int (2 : Int32)), (.int (4 : Int32)), (.ref ab), (.int b13)])) (fun t_ k_ => XS.iconst X0.here hx rfl (hb hby d5_181) k_) ?_
      refine Go.on (g' := (mkF m 183 _ [(.int ((4 : Int32) - (2 : Int32))), (.ref ab), (.int b13)])) (fun t_ k_ => XS.isub X0.here hx rfl (hb hby d5_182) rfl k_) ?_
      rw [show ((4 : Int32) - (2 : Int32)) = (2 : Int32) from by decide]
      refine Go.on (g' := (mkF m 184 _ [(.int (0 : Int32)), (.int b13)])) (X0.iaload hx (j := (2 : Int32)) (v := (.int (0 : Int32))) (by rw [e0]; exact AB.1) (State.isArrayOf_alike hZ.alike AB.2.1) AB.2.2 (by rw [HB.1]; decide) HB.2.2.2.1 (g := (mkF m 183 #[.val (.ref aw), .val (.int (2 : Int32)), .val (.int (3 : Int32)), .val (.ref ab), .val (.ref ar), .val (.int (1 : Int32)), .val (.int (3 : Int32)), .val (.int (7 : Int32)), .val (.int y2)] [(.int (2 : Int32)), (.ref ab), (.int b13)])) rfl rfl (hb hby d5_183)) ?_
      refine Go.on (g' := (mkF m 186 _ [(.int y2), (.int (0 : Int32)), (.int b13)])) (fun t_ k_ => XS.iload X0.here hx rfl (hb hby d5_184) rfl k_) ?_
      refine Go.on (g' := (mkF m 187 _ [(.int ((0 : Int32) + y2)), (.int b13)])) (fun t_ k_ => XS.iadd X0.here hx rfl (hb hby d5_186) rfl k_) ?_
      refine Go.icmp X0 hx hby d5_187 (pcT := 210) (pcF := 190) (by decide) (by decide) rfl (fun q => ?_) (fun q => ?_)
      · have q3 := iNe.1 q
        clear q
        show Go p e below _ _ (mkF m 210 _ [])
        exact J210 () (fun z => q3 z.2)
      · have q3 := iNe.2 q
        clear q
        show Go p e below _ _ (mkF m 190 _ [])
        refine Go.on (g' := (mkF m 192 _ [(.ref ar)])) (fun t_ k_ => XS.aload X0.here hx rfl (hb hby d5_190) rfl rfl k_) ?_
        refine Go.on (g' := (mkF m 194 _ [(.int (1 : Int32)), (.ref ar)])) (fun t_ k_ => XS.iload X0.here hx rfl (hb hby d5_192) rfl k_) ?_
        refine Go.on (g' := (mkF m 195 _ [(.int (1 : Int32)), (.int (1 : Int32)), (.ref ar)])) (fun t_ k_ => XS.iconst X0.here hx rfl (hb hby d5_194) k_) ?_
        refine Go.on (g' := (mkF m 196 _ [(.int ((1 : Int32) - (1 : Int32))), (.ref ar)])) (fun t_ k_ => XS.isub X0.here hx rfl (hb hby d5_195) rfl k_) ?_
        rw [show ((1 : Int32) - (1 : Int32)) = (0 : Int32) from by decide]
        refine Go.on (g' := (mkF m 198 _ [(.int (3 : Int32)), (.int (0 : Int32)), (.ref ar)])) (fun t_ k_ => XS.iload X0.here hx rfl (hb hby d5_196) rfl k_) ?_
        refine Go.on (g' := (mkF m 199 _ [(.int (1 : Int32)), (.int (3 : Int32)), (.int (0 : Int32)), (.ref ar)])) (fun t_ k_ => XS.iconst X0.here hx rfl (hb hby d5_198) k_) ?_
        refine Go.on (g' := (mkF m 200 _ [(.int ((3 : Int32) - (1 : Int32))), (.int (0 : Int32)), (.ref ar)])) (fun t_ k_ => XS.isub X0.here hx rfl (hb hby d5_199) rfl k_) ?_
        rw [show ((3 : Int32) - (1 : Int32)) = (2 : Int32) from by decide]
        have hi_200 : ¬ ((0 : Int32) < 0 ∨ cr.slots.size ≤ ((0 : Int32)).toNatClampNeg) := by rw [SZ]; decide
        obtain ⟨T1, h1, X1, e1, W1, st1⟩ := stI X0 hx hZ e0 AR (j := (0 : Int32)) hi_200 (g := (mkF m 200 #[.val (.ref aw), .val (.int (2 : Int32)), .val (.int (3 : Int32)), .val (.ref ab), .val (.ref ar), .val (.int (1 : Int32)), .val (.int (3 : Int32)), .val (.int (7 : Int32)), .val (.int y2)] [(.int (2 : Int32)), (.int (0 : Int32)), (.ref ar)])) rfl rfl (hb hby d5_200)
        have N1 := Fr.snoc X1 N0 nar
        have Z1 : n0 ≤ h1.size := by rw [W1.size]; exact Z0
        have arr_aw_1 := AW.other W1 nwr
        have arr_ab_1 := AB.other W1 nbr
        have EX_1 := extWr EX0 W1 mar
        have A1 := AR.same W1
        refine Go.on (g' := (mkF m 201 _ [])) (st1) ?_
        have sz1 := (sz_set cr ((0 : Int32)).toNatClampNeg (.int (2 : Int32))).trans SZ
        have hr0_1 := get_hit (v := .int (2 : Int32)) hi_200 (rfl : (0 : Int32) = (0 : Int32))
        have hr1_1 := (get_miss (c := cr) (j := (0 : Int32)) (k := (1 : Int32)) (v := .int (2 : Int32)) (by decide) (by decide) (by decide)).trans H1
        refine Go.on (g' := (mkF m 204 #[.val (.ref aw), .val (.int (2 : Int32)), .val (.int (3 : Int32)), .val (.ref ab), .val (.ref ar), .val (.int ((1 : Int32) + ((-1) : Int32))), .val (.int (3 : Int32)), .val (.int (7 : Int32)), .val (.int y2)] [])) (fun t_ k_ => XS.iinc X1.here hx rfl (hb hby d5_201) rfl (l' := #[.val (.ref aw), .val (.int (2 : Int32)), .val (.int (3 : Int32)), .val (.ref ab), .val (.ref ar), .val (.int ((1 : Int32) + ((-1) : Int32))), .val (.int (3 : Int32)), .val (.int (7 : Int32)), .val (.int y2)]) rfl k_) ?_
        rw [show ((1 : Int32) + ((-1) : Int32)) = (0 : Int32) from by decide]
        refine Go.on (g' := (mkF m 207 #[.val (.ref aw), .val (.int (2 : Int32)), .val (.int (3 : Int32)), .val (.ref ab), .val (.ref ar), .val (.int (0 : Int32)), .val (.int ((3 : Int32) + ((-1) : Int32))), .val (.int (7 : Int32)), .val (.int y2)] [])) (fun t_ k_ => XS.iinc X1.here hx rfl (hb hby d5_204) rfl (l' := #[.val (.ref aw), .val (.int (2 : Int32)), .val (.int (3 : Int32)), .val (.ref ab), .val (.ref ar), .val (.int (0 : Int32)), .val (.int ((3 : Int32) + ((-1) : Int32))), .val (.int (7 : Int32)), .val (.int y2)]) rfl k_) ?_
        rw [show ((3 : Int32) + ((-1) : Int32)) = (2 : Int32) from by decide]
        refine Go.on (g' := (mkF m 234 _ [])) (fun t_ k_ => XS.goto X1.here hx rfl (pc0 := 207) (pc' := 234) rfl (hb hby d5_207) (by decide) (by decide) k_) ?_
        refine Go.on (g' := (mkF m 131 _ [])) (fun t_ k_ => XS.goto X1.here hx rfl (pc0 := 234) (pc' := 131) rfl (hb hby d5_234) (by decide) (by decide) k_) ?_
        refine Go.on (g' := (mkF m 133 _ [(.int (0 : Int32))])) (fun t_ k_ => XS.iload X1.here hx rfl (hb hby d5_131) rfl k_) ?_
        refine Go.ifc X1 hx hby d5_133 (pcT := 237) (pcF := 136) (by decide) (by decide) rfl (fun q => ?_) (fun q => absurd q (by decide))
        clear q
        show Go p e below _ _ (mkF m 237 _ [])
        refine Go.on (g' := (mkF m 239 _ [(.ref ar)])) (fun t_ k_ => XS.aload X1.here hx rfl (hb hby d5_237) rfl rfl k_) ?_
        exact Go.retA X1 hx hlk hret hby d5_239 rfl rfl (by decide) (by decide) (by rw [e1, own_r13, if_pos ⟨q2, q3⟩]; exact ⟨ar, _, rfl, N1, EX_1, mar, A1, sz1, hr0_1, hr1_1⟩)
set_option maxRecDepth 65536 in
set_option maxHeartbeats 40000000 in
theorem nd23_2_1 (l : Launch) (Z : State) (w0 : Array Value) (hw : ∀ d ∈ tables_1, d.before w0 Z = true) (ws : List Jvm.Cond) (aw ab ar : Addr) (p : Program) (e : Env) (s : State) (m : MethodId) (below : List Frame) (meth : Method) (c : Code) (h0 : Heap) (n0 : Nat) (T0 : State) (locs : List Loc) (X0 : Stand p l e ({ frames := 1, cells := 2, slots := 14, locals := 15 } : Room) s m #[.ref aw, .int (2 : Int32), .int (3 : Int32)] below meth c T0 locs 2 14) (hx : p.tables.exec = Jvm.exec) (hby : c.code = prog_7_method_2_code) (hml : c.maxLocals = 9) (hret : meth.sig.returnType = (some (.array .int))) (hlk : meth.locks = false) (hZ : Z.Warmed39 s.vm) (hh : Heap) (e0 : T0.heap = hh) (Z0 : n0 ≤ hh.size) (N0 : Fr n0 locs) (EX0 : Ext h0 hh) (nar : n0 ≤ ar) (mar : h0.size ≤ ar) (nwr : aw ≠ ar) (nbr : ab ≠ ar) (cw : Cell) (AW : Arr Z hh aw cw .int) (y0 y1 y2 y3 y4 y5 : Int32) (HW : own_W23 cw y0 y1 y2 y3 y4 y5) (cb : Cell) (AB : Arr Z hh ab cb .int) (b11 b12 b13 b21 b22 b23 : Int32) (HB : own_B23 cb b11 b12 b13 b21 b22 b23) (cr : Cell) (AR : Arr Z hh ar cr .int) (SZ : cr.slots.size = 2)  (H0 : cr.slots[(0 : Int32).toNatClampNeg]? = some (.int ((-1) : Int32))) (H1 : cr.slots[(1 : Int32).toNatClampNeg]? = some (.int ((-1) : Int32))) (x7 x8 : Slot) (O7 : One x7) (O8 : One x8) : Go p e below (EndK s (own_Q2 Z (own_21 y0 y3 b11 b21) h0 n0) 2 14) T0 (mkF m 131 #[.val (.ref aw), .val (.int (2 : Int32)), .val (.int (3 : Int32)), .val (.ref ab), .val (.ref ar), .val (.int (2 : Int32)), .val (.int (1 : Int32)), x7, x8] []) := by
  refine Go.on (g' := (mkF m 133 _ [(.int (2 : Int32))])) (fun t_ k_ => XS.iload X0.here hx rfl (hb hby d5_131) rfl k_) ?_
  refine Go.ifc X0 hx hby d5_133 (pcT := 237) (pcF := 136) (by decide) (by decide) rfl (fun q => absurd q (by decide)) (fun q => ?_)
  clear q
  show Go p e below _ _ (mkF m 136 _ [])
  refine Go.on (g' := (mkF m 138 _ [(.int (1 : Int32))])) (fun t_ k_ => XS.iload X0.here hx rfl (hb hby d5_136) rfl k_) ?_
  refine Go.ifc X0 hx hby d5_138 (pcT := 237) (pcF := 141) (by decide) (by decide) rfl (fun q => absurd q (by decide)) (fun q => ?_)
  clear q
  show Go p e below _ _ (mkF m 141 _ [])
  refine Go.on (g' := (mkF m 143 _ [(.int (2 : Int32))])) (fun t_ k_ => XS.iload X0.here hx rfl (hb hby d5_141) rfl k_) ?_
  refine Go.on (g' := (mkF m 144 _ [(.int (3 : Int32)), (.int (2 : Int32))])) (fun t_ k_ => XS.iloadN X0.here hx rfl (hb hby d5_143) rfl k_) ?_
  refine Go.on (g' := (mkF m 145 _ [(.int (1 : Int32)), (.int (3 : Int32)), (.int (2 : Int32))])) (fun t_ k_ => XS.iconst X0.here hx rfl (hb hby d5_144) k_) ?_
  refine Go.on (g' := (mkF m 146 _ [(.int ((3 : Int32) + (1 : Int32))), (.int (2 : Int32))])) (fun t_ k_ => XS.iadd X0.here hx rfl (hb hby d5_145) rfl k_) ?_
  rw [show ((3 : Int32) + (1 : Int32)) = (4 : Int32) from by decide]
  refine Go.on (g' := (mkF m 147 _ [(.int ((2 : Int32) * (4 : Int32)))])) (fun t_ k_ => XS.imul X0.here hx rfl (hb hby d5_146) rfl k_) ?_
  rw [show ((2 : Int32) * (4 : Int32)) = (8 : Int32) from by decide]
  refine Go.on (g' := (mkF m 149 _ [(.int (1 : Int32)), (.int (8 : Int32))])) (fun t_ k_ => XS.iload X0.here hx rfl (hb hby d5_147) rfl k_) ?_
  refine Go.on (g' := (mkF m 150 _ [(.int ((8 : Int32) + (1 : Int32)))])) (fun t_ k_ => XS.iadd X0.here hx rfl (hb hby d5_149) rfl k_) ?_
  rw [show ((8 : Int32) + (1 : Int32)) = (9 : Int32) from by decide]
  refine Go.on (g' := (mkF m 152 #[.val (.ref aw), .val (.int (2 : Int32)), .val (.int (3 : Int32)), .val (.ref ab), .val (.ref ar), .val (.int (2 : Int32)), .val (.int (1 : Int32)), .val (.int (9 : Int32)), x8] [])) (fun t_ k_ => XS.istore X0.here hx rfl (hb hby d5_150) rfl (l' := #[.val (.ref aw), .val (.int (2 : Int32)), .val (.int (3 : Int32)), .val (.ref ab), .val (.ref ar), .val (.int (2 : Int32)), .val (.int (1 : Int32)), .val (.int (9 : Int32)), x8]) (XS.store1 (o := x7) rfl O7 rfl) k_) ?_
  refine Go.on (g' := (mkF m 153 _ [(.ref aw)])) (fun t_ k_ => XS.aloadN X0.here hx rfl (hb hby d5_152) rfl rfl k_) ?_
  refine Go.on (g' := (mkF m 155 _ [(.int (2 : Int32)), (.ref aw)])) (fun t_ k_ => XS.iload X0.here hx rfl (hb hby d5_153) rfl k_) ?_
  refine Go.on (g' := (mkF m 156 _ [(.int (1 : Int32)), (.int (2 : Int32)), (.ref aw)])) (fun t_ k_ => XS.iconst X0.here hx rfl (hb hby d5_155) k_) ?_
  refine Go.on (g' := (mkF m 157 _ [(.int ((2 : Int32) - (1 : Int32))), (.ref aw)])) (fun t_ k_ => XS.isub X0.here hx rfl (hb hby d5_156) rfl k_) ?_
  rw [show ((2 : Int32) - (1 : Int32)) = (1 : Int32) from by decide]
  refine Go.on (g' := (mkF m 158 _ [(.int (3 : Int32)), (.int (1 : Int32)), (.ref aw)])) (fun t_ k_ => XS.iloadN X0.here hx rfl (hb hby d5_157) rfl k_) ?_
  refine Go.on (g' := (mkF m 159 _ [(.int ((1 : Int32) * (3 : Int32))), (.ref aw)])) (fun t_ k_ => XS.imul X0.here hx rfl (hb hby d5_158) rfl k_) ?_
  rw [show ((1 : Int32) * (3 : Int32)) = (3 : Int32) from by decide]
  refine Go.on (g' := (mkF m 161 _ [(.int (1 : Int32)), (.int (3 : Int32)), (.ref aw)])) (fun t_ k_ => XS.iload X0.here hx rfl (hb hby d5_159) rfl k_) ?_
  refine Go.on (g' := (mkF m 162 _ [(.int ((3 : Int32) + (1 : Int32))), (.ref aw)])) (fun t_ k_ => XS.iadd X0.here hx rfl (hb hby d5_161) rfl k_) ?_
  rw [show ((3 : Int32) + (1 : Int32)) = (4 : Int32) from by decide]
  refine Go.on (g' := (mkF m 163 _ [(.int (1 : Int32)), (.int (4 : Int32)), (.ref aw)])) (fun t_ k_ => XS.iconst X0.here hx rfl (hb hby d5_162) k_) ?_
  refine Go.on (g' := (mkF m 164 _ [(.int ((4 : Int32) - (1 : Int32))), (.ref aw)])) (fun t_ k_ => XS.isub X0.here hx rfl (hb hby d5_163) rfl k_) ?_
  rw [show ((4 : Int32) - (1 : Int32)) = (3 : Int32) from by decide]
  refine Go.on (g' := (mkF m 165 _ [(.int y3)])) (X0.iaload hx (j := (3 : Int32)) (v := (.int y3)) (by rw [e0]; exact AW.1) (State.isArrayOf_alike hZ.alike AW.2.1) AW.2.2 (by rw [HW.1]; decide) HW.2.2.2.2.1 (g := (mkF m 164 #[.val (.ref aw), .val (.int (2 : Int32)), .val (.int (3 : Int32)), .val (.ref ab), .val (.ref ar), .val (.int (2 : Int32)), .val (.int (1 : Int32)), .val (.int (9 : Int32)), x8] [(.int (3 : Int32)), (.ref aw)])) rfl rfl (hb hby d5_164)) ?_
  refine Go.on (g' := (mkF m 167 #[.val (.ref aw), .val (.int (2 : Int32)), .val (.int (3 : Int32)), .val (.ref ab), .val (.ref ar), .val (.int (2 : Int32)), .val (.int (1 : Int32)), .val (.int (9 : Int32)), .val (.int y3)] [])) (fun t_ k_ => XS.istore X0.here hx rfl (hb hby d5_165) rfl (l' := #[.val (.ref aw), .val (.int (2 : Int32)), .val (.int (3 : Int32)), .val (.ref ab), .val (.ref ar), .val (.int (2 : Int32)), .val (.int (1 : Int32)), .val (.int (9 : Int32)), .val (.int y3)]) (XS.store1 (o := x8) rfl O8 rfl) k_) ?_
  refine Go.on (g' := (mkF m 169 _ [(.int y3)])) (fun t_ k_ => XS.iload X0.here hx rfl (hb hby d5_167) rfl k_) ?_
  refine Go.join (P := fun _ : Unit => ¬ (0 < y3 ∧ b21 = (0 : Int32) + y3)) (g := fun _ => (mkF m 210 #[.val (.ref aw), .val (.int (2 : Int32)), .val (.int (3 : Int32)), .val (.ref ab), .val (.ref ar), .val (.int (2 : Int32)), .val (.int (1 : Int32)), .val (.int (9 : Int32)), .val (.int y3)] [])) (fun _ hJ210 => ?_) (fun J210 => ?_)
  · show Go p e below _ _ (mkF m 210 _ [])
    refine Go.on (g' := (mkF m 211 _ [(.ref ab)])) (fun t_ k_ => XS.aloadN X0.here hx rfl (hb hby d5_210) rfl rfl k_) ?_
    refine Go.on (g' := (mkF m 213 _ [(.int (9 : Int32)), (.ref ab)])) (fun t_ k_ => XS.iload X0.here hx rfl (hb hby d5_211) rfl k_) ?_
    refine Go.on (g' := (mkF m 214 _ [(.int b21)])) (X0.iaload hx (j := (9 : Int32)) (v := (.int b21)) (by rw [e0]; exact AB.1) (State.isArrayOf_alike hZ.alike AB.2.1) AB.2.2 (by rw [HB.1]; decide) HB.2.2.2.2.2.2.2.2.2.2.1 (g := (mkF m 213 #[.val (.ref aw), .val (.int (2 : Int32)), .val (.int (3 : Int32)), .val (.ref ab), .val (.ref ar), .val (.int (2 : Int32)), .val (.int (1 : Int32)), .val (.int (9 : Int32)), .val (.int y3)] [(.int (9 : Int32)), (.ref ab)])) rfl rfl (hb hby d5_213)) ?_
    refine Go.on (g' := (mkF m 215 _ [(.ref ab), (.int b21)])) (fun t_ k_ => XS.aloadN X0.here hx rfl (hb hby d5_214) rfl rfl k_) ?_
    refine Go.on (g' := (mkF m 217 _ [(.int (9 : Int32)), (.ref ab), (.int b21)])) (fun t_ k_ => XS.iload X0.here hx rfl (hb hby d5_215) rfl k_) ?_
    refine Go.on (g' := (mkF m 218 _ [(.int (3 : Int32)), (.int (9 : Int32)), (.ref ab), (.int b21)])) (fun t_ k_ => XS.iloadN X0.here hx rfl (hb hby d5_217) rfl k_) ?_
    refine Go.on (g' := (mkF m 219 _ [(.int ((9 : Int32) - (3 : Int32))), (.ref ab), (.int b21)])) (fun t_ k_ => XS.isub X0.here hx rfl (hb hby d5_218) rfl k_) ?_
    rw [show ((9 : Int32) - (3 : Int32)) = (6 : Int32) from by decide]
    refine Go.on (g' := (mkF m 220 _ [(.int (1 : Int32)), (.int (6 : Int32)), (.ref ab), (.int b21)])) (fun t_ k_ => XS.iconst X0.here hx rfl (hb hby d5_219) k_) ?_
    refine Go.on (g' := (mkF m 221 _ [(.int ((6 : Int32) - (1 : Int32))), (.ref ab), (.int b21)])) (fun t_ k_ => XS.isub X0.here hx rfl (hb hby d5_220) rfl k_) ?_
    rw [show ((6 : Int32) - (1 : Int32)) = (5 : Int32) from by decide]
    refine Go.on (g' := (mkF m 222 _ [(.int b11), (.int b21)])) (X0.iaload hx (j := (5 : Int32)) (v := (.int b11)) (by rw [e0]; exact AB.1) (State.isArrayOf_alike hZ.alike AB.2.1) AB.2.2 (by rw [HB.1]; decide) HB.2.2.2.2.2.2.1 (g := (mkF m 221 #[.val (.ref aw), .val (.int (2 : Int32)), .val (.int (3 : Int32)), .val (.ref ab), .val (.ref ar), .val (.int (2 : Int32)), .val (.int (1 : Int32)), .val (.int (9 : Int32)), .val (.int y3)] [(.int (5 : Int32)), (.ref ab), (.int b21)])) rfl rfl (hb hby d5_221)) ?_
    refine Go.icmp X0 hx hby d5_222 (pcT := 231) (pcF := 225) (by decide) (by decide) rfl (fun q => ?_) (fun q => ?_)
    · have q1 := iNe.1 q
      clear q
      show Go p e below _ _ (mkF m 231 _ [])
      refine Go.on (g' := (mkF m 234 #[.val (.ref aw), .val (.int (2 : Int32)), .val (.int (3 : Int32)), .val (.ref ab), .val (.ref ar), .val (.int (2 : Int32)), .val (.int ((1 : Int32) + ((-1) : Int32))), .val (.int (9 : Int32)), .val (.int y3)] [])) (fun t_ k_ => XS.iinc X0.here hx rfl (hb hby d5_231) rfl (l' := #[.val (.ref aw), .val (.int (2 : Int32)), .val (.int (3 : Int32)), .val (.ref ab), .val (.ref ar), .val (.int (2 : Int32)), .val (.int ((1 : Int32) + ((-1) : Int32))), .val (.int (9 : Int32)), .val (.int y3)]) rfl k_) ?_
      rw [show ((1 : Int32) + ((-1) : Int32)) = (0 : Int32) from by decide]
      refine Go.on (g' := (mkF m 131 _ [])) (fun t_ k_ => XS.goto X0.here hx rfl (pc0 := 234) (pc' := 131) rfl (hb hby d5_234) (by decide) (by decide) k_) ?_
      refine Go.on (g' := (mkF m 133 _ [(.int (2 : Int32))])) (fun t_ k_ => XS.iload X0.here hx rfl (hb hby d5_131) rfl k_) ?_
      refine Go.ifc X0 hx hby d5_133 (pcT := 237) (pcF := 136) (by decide) (by decide) rfl (fun q => absurd q (by decide)) (fun q => ?_)
      clear q
      show Go p e below _ _ (mkF m 136 _ [])
      refine Go.on (g' := (mkF m 138 _ [(.int (0 : Int32))])) (fun t_ k_ => XS.iload X0.here hx rfl (hb hby d5_136) rfl k_) ?_
      refine Go.ifc X0 hx hby d5_138 (pcT := 237) (pcF := 141) (by decide) (by decide) rfl (fun q => ?_) (fun q => absurd q (by decide))
      clear q
      show Go p e below _ _ (mkF m 237 _ [])
      refine Go.on (g' := (mkF m 239 _ [(.ref ar)])) (fun t_ k_ => XS.aload X0.here hx rfl (hb hby d5_237) rfl rfl k_) ?_
      exact Go.retA X0 hx hlk hret hby d5_239 rfl rfl (by decide) (by decide) (by rw [e0, own_21, if_neg hJ210, if_neg q1]; exact ⟨ar, _, rfl, N0, EX0, mar, AR, SZ, H0, H1⟩)
    · have q1 := iNe.2 q
      clear q
      show Go p e below _ _ (mkF m 225 _ [])
      refine Go.on (g' := (mkF m 228 #[.val (.ref aw), .val (.int (2 : Int32)), .val (.int (3 : Int32)), .val (.ref ab), .val (.ref ar), .val (.int ((2 : Int32) + ((-1) : Int32))), .val (.int (1 : Int32)), .val (.int (9 : Int32)), .val (.int y3)] [])) (fun t_ k_ => XS.iinc X0.here hx rfl (hb hby d5_225) rfl (l' := #[.val (.ref aw), .val (.int (2 : Int32)), .val (.int (3 : Int32)), .val (.ref ab), .val (.ref ar), .val (.int ((2 : Int32) + ((-1) : Int32))), .val (.int (1 : Int32)), .val (.int (9 : Int32)), .val (.int y3)]) rfl k_) ?_
      rw [show ((2 : Int32) + ((-1) : Int32)) = (1 : Int32) from by decide]
      refine Go.on (g' := (mkF m 234 _ [])) (fun t_ k_ => XS.goto X0.here hx rfl (pc0 := 228) (pc' := 234) rfl (hb hby d5_228) (by decide) (by decide) k_) ?_
      refine Go.on (g' := (mkF m 131 _ [])) (fun t_ k_ => XS.goto X0.here hx rfl (pc0 := 234) (pc' := 131) rfl (hb hby d5_234) (by decide) (by decide) k_) ?_
      rw [own_21, if_neg hJ210, if_pos q1]
      exact nd23_1_1 l Z w0 hw ws aw ab ar p e s m below meth c h0 n0 T0 _ X0 hx hby hml hret hlk hZ _ e0 Z0 N0 EX0 nar mar nwr nbr cw AW y0 y1 y2 y3 y4 y5 HW cb AB b11 b12 b13 b21 b22 b23 HB _ AR SZ ((-1) : Int32) H0 H1 (.val (.int (9 : Int32))) (.val (.int y3)) (One.val rfl) (One.val rfl)
  · show Go p e below _ _ (mkF m 169 _ [(.int y3)])
    refine Go.ifc X0 hx hby d5_169 (pcT := 210) (pcF := 172) (by decide) (by decide) rfl (fun q => ?_) (fun q => ?_)
    · have q2 := iLe.1 q
      clear q
      show Go p e below _ _ (mkF m 210 _ [])
      exact J210 () (fun z => q2 z.1)
    · have q2 := iLe.2 q
      clear q
      show Go p e below _ _ (mkF m 172 _ [])
      refine Go.on (g' := (mkF m 173 _ [(.ref ab)])) (fun t_ k_ => XS.aloadN X0.here hx rfl (hb hby d5_172) rfl rfl k_) ?_
      refine Go.on (g' := (mkF m 175 _ [(.int (9 : Int32)), (.ref ab)])) (fun t_ k_ => XS.iload X0.here hx rfl (hb hby d5_173) rfl k_) ?_
      refine Go.on (g' := (mkF m 176 _ [(.int b21)])) (X0.iaload hx (j := (9 : Int32)) (v := (.int b21)) (by rw [e0]; exact AB.1) (State.isArrayOf_alike hZ.alike AB.2.1) AB.2.2 (by rw [HB.1]; decide) HB.2.2.2.2.2.2.2.2.2.2.1 (g := (mkF m 175 #[.val (.ref aw), .val (.int (2 : Int32)), .val (.int (3 : Int32)), .val (.ref ab), .val (.ref ar), .val (.int (2 : Int32)), .val (.int (1 : Int32)), .val (.int (9 : Int32)), .val (.int y3)] [(.int (9 : Int32)), (.ref ab)])) rfl rfl (hb hby d5_175)) ?_
      refine Go.on (g' := (mkF m 177 _ [(.ref ab), (.int b21)])) (fun t_ k_ => XS.aloadN X0.here hx rfl (hb hby d5_176) rfl rfl k_) ?_
      refine Go.on (g' := (mkF m 179 _ [(.int (9 : Int32)), (.ref ab), (.int b21)])) (fun t_ k_ => XS.iload X0.here hx rfl (hb hby d5_177) rfl k_) ?_
      refine Go.on (g' := (mkF m 180 _ [(.int (3 : Int32)), (.int (9 : Int32)), (.ref ab), (.int b21)])) (fun t_ k_ => XS.iloadN X0.here hx rfl (hb hby d5_179) rfl k_) ?_
      refine Go.on (g' := (mkF m 181 _ [(.int ((9 : Int32) - (3 : Int32))), (.ref ab), (.int b21)])) (fun t_ k_ => XS.isub X0.here hx rfl (hb hby d5_180) rfl k_) ?_
      rw [show ((9 : Int32) - (3 : Int32)) = (6 : Int32) from by decide]
      refine Go.on (g' := (mkF m 182 _ [(.int (2 : Int32)), (.int (6 : Int32)), (.ref ab), (.int b21)])) (fun t_ k_ => XS.iconst X0.here hx rfl (hb hby d5_181) k_) ?_
      refine Go.on (g' := (mkF m 183 _ [(.int ((6 : Int32) - (2 : Int32))), (.ref ab), (.int b21)])) (fun t_ k_ => XS.isub X0.here hx rfl (hb hby d5_182) rfl k_) ?_
      rw [show ((6 : Int32) - (2 : Int32)) = (4 : Int32) from by decide]
      refine Go.on (g' := (mkF m 184 _ [(.int (0 : Int32)), (.int b21)])) (X0.iaload hx (j := (4 : Int32)) (v := (.int (0 : Int32))) (by rw [e0]; exact AB.1) (State.isArrayOf_alike hZ.alike AB.2.1) AB.2.2 (by rw [HB.1]; decide) HB.2.2.2.2.2.1 (g := (mkF m 183 #[.val (.ref aw), .val (.int (2 : Int32)), .val (.int (3 : Int32)), .val (.ref ab), .val (.ref ar), .val (.int (2 : Int32)), .val (.int (1 : Int32)), .val (.int (9 : Int32)), .val (.int y3)] [(.int (4 : Int32)), (.ref ab), (.int b21)])) rfl rfl (hb hby d5_183)) ?_
      refine Go.on (g' := (mkF m 186 _ [(.int y3), (.int (0 : Int32)), (.int b21)])) (fun t_ k_ => XS.iload X0.here hx rfl (hb hby d5_184) rfl k_) ?_
      refine Go.on (g' := (mkF m 187 _ [(.int ((0 : Int32) + y3)), (.int b21)])) (fun t_ k_ => XS.iadd X0.here hx rfl (hb hby d5_186) rfl k_) ?_
      refine Go.icmp X0 hx hby d5_187 (pcT := 210) (pcF := 190) (by decide) (by decide) rfl (fun q => ?_) (fun q => ?_)
      · have q3 := iNe.1 q
        clear q
        show Go p e below _ _ (mkF m 210 _ [])
        exact J210 () (fun z => q3 z.2)
      · have q3 := iNe.2 q
        clear q
        show Go p e below _ _ (mkF m 190 _ [])
        refine Go.on (g' := (mkF m 192 _ [(.ref ar)])) (fun t_ k_ => XS.aload X0.here hx rfl (hb hby d5_190) rfl rfl k_) ?_
        refine Go.on (g' := (mkF m 194 _ [(.int (2 : Int32)), (.ref ar)])) (fun t_ k_ => XS.iload X0.here hx rfl (hb hby d5_192) rfl k_) ?_
        refine Go.on (g' := (mkF m 195 _ [(.int (1 : Int32)), (.int (2 : Int32)), (.ref ar)])) (fun t_ k_ => XS.iconst X0.here hx rfl (hb hby d5_194) k_) ?_
        refine Go.on (g' := (mkF m 196 _ [(.int ((2 : Int32) - (1 : Int32))), (.ref ar)])) (fun t_ k_ => XS.isub X0.here hx rfl (hb hby d5_195) rfl k_) ?_
        rw [show ((2 : Int32) - (1 : Int32)) = (1 : Int32) from by decide]
        refine Go.on (g' := (mkF m 198 _ [(.int (1 : Int32)), (.int (1 : Int32)), (.ref ar)])) (fun t_ k_ => XS.iload X0.here hx rfl (hb hby d5_196) rfl k_) ?_
        refine Go.on (g' := (mkF m 199 _ [(.int (1 : Int32)), (.int (1 : Int32)), (.int (1 : Int32)), (.ref ar)])) (fun t_ k_ => XS.iconst X0.here hx rfl (hb hby d5_198) k_) ?_
        refine Go.on (g' := (mkF m 200 _ [(.int ((1 : Int32) - (1 : Int32))), (.int (1 : Int32)), (.ref ar)])) (fun t_ k_ => XS.isub X0.here hx rfl (hb hby d5_199) rfl k_) ?_
        rw [show ((1 : Int32) - (1 : Int32)) = (0 : Int32) from by decide]
        have hi_200 : ¬ ((1 : Int32) < 0 ∨ cr.slots.size ≤ ((1 : Int32)).toNatClampNeg) := by rw [SZ]; decide
        obtain ⟨T1, h1, X1, e1, W1, st1⟩ := stI X0 hx hZ e0 AR (j := (1 : Int32)) hi_200 (g := (mkF m 200 #[.val (.ref aw), .val (.int (2 : Int32)), .val (.int (3 : Int32)), .val (.ref ab), .val (.ref ar), .val (.int (2 : Int32)), .val (.int (1 : Int32)), .val (.int (9 : Int32)), .val (.int y3)] [(.int (0 : Int32)), (.int (1 : Int32)), (.ref ar)])) rfl rfl (hb hby d5_200)
        have N1 := Fr.snoc X1 N0 nar
        have Z1 : n0 ≤ h1.size := by rw [W1.size]; exact Z0
        have arr_aw_1 := AW.other W1 nwr
        have arr_ab_1 := AB.other W1 nbr
        have EX_1 := extWr EX0 W1 mar
        have A1 := AR.same W1
        refine Go.on (g' := (mkF m 201 _ [])) (st1) ?_
        have sz1 := (sz_set cr ((1 : Int32)).toNatClampNeg (.int (0 : Int32))).trans SZ
        have hr0_1 := (get_miss (c := cr) (j := (1 : Int32)) (k := (0 : Int32)) (v := .int (0 : Int32)) (by decide) (by decide) (by decide)).trans H0
        have hr1_1 := get_hit (v := .int (0 : Int32)) hi_200 (rfl : (1 : Int32) = (1 : Int32))
        refine Go.on (g' := (mkF m 204 #[.val (.ref aw), .val (.int (2 : Int32)), .val (.int (3 : Int32)), .val (.ref ab), .val (.ref ar), .val (.int ((2 : Int32) + ((-1) : Int32))), .val (.int (1 : Int32)), .val (.int (9 : Int32)), .val (.int y3)] [])) (fun t_ k_ => XS.iinc X1.here hx rfl (hb hby d5_201) rfl (l' := #[.val (.ref aw), .val (.int (2 : Int32)), .val (.int (3 : Int32)), .val (.ref ab), .val (.ref ar), .val (.int ((2 : Int32) + ((-1) : Int32))), .val (.int (1 : Int32)), .val (.int (9 : Int32)), .val (.int y3)]) rfl k_) ?_
        rw [show ((2 : Int32) + ((-1) : Int32)) = (1 : Int32) from by decide]
        refine Go.on (g' := (mkF m 207 #[.val (.ref aw), .val (.int (2 : Int32)), .val (.int (3 : Int32)), .val (.ref ab), .val (.ref ar), .val (.int (1 : Int32)), .val (.int ((1 : Int32) + ((-1) : Int32))), .val (.int (9 : Int32)), .val (.int y3)] [])) (fun t_ k_ => XS.iinc X1.here hx rfl (hb hby d5_204) rfl (l' := #[.val (.ref aw), .val (.int (2 : Int32)), .val (.int (3 : Int32)), .val (.ref ab), .val (.ref ar), .val (.int (1 : Int32)), .val (.int ((1 : Int32) + ((-1) : Int32))), .val (.int (9 : Int32)), .val (.int y3)]) rfl k_) ?_
        rw [show ((1 : Int32) + ((-1) : Int32)) = (0 : Int32) from by decide]
        refine Go.on (g' := (mkF m 234 _ [])) (fun t_ k_ => XS.goto X1.here hx rfl (pc0 := 207) (pc' := 234) rfl (hb hby d5_207) (by decide) (by decide) k_) ?_
        refine Go.on (g' := (mkF m 131 _ [])) (fun t_ k_ => XS.goto X1.here hx rfl (pc0 := 234) (pc' := 131) rfl (hb hby d5_234) (by decide) (by decide) k_) ?_
        refine Go.on (g' := (mkF m 133 _ [(.int (1 : Int32))])) (fun t_ k_ => XS.iload X1.here hx rfl (hb hby d5_131) rfl k_) ?_
        refine Go.ifc X1 hx hby d5_133 (pcT := 237) (pcF := 136) (by decide) (by decide) rfl (fun q => absurd q (by decide)) (fun q => ?_)
        clear q
        show Go p e below _ _ (mkF m 136 _ [])
        refine Go.on (g' := (mkF m 138 _ [(.int (0 : Int32))])) (fun t_ k_ => XS.iload X1.here hx rfl (hb hby d5_136) rfl k_) ?_
        refine Go.ifc X1 hx hby d5_138 (pcT := 237) (pcF := 141) (by decide) (by decide) rfl (fun q => ?_) (fun q => absurd q (by decide))
        clear q
        show Go p e below _ _ (mkF m 237 _ [])
        refine Go.on (g' := (mkF m 239 _ [(.ref ar)])) (fun t_ k_ => XS.aload X1.here hx rfl (hb hby d5_237) rfl rfl k_) ?_
        exact Go.retA X1 hx hlk hret hby d5_239 rfl rfl (by decide) (by decide) (by rw [e1, own_21, if_pos ⟨q2, q3⟩]; exact ⟨ar, _, rfl, N1, EX_1, mar, A1, sz1, hr0_1, hr1_1⟩)
set_option maxRecDepth 65536 in
set_option maxHeartbeats 40000000 in
theorem nd23_2_2 (l : Launch) (Z : State) (w0 : Array Value) (hw : ∀ d ∈ tables_1, d.before w0 Z = true) (ws : List Jvm.Cond) (aw ab ar : Addr) (p : Program) (e : Env) (s : State) (m : MethodId) (below : List Frame) (meth : Method) (c : Code) (h0 : Heap) (n0 : Nat) (T0 : State) (locs : List Loc) (X0 : Stand p l e ({ frames := 1, cells := 2, slots := 14, locals := 15 } : Room) s m #[.ref aw, .int (2 : Int32), .int (3 : Int32)] below meth c T0 locs 2 14) (hx : p.tables.exec = Jvm.exec) (hby : c.code = prog_7_method_2_code) (hml : c.maxLocals = 9) (hret : meth.sig.returnType = (some (.array .int))) (hlk : meth.locks = false) (hZ : Z.Warmed39 s.vm) (hh : Heap) (e0 : T0.heap = hh) (Z0 : n0 ≤ hh.size) (N0 : Fr n0 locs) (EX0 : Ext h0 hh) (nar : n0 ≤ ar) (mar : h0.size ≤ ar) (nwr : aw ≠ ar) (nbr : ab ≠ ar) (cw : Cell) (AW : Arr Z hh aw cw .int) (y0 y1 y2 y3 y4 y5 : Int32) (HW : own_W23 cw y0 y1 y2 y3 y4 y5) (cb : Cell) (AB : Arr Z hh ab cb .int) (b11 b12 b13 b21 b22 b23 : Int32) (HB : own_B23 cb b11 b12 b13 b21 b22 b23) (cr : Cell) (AR : Arr Z hh ar cr .int) (SZ : cr.slots.size = 2)  (H0 : cr.slots[(0 : Int32).toNatClampNeg]? = some (.int ((-1) : Int32))) (H1 : cr.slots[(1 : Int32).toNatClampNeg]? = some (.int ((-1) : Int32))) (x7 x8 : Slot) (O7 : One x7) (O8 : One x8) : Go p e below (EndK s (own_Q2 Z (own_22 y0 y1 y3 y4 b11 b12 b21 b22) h0 n0) 2 14) T0 (mkF m 131 #[.val (.ref aw), .val (.int (2 : Int32)), .val (.int (3 : Int32)), .val (.ref ab), .val (.ref ar), .val (.int (2 : Int32)), .val (.int (2 : Int32)), x7, x8] []) := by
  refine Go.on (g' := (mkF m 133 _ [(.int (2 : Int32))])) (fun t_ k_ => XS.iload X0.here hx rfl (hb hby d5_131) rfl k_) ?_
  refine Go.ifc X0 hx hby d5_133 (pcT := 237) (pcF := 136) (by decide) (by decide) rfl (fun q => absurd q (by decide)) (fun q => ?_)
  clear q
  show Go p e below _ _ (mkF m 136 _ [])
  refine Go.on (g' := (mkF m 138 _ [(.int (2 : Int32))])) (fun t_ k_ => XS.iload X0.here hx rfl (hb hby d5_136) rfl k_) ?_
  refine Go.ifc X0 hx hby d5_138 (pcT := 237) (pcF := 141) (by decide) (by decide) rfl (fun q => absurd q (by decide)) (fun q => ?_)
  clear q
  show Go p e below _ _ (mkF m 141 _ [])
  refine Go.on (g' := (mkF m 143 _ [(.int (2 : Int32))])) (fun t_ k_ => XS.iload X0.here hx rfl (hb hby d5_141) rfl k_) ?_
  refine Go.on (g' := (mkF m 144 _ [(.int (3 : Int32)), (.int (2 : Int32))])) (fun t_ k_ => XS.iloadN X0.here hx rfl (hb hby d5_143) rfl k_) ?_
  refine Go.on (g' := (mkF m 145 _ [(.int (1 : Int32)), (.int (3 : Int32)), (.int (2 : Int32))])) (fun t_ k_ => XS.iconst X0.here hx rfl (hb hby d5_144) k_) ?_
  refine Go.on (g' := (mkF m 146 _ [(.int ((3 : Int32) + (1 : Int32))), (.int (2 : Int32))])) (fun t_ k_ => XS.iadd X0.here hx rfl (hb hby d5_145) rfl k_) ?_
  rw [show ((3 : Int32) + (1 : Int32)) = (4 : Int32) from by decide]
  refine Go.on (g' := (mkF m 147 _ [(.int ((2 : Int32) * (4 : Int32)))])) (fun t_ k_ => XS.imul X0.here hx rfl (hb hby d5_146) rfl k_) ?_
  rw [show ((2 : Int32) * (4 : Int32)) = (8 : Int32) from by decide]
  refine Go.on (g' := (mkF m 149 _ [(.int (2 : Int32)), (.int (8 : Int32))])) (fun t_ k_ => XS.iload X0.here hx rfl (hb hby d5_147) rfl k_) ?_
  refine Go.on (g' := (mkF m 150 _ [(.int ((8 : Int32) + (2 : Int32)))])) (fun t_ k_ => XS.iadd X0.here hx rfl (hb hby d5_149) rfl k_) ?_
  rw [show ((8 : Int32) + (2 : Int32)) = (10 : Int32) from by decide]
  refine Go.on (g' := (mkF m 152 #[.val (.ref aw), .val (.int (2 : Int32)), .val (.int (3 : Int32)), .val (.ref ab), .val (.ref ar), .val (.int (2 : Int32)), .val (.int (2 : Int32)), .val (.int (10 : Int32)), x8] [])) (fun t_ k_ => XS.istore X0.here hx rfl (hb hby d5_150) rfl (l' := #[.val (.ref aw), .val (.int (2 : Int32)), .val (.int (3 : Int32)), .val (.ref ab), .val (.ref ar), .val (.int (2 : Int32)), .val (.int (2 : Int32)), .val (.int (10 : Int32)), x8]) (XS.store1 (o := x7) rfl O7 rfl) k_) ?_
  refine Go.on (g' := (mkF m 153 _ [(.ref aw)])) (fun t_ k_ => XS.aloadN X0.here hx rfl (hb hby d5_152) rfl rfl k_) ?_
  refine Go.on (g' := (mkF m 155 _ [(.int (2 : Int32)), (.ref aw)])) (fun t_ k_ => XS.iload X0.here hx rfl (hb hby d5_153) rfl k_) ?_
  refine Go.on (g' := (mkF m 156 _ [(.int (1 : Int32)), (.int (2 : Int32)), (.ref aw)])) (fun t_ k_ => XS.iconst X0.here hx rfl (hb hby d5_155) k_) ?_
  refine Go.on (g' := (mkF m 157 _ [(.int ((2 : Int32) - (1 : Int32))), (.ref aw)])) (fun t_ k_ => XS.isub X0.here hx rfl (hb hby d5_156) rfl k_) ?_
  rw [show ((2 : Int32) - (1 : Int32)) = (1 : Int32) from by decide]
  refine Go.on (g' := (mkF m 158 _ [(.int (3 : Int32)), (.int (1 : Int32)), (.ref aw)])) (fun t_ k_ => XS.iloadN X0.here hx rfl (hb hby d5_157) rfl k_) ?_
  refine Go.on (g' := (mkF m 159 _ [(.int ((1 : Int32) * (3 : Int32))), (.ref aw)])) (fun t_ k_ => XS.imul X0.here hx rfl (hb hby d5_158) rfl k_) ?_
  rw [show ((1 : Int32) * (3 : Int32)) = (3 : Int32) from by decide]
  refine Go.on (g' := (mkF m 161 _ [(.int (2 : Int32)), (.int (3 : Int32)), (.ref aw)])) (fun t_ k_ => XS.iload X0.here hx rfl (hb hby d5_159) rfl k_) ?_
  refine Go.on (g' := (mkF m 162 _ [(.int ((3 : Int32) + (2 : Int32))), (.ref aw)])) (fun t_ k_ => XS.iadd X0.here hx rfl (hb hby d5_161) rfl k_) ?_
  rw [show ((3 : Int32) + (2 : Int32)) = (5 : Int32) from by decide]
  refine Go.on (g' := (mkF m 163 _ [(.int (1 : Int32)), (.int (5 : Int32)), (.ref aw)])) (fun t_ k_ => XS.iconst X0.here hx rfl (hb hby d5_162) k_) ?_
  refine Go.on (g' := (mkF m 164 _ [(.int ((5 : Int32) - (1 : Int32))), (.ref aw)])) (fun t_ k_ => XS.isub X0.here hx rfl (hb hby d5_163) rfl k_) ?_
  rw [show ((5 : Int32) - (1 : Int32)) = (4 : Int32) from by decide]
  refine Go.on (g' := (mkF m 165 _ [(.int y4)])) (X0.iaload hx (j := (4 : Int32)) (v := (.int y4)) (by rw [e0]; exact AW.1) (State.isArrayOf_alike hZ.alike AW.2.1) AW.2.2 (by rw [HW.1]; decide) HW.2.2.2.2.2.1 (g := (mkF m 164 #[.val (.ref aw), .val (.int (2 : Int32)), .val (.int (3 : Int32)), .val (.ref ab), .val (.ref ar), .val (.int (2 : Int32)), .val (.int (2 : Int32)), .val (.int (10 : Int32)), x8] [(.int (4 : Int32)), (.ref aw)])) rfl rfl (hb hby d5_164)) ?_
  refine Go.on (g' := (mkF m 167 #[.val (.ref aw), .val (.int (2 : Int32)), .val (.int (3 : Int32)), .val (.ref ab), .val (.ref ar), .val (.int (2 : Int32)), .val (.int (2 : Int32)), .val (.int (10 : Int32)), .val (.int y4)] [])) (fun t_ k_ => XS.istore X0.here hx rfl (hb hby d5_165) rfl (l' := #[.val (.ref aw), .val (.int (2 : Int32)), .val (.int (3 : Int32)), .val (.ref ab), .val (.ref ar), .val (.int (2 : Int32)), .val (.int (2 : Int32)), .val (.int (10 : Int32)), .val (.int y4)]) (XS.store1 (o := x8) rfl O8 rfl) k_) ?_
  refine Go.on (g' := (mkF m 169 _ [(.int y4)])) (fun t_ k_ => XS.iload X0.here hx rfl (hb hby d5_167) rfl k_) ?_
  refine Go.join (P := fun _ : Unit => ¬ (0 < y4 ∧ b22 = b11 + y4)) (g := fun _ => (mkF m 210 #[.val (.ref aw), .val (.int (2 : Int32)), .val (.int (3 : Int32)), .val (.ref ab), .val (.ref ar), .val (.int (2 : Int32)), .val (.int (2 : Int32)), .val (.int (10 : Int32)), .val (.int y4)] [])) (fun _ hJ210 => ?_) (fun J210 => ?_)
  · show Go p e below _ _ (mkF m 210 _ [])
    refine Go.on (g' := (mkF m 211 _ [(.ref ab)])) (fun t_ k_ => XS.aloadN X0.here hx rfl (hb hby d5_210) rfl rfl k_) ?_
    refine Go.on (g' := (mkF m 213 _ [(.int (10 : Int32)), (.ref ab)])) (fun t_ k_ => XS.iload X0.here hx rfl (hb hby d5_211) rfl k_) ?_
    refine Go.on (g' := (mkF m 214 _ [(.int b22)])) (X0.iaload hx (j := (10 : Int32)) (v := (.int b22)) (by rw [e0]; exact AB.1) (State.isArrayOf_alike hZ.alike AB.2.1) AB.2.2 (by rw [HB.1]; decide) HB.2.2.2.2.2.2.2.2.2.2.2.1 (g := (mkF m 213 #[.val (.ref aw), .val (.int (2 : Int32)), .val (.int (3 : Int32)), .val (.ref ab), .val (.ref ar), .val (.int (2 : Int32)), .val (.int (2 : Int32)), .val (.int (10 : Int32)), .val (.int y4)] [(.int (10 : Int32)), (.ref ab)])) rfl rfl (hb hby d5_213)) ?_
    refine Go.on (g' := (mkF m 215 _ [(.ref ab), (.int b22)])) (fun t_ k_ => XS.aloadN X0.here hx rfl (hb hby d5_214) rfl rfl k_) ?_
    refine Go.on (g' := (mkF m 217 _ [(.int (10 : Int32)), (.ref ab), (.int b22)])) (fun t_ k_ => XS.iload X0.here hx rfl (hb hby d5_215) rfl k_) ?_
    refine Go.on (g' := (mkF m 218 _ [(.int (3 : Int32)), (.int (10 : Int32)), (.ref ab), (.int b22)])) (fun t_ k_ => XS.iloadN X0.here hx rfl (hb hby d5_217) rfl k_) ?_
    refine Go.on (g' := (mkF m 219 _ [(.int ((10 : Int32) - (3 : Int32))), (.ref ab), (.int b22)])) (fun t_ k_ => XS.isub X0.here hx rfl (hb hby d5_218) rfl k_) ?_
    rw [show ((10 : Int32) - (3 : Int32)) = (7 : Int32) from by decide]
    refine Go.on (g' := (mkF m 220 _ [(.int (1 : Int32)), (.int (7 : Int32)), (.ref ab), (.int b22)])) (fun t_ k_ => XS.iconst X0.here hx rfl (hb hby d5_219) k_) ?_
    refine Go.on (g' := (mkF m 221 _ [(.int ((7 : Int32) - (1 : Int32))), (.ref ab), (.int b22)])) (fun t_ k_ => XS.isub X0.here hx rfl (hb hby d5_220) rfl k_) ?_
    rw [show ((7 : Int32) - (1 : Int32)) = (6 : Int32) from by decide]
    refine Go.on (g' := (mkF m 222 _ [(.int b12), (.int b22)])) (X0.iaload hx (j := (6 : Int32)) (v := (.int b12)) (by rw [e0]; exact AB.1) (State.isArrayOf_alike hZ.alike AB.2.1) AB.2.2 (by rw [HB.1]; decide) HB.2.2.2.2.2.2.2.1 (g := (mkF m 221 #[.val (.ref aw), .val (.int (2 : Int32)), .val (.int (3 : Int32)), .val (.ref ab), .val (.ref ar), .val (.int (2 : Int32)), .val (.int (2 : Int32)), .val (.int (10 : Int32)), .val (.int y4)] [(.int (6 : Int32)), (.ref ab), (.int b22)])) rfl rfl (hb hby d5_221)) ?_
    refine Go.icmp X0 hx hby d5_222 (pcT := 231) (pcF := 225) (by decide) (by decide) rfl (fun q => ?_) (fun q => ?_)
    · have q1 := iNe.1 q
      clear q
      show Go p e below _ _ (mkF m 231 _ [])
      refine Go.on (g' := (mkF m 234 #[.val (.ref aw), .val (.int (2 : Int32)), .val (.int (3 : Int32)), .val (.ref ab), .val (.ref ar), .val (.int (2 : Int32)), .val (.int ((2 : Int32) + ((-1) : Int32))), .val (.int (10 : Int32)), .val (.int y4)] [])) (fun t_ k_ => XS.iinc X0.here hx rfl (hb hby d5_231) rfl (l' := #[.val (.ref aw), .val (.int (2 : Int32)), .val (.int (3 : Int32)), .val (.ref ab), .val (.ref ar), .val (.int (2 : Int32)), .val (.int ((2 : Int32) + ((-1) : Int32))), .val (.int (10 : Int32)), .val (.int y4)]) rfl k_) ?_
      rw [show ((2 : Int32) + ((-1) : Int32)) = (1 : Int32) from by decide]
      refine Go.on (g' := (mkF m 131 _ [])) (fun t_ k_ => XS.goto X0.here hx rfl (pc0 := 234) (pc' := 131) rfl (hb hby d5_234) (by decide) (by decide) k_) ?_
      rw [own_22, if_neg hJ210, if_neg q1]
      exact nd23_2_1 l Z w0 hw ws aw ab ar p e s m below meth c h0 n0 T0 _ X0 hx hby hml hret hlk hZ _ e0 Z0 N0 EX0 nar mar nwr nbr cw AW y0 y1 y2 y3 y4 y5 HW cb AB b11 b12 b13 b21 b22 b23 HB _ AR SZ  H0 H1 (.val (.int (10 : Int32))) (.val (.int y4)) (One.val rfl) (One.val rfl)
    · have q1 := iNe.2 q
      clear q
      show Go p e below _ _ (mkF m 225 _ [])
      refine Go.on (g' := (mkF m 228 #[.val (.ref aw), .val (.int (2 : Int32)), .val (.int (3 : Int32)), .val (.ref ab), .val (.ref ar), .val (.int ((2 : Int32) + ((-1) : Int32))), .val (.int (2 : Int32)), .val (.int (10 : Int32)), .val (.int y4)] [])) (fun t_ k_ => XS.iinc X0.here hx rfl (hb hby d5_225) rfl (l' := #[.val (.ref aw), .val (.int (2 : Int32)), .val (.int (3 : Int32)), .val (.ref ab), .val (.ref ar), .val (.int ((2 : Int32) + ((-1) : Int32))), .val (.int (2 : Int32)), .val (.int (10 : Int32)), .val (.int y4)]) rfl k_) ?_
      rw [show ((2 : Int32) + ((-1) : Int32)) = (1 : Int32) from by decide]
      refine Go.on (g' := (mkF m 234 _ [])) (fun t_ k_ => XS.goto X0.here hx rfl (pc0 := 228) (pc' := 234) rfl (hb hby d5_228) (by decide) (by decide) k_) ?_
      refine Go.on (g' := (mkF m 131 _ [])) (fun t_ k_ => XS.goto X0.here hx rfl (pc0 := 234) (pc' := 131) rfl (hb hby d5_234) (by decide) (by decide) k_) ?_
      rw [own_22, if_neg hJ210, if_pos q1]
      exact nd23_1_2 l Z w0 hw ws aw ab ar p e s m below meth c h0 n0 T0 _ X0 hx hby hml hret hlk hZ _ e0 Z0 N0 EX0 nar mar nwr nbr cw AW y0 y1 y2 y3 y4 y5 HW cb AB b11 b12 b13 b21 b22 b23 HB _ AR SZ ((-1) : Int32) H0 H1 (.val (.int (10 : Int32))) (.val (.int y4)) (One.val rfl) (One.val rfl)
  · show Go p e below _ _ (mkF m 169 _ [(.int y4)])
    refine Go.ifc X0 hx hby d5_169 (pcT := 210) (pcF := 172) (by decide) (by decide) rfl (fun q => ?_) (fun q => ?_)
    · have q2 := iLe.1 q
      clear q
      show Go p e below _ _ (mkF m 210 _ [])
      exact J210 () (fun z => q2 z.1)
    · have q2 := iLe.2 q
      clear q
      show Go p e below _ _ (mkF m 172 _ [])
      refine Go.on (g' := (mkF m 173 _ [(.ref ab)])) (fun t_ k_ => XS.aloadN X0.here hx rfl (hb hby d5_172) rfl rfl k_) ?_
      refine Go.on (g' := (mkF m 175 _ [(.int (10 : Int32)), (.ref ab)])) (fun t_ k_ => XS.iload X0.here hx rfl (hb hby d5_173) rfl k_) ?_
      refine Go.on (g' := (mkF m 176 _ [(.int b22)])) (X0.iaload hx (j := (10 : Int32)) (v := (.int b22)) (by rw [e0]; exact AB.1) (State.isArrayOf_alike hZ.alike AB.2.1) AB.2.2 (by rw [HB.1]; decide) HB.2.2.2.2.2.2.2.2.2.2.2.1 (g := (mkF m 175 #[.val (.ref aw), .val (.int (2 : Int32)), .val (.int (3 : Int32)), .val (.ref ab), .val (.ref ar), .val (.int (2 : Int32)), .val (.int (2 : Int32)), .val (.int (10 : Int32)), .val (.int y4)] [(.int (10 : Int32)), (.ref ab)])) rfl rfl (hb hby d5_175)) ?_
      refine Go.on (g' := (mkF m 177 _ [(.ref ab), (.int b22)])) (fun t_ k_ => XS.aloadN X0.here hx rfl (hb hby d5_176) rfl rfl k_) ?_
      refine Go.on (g' := (mkF m 179 _ [(.int (10 : Int32)), (.ref ab), (.int b22)])) (fun t_ k_ => XS.iload X0.here hx rfl (hb hby d5_177) rfl k_) ?_
      refine Go.on (g' := (mkF m 180 _ [(.int (3 : Int32)), (.int (10 : Int32)), (.ref ab), (.int b22)])) (fun t_ k_ => XS.iloadN X0.here hx rfl (hb hby d5_179) rfl k_) ?_
      refine Go.on (g' := (mkF m 181 _ [(.int ((10 : Int32) - (3 : Int32))), (.ref ab), (.int b22)])) (fun t_ k_ => XS.isub X0.here hx rfl (hb hby d5_180) rfl k_) ?_
      rw [show ((10 : Int32) - (3 : Int32)) = (7 : Int32) from by decide]
      refine Go.on (g' := (mkF m 182 _ [(.int (2 : Int32)), (.int (7 : Int32)), (.ref ab), (.int b22)])) (fun t_ k_ => XS.iconst X0.here hx rfl (hb hby d5_181) k_) ?_
      refine Go.on (g' := (mkF m 183 _ [(.int ((7 : Int32) - (2 : Int32))), (.ref ab), (.int b22)])) (fun t_ k_ => XS.isub X0.here hx rfl (hb hby d5_182) rfl k_) ?_
      rw [show ((7 : Int32) - (2 : Int32)) = (5 : Int32) from by decide]
      refine Go.on (g' := (mkF m 184 _ [(.int b11), (.int b22)])) (X0.iaload hx (j := (5 : Int32)) (v := (.int b11)) (by rw [e0]; exact AB.1) (State.isArrayOf_alike hZ.alike AB.2.1) AB.2.2 (by rw [HB.1]; decide) HB.2.2.2.2.2.2.1 (g := (mkF m 183 #[.val (.ref aw), .val (.int (2 : Int32)), .val (.int (3 : Int32)), .val (.ref ab), .val (.ref ar), .val (.int (2 : Int32)), .val (.int (2 : Int32)), .val (.int (10 : Int32)), .val (.int y4)] [(.int (5 : Int32)), (.ref ab), (.int b22)])) rfl rfl (hb hby d5_183)) ?_
      refine Go.on (g' := (mkF m 186 _ [(.int y4), (.int b11), (.int b22)])) (fun t_ k_ => XS.iload X0.here hx rfl (hb hby d5_184) rfl k_) ?_
      refine Go.on (g' := (mkF m 187 _ [(.int (b11 + y4)), (.int b22)])) (fun t_ k_ => XS.iadd X0.here hx rfl (hb hby d5_186) rfl k_) ?_
      refine Go.icmp X0 hx hby d5_187 (pcT := 210) (pcF := 190) (by decide) (by decide) rfl (fun q => ?_) (fun q => ?_)
      · have q3 := iNe.1 q
        clear q
        show Go p e below _ _ (mkF m 210 _ [])
        exact J210 () (fun z => q3 z.2)
      · have q3 := iNe.2 q
        clear q
        show Go p e below _ _ (mkF m 190 _ [])
        refine Go.on (g' := (mkF m 192 _ [(.ref ar)])) (fun t_ k_ => XS.aload X0.here hx rfl (hb hby d5_190) rfl rfl k_) ?_
        refine Go.on (g' := (mkF m 194 _ [(.int (2 : Int32)), (.ref ar)])) (fun t_ k_ => XS.iload X0.here hx rfl (hb hby d5_192) rfl k_) ?_
        refine Go.on (g' := (mkF m 195 _ [(.int (1 : Int32)), (.int (2 : Int32)), (.ref ar)])) (fun t_ k_ => XS.iconst X0.here hx rfl (hb hby d5_194) k_) ?_
        refine Go.on (g' := (mkF m 196 _ [(.int ((2 : Int32) - (1 : Int32))), (.ref ar)])) (fun t_ k_ => XS.isub X0.here hx rfl (hb hby d5_195) rfl k_) ?_
        rw [show ((2 : Int32) - (1 : Int32)) = (1 : Int32) from by decide]
        refine Go.on (g' := (mkF m 198 _ [(.int (2 : Int32)), (.int (1 : Int32)), (.ref ar)])) (fun t_ k_ => XS.iload X0.here hx rfl (hb hby d5_196) rfl k_) ?_
        refine Go.on (g' := (mkF m 199 _ [(.int (1 : Int32)), (.int (2 : Int32)), (.int (1 : Int32)), (.ref ar)])) (fun t_ k_ => XS.iconst X0.here hx rfl (hb hby d5_198) k_) ?_
        refine Go.on (g' := (mkF m 200 _ [(.int ((2 : Int32) - (1 : Int32))), (.int (1 : Int32)), (.ref ar)])) (fun t_ k_ => XS.isub X0.here hx rfl (hb hby d5_199) rfl k_) ?_
        rw [show ((2 : Int32) - (1 : Int32)) = (1 : Int32) from by decide]
        have hi_200 : ¬ ((1 : Int32) < 0 ∨ cr.slots.size ≤ ((1 : Int32)).toNatClampNeg) := by rw [SZ]; decide
        obtain ⟨T1, h1, X1, e1, W1, st1⟩ := stI X0 hx hZ e0 AR (j := (1 : Int32)) hi_200 (g := (mkF m 200 #[.val (.ref aw), .val (.int (2 : Int32)), .val (.int (3 : Int32)), .val (.ref ab), .val (.ref ar), .val (.int (2 : Int32)), .val (.int (2 : Int32)), .val (.int (10 : Int32)), .val (.int y4)] [(.int (1 : Int32)), (.int (1 : Int32)), (.ref ar)])) rfl rfl (hb hby d5_200)
        have N1 := Fr.snoc X1 N0 nar
        have Z1 : n0 ≤ h1.size := by rw [W1.size]; exact Z0
        have arr_aw_1 := AW.other W1 nwr
        have arr_ab_1 := AB.other W1 nbr
        have EX_1 := extWr EX0 W1 mar
        have A1 := AR.same W1
        refine Go.on (g' := (mkF m 201 _ [])) (st1) ?_
        have sz1 := (sz_set cr ((1 : Int32)).toNatClampNeg (.int (1 : Int32))).trans SZ
        have hr0_1 := (get_miss (c := cr) (j := (1 : Int32)) (k := (0 : Int32)) (v := .int (1 : Int32)) (by decide) (by decide) (by decide)).trans H0
        have hr1_1 := get_hit (v := .int (1 : Int32)) hi_200 (rfl : (1 : Int32) = (1 : Int32))
        refine Go.on (g' := (mkF m 204 #[.val (.ref aw), .val (.int (2 : Int32)), .val (.int (3 : Int32)), .val (.ref ab), .val (.ref ar), .val (.int ((2 : Int32) + ((-1) : Int32))), .val (.int (2 : Int32)), .val (.int (10 : Int32)), .val (.int y4)] [])) (fun t_ k_ => XS.iinc X1.here hx rfl (hb hby d5_201) rfl (l' := #[.val (.ref aw), .val (.int (2 : Int32)), .val (.int (3 : Int32)), .val (.ref ab), .val (.ref ar), .val (.int ((2 : Int32) + ((-1) : Int32))), .val (.int (2 : Int32)), .val (.int (10 : Int32)), .val (.int y4)]) rfl k_) ?_
        rw [show ((2 : Int32) + ((-1) : Int32)) = (1 : Int32) from by decide]
        refine Go.on (g' := (mkF m 207 #[.val (.ref aw), .val (.int (2 : Int32)), .val (.int (3 : Int32)), .val (.ref ab), .val (.ref ar), .val (.int (1 : Int32)), .val (.int ((2 : Int32) + ((-1) : Int32))), .val (.int (10 : Int32)), .val (.int y4)] [])) (fun t_ k_ => XS.iinc X1.here hx rfl (hb hby d5_204) rfl (l' := #[.val (.ref aw), .val (.int (2 : Int32)), .val (.int (3 : Int32)), .val (.ref ab), .val (.ref ar), .val (.int (1 : Int32)), .val (.int ((2 : Int32) + ((-1) : Int32))), .val (.int (10 : Int32)), .val (.int y4)]) rfl k_) ?_
        rw [show ((2 : Int32) + ((-1) : Int32)) = (1 : Int32) from by decide]
        refine Go.on (g' := (mkF m 234 _ [])) (fun t_ k_ => XS.goto X1.here hx rfl (pc0 := 207) (pc' := 234) rfl (hb hby d5_207) (by decide) (by decide) k_) ?_
        refine Go.on (g' := (mkF m 131 _ [])) (fun t_ k_ => XS.goto X1.here hx rfl (pc0 := 234) (pc' := 131) rfl (hb hby d5_234) (by decide) (by decide) k_) ?_
        rw [own_22, if_pos ⟨q2, q3⟩]
        exact nd23_1_1 l Z w0 hw ws aw ab ar p e s m below meth c h0 n0 T1 _ X1 hx hby hml hret hlk hZ _ e1 Z1 N1 EX_1 nar mar nwr nbr cw arr_aw_1 y0 y1 y2 y3 y4 y5 HW cb arr_ab_1 b11 b12 b13 b21 b22 b23 HB _ A1 sz1 (1 : Int32) hr0_1 hr1_1 (.val (.int (10 : Int32))) (.val (.int y4)) (One.val rfl) (One.val rfl)
set_option maxRecDepth 65536 in
set_option maxHeartbeats 40000000 in
theorem nd23_2_3 (l : Launch) (Z : State) (w0 : Array Value) (hw : ∀ d ∈ tables_1, d.before w0 Z = true) (ws : List Jvm.Cond) (aw ab ar : Addr) (p : Program) (e : Env) (s : State) (m : MethodId) (below : List Frame) (meth : Method) (c : Code) (h0 : Heap) (n0 : Nat) (T0 : State) (locs : List Loc) (X0 : Stand p l e ({ frames := 1, cells := 2, slots := 14, locals := 15 } : Room) s m #[.ref aw, .int (2 : Int32), .int (3 : Int32)] below meth c T0 locs 2 14) (hx : p.tables.exec = Jvm.exec) (hby : c.code = prog_7_method_2_code) (hml : c.maxLocals = 9) (hret : meth.sig.returnType = (some (.array .int))) (hlk : meth.locks = false) (hZ : Z.Warmed39 s.vm) (hh : Heap) (e0 : T0.heap = hh) (Z0 : n0 ≤ hh.size) (N0 : Fr n0 locs) (EX0 : Ext h0 hh) (nar : n0 ≤ ar) (mar : h0.size ≤ ar) (nwr : aw ≠ ar) (nbr : ab ≠ ar) (cw : Cell) (AW : Arr Z hh aw cw .int) (y0 y1 y2 y3 y4 y5 : Int32) (HW : own_W23 cw y0 y1 y2 y3 y4 y5) (cb : Cell) (AB : Arr Z hh ab cb .int) (b11 b12 b13 b21 b22 b23 : Int32) (HB : own_B23 cb b11 b12 b13 b21 b22 b23) (cr : Cell) (AR : Arr Z hh ar cr .int) (SZ : cr.slots.size = 2)  (H0 : cr.slots[(0 : Int32).toNatClampNeg]? = some (.int ((-1) : Int32))) (H1 : cr.slots[(1 : Int32).toNatClampNeg]? = some (.int ((-1) : Int32))) (x7 x8 : Slot) (O7 : One x7) (O8 : One x8) : Go p e below (EndK s (own_Q2 Z (own_23 y0 y1 y2 y3 y4 y5 b11 b12 b13 b21 b22 b23) h0 n0) 2 14) T0 (mkF m 131 #[.val (.ref aw), .val (.int (2 : Int32)), .val (.int (3 : Int32)), .val (.ref ab), .val (.ref ar), .val (.int (2 : Int32)), .val (.int (3 : Int32)), x7, x8] []) := by
  refine Go.on (g' := (mkF m 133 _ [(.int (2 : Int32))])) (fun t_ k_ => XS.iload X0.here hx rfl (hb hby d5_131) rfl k_) ?_
  refine Go.ifc X0 hx hby d5_133 (pcT := 237) (pcF := 136) (by decide) (by decide) rfl (fun q => absurd q (by decide)) (fun q => ?_)
  clear q
  show Go p e below _ _ (mkF m 136 _ [])
  refine Go.on (g' := (mkF m 138 _ [(.int (3 : Int32))])) (fun t_ k_ => XS.iload X0.here hx rfl (hb hby d5_136) rfl k_) ?_
  refine Go.ifc X0 hx hby d5_138 (pcT := 237) (pcF := 141) (by decide) (by decide) rfl (fun q => absurd q (by decide)) (fun q => ?_)
  clear q
  show Go p e below _ _ (mkF m 141 _ [])
  refine Go.on (g' := (mkF m 143 _ [(.int (2 : Int32))])) (fun t_ k_ => XS.iload X0.here hx rfl (hb hby d5_141) rfl k_) ?_
  refine Go.on (g' := (mkF m 144 _ [(.int (3 : Int32)), (.int (2 : Int32))])) (fun t_ k_ => XS.iloadN X0.here hx rfl (hb hby d5_143) rfl k_) ?_
  refine Go.on (g' := (mkF m 145 _ [(.int (1 : Int32)), (.int (3 : Int32)), (.int (2 : Int32))])) (fun t_ k_ => XS.iconst X0.here hx rfl (hb hby d5_144) k_) ?_
  refine Go.on (g' := (mkF m 146 _ [(.int ((3 : Int32) + (1 : Int32))), (.int (2 : Int32))])) (fun t_ k_ => XS.iadd X0.here hx rfl (hb hby d5_145) rfl k_) ?_
  rw [show ((3 : Int32) + (1 : Int32)) = (4 : Int32) from by decide]
  refine Go.on (g' := (mkF m 147 _ [(.int ((2 : Int32) * (4 : Int32)))])) (fun t_ k_ => XS.imul X0.here hx rfl (hb hby d5_146) rfl k_) ?_
  rw [show ((2 : Int32) * (4 : Int32)) = (8 : Int32) from by decide]
  refine Go.on (g' := (mkF m 149 _ [(.int (3 : Int32)), (.int (8 : Int32))])) (fun t_ k_ => XS.iload X0.here hx rfl (hb hby d5_147) rfl k_) ?_
  refine Go.on (g' := (mkF m 150 _ [(.int ((8 : Int32) + (3 : Int32)))])) (fun t_ k_ => XS.iadd X0.here hx rfl (hb hby d5_149) rfl k_) ?_
  rw [show ((8 : Int32) + (3 : Int32)) = (11 : Int32) from by decide]
  refine Go.on (g' := (mkF m 152 #[.val (.ref aw), .val (.int (2 : Int32)), .val (.int (3 : Int32)), .val (.ref ab), .val (.ref ar), .val (.int (2 : Int32)), .val (.int (3 : Int32)), .val (.int (11 : Int32)), x8] [])) (fun t_ k_ => XS.istore X0.here hx rfl (hb hby d5_150) rfl (l' := #[.val (.ref aw), .val (.int (2 : Int32)), .val (.int (3 : Int32)), .val (.ref ab), .val (.ref ar), .val (.int (2 : Int32)), .val (.int (3 : Int32)), .val (.int (11 : Int32)), x8]) (XS.store1 (o := x7) rfl O7 rfl) k_) ?_
  refine Go.on (g' := (mkF m 153 _ [(.ref aw)])) (fun t_ k_ => XS.aloadN X0.here hx rfl (hb hby d5_152) rfl rfl k_) ?_
  refine Go.on (g' := (mkF m 155 _ [(.int (2 : Int32)), (.ref aw)])) (fun t_ k_ => XS.iload X0.here hx rfl (hb hby d5_153) rfl k_) ?_
  refine Go.on (g' := (mkF m 156 _ [(.int (1 : Int32)), (.int (2 : Int32)), (.ref aw)])) (fun t_ k_ => XS.iconst X0.here hx rfl (hb hby d5_155) k_) ?_
  refine Go.on (g' := (mkF m 157 _ [(.int ((2 : Int32) - (1 : Int32))), (.ref aw)])) (fun t_ k_ => XS.isub X0.here hx rfl (hb hby d5_156) rfl k_) ?_
  rw [show ((2 : Int32) - (1 : Int32)) = (1 : Int32) from by decide]
  refine Go.on (g' := (mkF m 158 _ [(.int (3 : Int32)), (.int (1 : Int32)), (.ref aw)])) (fun t_ k_ => XS.iloadN X0.here hx rfl (hb hby d5_157) rfl k_) ?_
  refine Go.on (g' := (mkF m 159 _ [(.int ((1 : Int32) * (3 : Int32))), (.ref aw)])) (fun t_ k_ => XS.imul X0.here hx rfl (hb hby d5_158) rfl k_) ?_
  rw [show ((1 : Int32) * (3 : Int32)) = (3 : Int32) from by decide]
  refine Go.on (g' := (mkF m 161 _ [(.int (3 : Int32)), (.int (3 : Int32)), (.ref aw)])) (fun t_ k_ => XS.iload X0.here hx rfl (hb hby d5_159) rfl k_) ?_
  refine Go.on (g' := (mkF m 162 _ [(.int ((3 : Int32) + (3 : Int32))), (.ref aw)])) (fun t_ k_ => XS.iadd X0.here hx rfl (hb hby d5_161) rfl k_) ?_
  rw [show ((3 : Int32) + (3 : Int32)) = (6 : Int32) from by decide]
  refine Go.on (g' := (mkF m 163 _ [(.int (1 : Int32)), (.int (6 : Int32)), (.ref aw)])) (fun t_ k_ => XS.iconst X0.here hx rfl (hb hby d5_162) k_) ?_
  refine Go.on (g' := (mkF m 164 _ [(.int ((6 : Int32) - (1 : Int32))), (.ref aw)])) (fun t_ k_ => XS.isub X0.here hx rfl (hb hby d5_163) rfl k_) ?_
  rw [show ((6 : Int32) - (1 : Int32)) = (5 : Int32) from by decide]
  refine Go.on (g' := (mkF m 165 _ [(.int y5)])) (X0.iaload hx (j := (5 : Int32)) (v := (.int y5)) (by rw [e0]; exact AW.1) (State.isArrayOf_alike hZ.alike AW.2.1) AW.2.2 (by rw [HW.1]; decide) HW.2.2.2.2.2.2 (g := (mkF m 164 #[.val (.ref aw), .val (.int (2 : Int32)), .val (.int (3 : Int32)), .val (.ref ab), .val (.ref ar), .val (.int (2 : Int32)), .val (.int (3 : Int32)), .val (.int (11 : Int32)), x8] [(.int (5 : Int32)), (.ref aw)])) rfl rfl (hb hby d5_164)) ?_
  refine Go.on (g' := (mkF m 167 #[.val (.ref aw), .val (.int (2 : Int32)), .val (.int (3 : Int32)), .val (.ref ab), .val (.ref ar), .val (.int (2 : Int32)), .val (.int (3 : Int32)), .val (.int (11 : Int32)), .val (.int y5)] [])) (fun t_ k_ => XS.istore X0.here hx rfl (hb hby d5_165) rfl (l' := #[.val (.ref aw), .val (.int (2 : Int32)), .val (.int (3 : Int32)), .val (.ref ab), .val (.ref ar), .val (.int (2 : Int32)), .val (.int (3 : Int32)), .val (.int (11 : Int32)), .val (.int y5)]) (XS.store1 (o := x8) rfl O8 rfl) k_) ?_
  refine Go.on (g' := (mkF m 169 _ [(.int y5)])) (fun t_ k_ => XS.iload X0.here hx rfl (hb hby d5_167) rfl k_) ?_
  refine Go.join (P := fun _ : Unit => ¬ (0 < y5 ∧ b23 = b12 + y5)) (g := fun _ => (mkF m 210 #[.val (.ref aw), .val (.int (2 : Int32)), .val (.int (3 : Int32)), .val (.ref ab), .val (.ref ar), .val (.int (2 : Int32)), .val (.int (3 : Int32)), .val (.int (11 : Int32)), .val (.int y5)] [])) (fun _ hJ210 => ?_) (fun J210 => ?_)
  · show Go p e below _ _ (mkF m 210 _ [])
    refine Go.on (g' := (mkF m 211 _ [(.ref ab)])) (fun t_ k_ => XS.aloadN X0.here hx rfl (hb hby d5_210) rfl rfl k_) ?_
    refine Go.on (g' := (mkF m 213 _ [(.int (11 : Int32)), (.ref ab)])) (fun t_ k_ => XS.iload X0.here hx rfl (hb hby d5_211) rfl k_) ?_
    refine Go.on (g' := (mkF m 214 _ [(.int b23)])) (X0.iaload hx (j := (11 : Int32)) (v := (.int b23)) (by rw [e0]; exact AB.1) (State.isArrayOf_alike hZ.alike AB.2.1) AB.2.2 (by rw [HB.1]; decide) HB.2.2.2.2.2.2.2.2.2.2.2.2 (g := (mkF m 213 #[.val (.ref aw), .val (.int (2 : Int32)), .val (.int (3 : Int32)), .val (.ref ab), .val (.ref ar), .val (.int (2 : Int32)), .val (.int (3 : Int32)), .val (.int (11 : Int32)), .val (.int y5)] [(.int (11 : Int32)), (.ref ab)])) rfl rfl (hb hby d5_213)) ?_
    refine Go.on (g' := (mkF m 215 _ [(.ref ab), (.int b23)])) (fun t_ k_ => XS.aloadN X0.here hx rfl (hb hby d5_214) rfl rfl k_) ?_
    refine Go.on (g' := (mkF m 217 _ [(.int (11 : Int32)), (.ref ab), (.int b23)])) (fun t_ k_ => XS.iload X0.here hx rfl (hb hby d5_215) rfl k_) ?_
    refine Go.on (g' := (mkF m 218 _ [(.int (3 : Int32)), (.int (11 : Int32)), (.ref ab), (.int b23)])) (fun t_ k_ => XS.iloadN X0.here hx rfl (hb hby d5_217) rfl k_) ?_
    refine Go.on (g' := (mkF m 219 _ [(.int ((11 : Int32) - (3 : Int32))), (.ref ab), (.int b23)])) (fun t_ k_ => XS.isub X0.here hx rfl (hb hby d5_218) rfl k_) ?_
    rw [show ((11 : Int32) - (3 : Int32)) = (8 : Int32) from by decide]
    refine Go.on (g' := (mkF m 220 _ [(.int (1 : Int32)), (.int (8 : Int32)), (.ref ab), (.int b23)])) (fun t_ k_ => XS.iconst X0.here hx rfl (hb hby d5_219) k_) ?_
    refine Go.on (g' := (mkF m 221 _ [(.int ((8 : Int32) - (1 : Int32))), (.ref ab), (.int b23)])) (fun t_ k_ => XS.isub X0.here hx rfl (hb hby d5_220) rfl k_) ?_
    rw [show ((8 : Int32) - (1 : Int32)) = (7 : Int32) from by decide]
    refine Go.on (g' := (mkF m 222 _ [(.int b13), (.int b23)])) (X0.iaload hx (j := (7 : Int32)) (v := (.int b13)) (by rw [e0]; exact AB.1) (State.isArrayOf_alike hZ.alike AB.2.1) AB.2.2 (by rw [HB.1]; decide) HB.2.2.2.2.2.2.2.2.1 (g := (mkF m 221 #[.val (.ref aw), .val (.int (2 : Int32)), .val (.int (3 : Int32)), .val (.ref ab), .val (.ref ar), .val (.int (2 : Int32)), .val (.int (3 : Int32)), .val (.int (11 : Int32)), .val (.int y5)] [(.int (7 : Int32)), (.ref ab), (.int b23)])) rfl rfl (hb hby d5_221)) ?_
    refine Go.icmp X0 hx hby d5_222 (pcT := 231) (pcF := 225) (by decide) (by decide) rfl (fun q => ?_) (fun q => ?_)
    · have q1 := iNe.1 q
      clear q
      show Go p e below _ _ (mkF m 231 _ [])
      refine Go.on (g' := (mkF m 234 #[.val (.ref aw), .val (.int (2 : Int32)), .val (.int (3 : Int32)), .val (.ref ab), .val (.ref ar), .val (.int (2 : Int32)), .val (.int ((3 : Int32) + ((-1) : Int32))), .val (.int (11 : Int32)), .val (.int y5)] [])) (fun t_ k_ => XS.iinc X0.here hx rfl (hb hby d5_231) rfl (l' := #[.val (.ref aw), .val (.int (2 : Int32)), .val (.int (3 : Int32)), .val (.ref ab), .val (.ref ar), .val (.int (2 : Int32)), .val (.int ((3 : Int32) + ((-1) : Int32))), .val (.int (11 : Int32)), .val (.int y5)]) rfl k_) ?_
      rw [show ((3 : Int32) + ((-1) : Int32)) = (2 : Int32) from by decide]
      refine Go.on (g' := (mkF m 131 _ [])) (fun t_ k_ => XS.goto X0.here hx rfl (pc0 := 234) (pc' := 131) rfl (hb hby d5_234) (by decide) (by decide) k_) ?_
      rw [own_23, if_neg hJ210, if_neg q1]
      exact nd23_2_2 l Z w0 hw ws aw ab ar p e s m below meth c h0 n0 T0 _ X0 hx hby hml hret hlk hZ _ e0 Z0 N0 EX0 nar mar nwr nbr cw AW y0 y1 y2 y3 y4 y5 HW cb AB b11 b12 b13 b21 b22 b23 HB _ AR SZ  H0 H1 (.val (.int (11 : Int32))) (.val (.int y5)) (One.val rfl) (One.val rfl)
    · have q1 := iNe.2 q
      clear q
      show Go p e below _ _ (mkF m 225 _ [])
      refine Go.on (g' := (mkF m 228 #[.val (.ref aw), .val (.int (2 : Int32)), .val (.int (3 : Int32)), .val (.ref ab), .val (.ref ar), .val (.int ((2 : Int32) + ((-1) : Int32))), .val (.int (3 : Int32)), .val (.int (11 : Int32)), .val (.int y5)] [])) (fun t_ k_ => XS.iinc X0.here hx rfl (hb hby d5_225) rfl (l' := #[.val (.ref aw), .val (.int (2 : Int32)), .val (.int (3 : Int32)), .val (.ref ab), .val (.ref ar), .val (.int ((2 : Int32) + ((-1) : Int32))), .val (.int (3 : Int32)), .val (.int (11 : Int32)), .val (.int y5)]) rfl k_) ?_
      rw [show ((2 : Int32) + ((-1) : Int32)) = (1 : Int32) from by decide]
      refine Go.on (g' := (mkF m 234 _ [])) (fun t_ k_ => XS.goto X0.here hx rfl (pc0 := 228) (pc' := 234) rfl (hb hby d5_228) (by decide) (by decide) k_) ?_
      refine Go.on (g' := (mkF m 131 _ [])) (fun t_ k_ => XS.goto X0.here hx rfl (pc0 := 234) (pc' := 131) rfl (hb hby d5_234) (by decide) (by decide) k_) ?_
      rw [own_23, if_neg hJ210, if_pos q1]
      exact nd23_1_3 l Z w0 hw ws aw ab ar p e s m below meth c h0 n0 T0 _ X0 hx hby hml hret hlk hZ _ e0 Z0 N0 EX0 nar mar nwr nbr cw AW y0 y1 y2 y3 y4 y5 HW cb AB b11 b12 b13 b21 b22 b23 HB _ AR SZ ((-1) : Int32) H0 H1 (.val (.int (11 : Int32))) (.val (.int y5)) (One.val rfl) (One.val rfl)
  · show Go p e below _ _ (mkF m 169 _ [(.int y5)])
    refine Go.ifc X0 hx hby d5_169 (pcT := 210) (pcF := 172) (by decide) (by decide) rfl (fun q => ?_) (fun q => ?_)
    · have q2 := iLe.1 q
      clear q
      show Go p e below _ _ (mkF m 210 _ [])
      exact J210 () (fun z => q2 z.1)
    · have q2 := iLe.2 q
      clear q
      show Go p e below _ _ (mkF m 172 _ [])
      refine Go.on (g' := (mkF m 173 _ [(.ref ab)])) (fun t_ k_ => XS.aloadN X0.here hx rfl (hb hby d5_172) rfl rfl k_) ?_
      refine Go.on (g' := (mkF m 175 _ [(.int (11 : Int32)), (.ref ab)])) (fun t_ k_ => XS.iload X0.here hx rfl (hb hby d5_173) rfl k_) ?_
      refine Go.on (g' := (mkF m 176 _ [(.int b23)])) (X0.iaload hx (j := (11 : Int32)) (v := (.int b23)) (by rw [e0]; exact AB.1) (State.isArrayOf_alike hZ.alike AB.2.1) AB.2.2 (by rw [HB.1]; decide) HB.2.2.2.2.2.2.2.2.2.2.2.2 (g := (mkF m 175 #[.val (.ref aw), .val (.int (2 : Int32)), .val (.int (3 : Int32)), .val (.ref ab), .val (.ref ar), .val (.int (2 : Int32)), .val (.int (3 : Int32)), .val (.int (11 : Int32)), .val (.int y5)] [(.int (11 : Int32)), (.ref ab)])) rfl rfl (hb hby d5_175)) ?_
      refine Go.on (g' := (mkF m 177 _ [(.ref ab), (.int b23)])) (fun t_ k_ => XS.aloadN X0.here hx rfl (hb hby d5_176) rfl rfl k_) ?_
      refine Go.on (g' := (mkF m 179 _ [(.int (11 : Int32)), (.ref ab), (.int b23)])) (fun t_ k_ => XS.iload X0.here hx rfl (hb hby d5_177) rfl k_) ?_
      refine Go.on (g' := (mkF m 180 _ [(.int (3 : Int32)), (.int (11 : Int32)), (.ref ab), (.int b23)])) (fun t_ k_ => XS.iloadN X0.here hx rfl (hb hby d5_179) rfl k_) ?_
      refine Go.on (g' := (mkF m 181 _ [(.int ((11 : Int32) - (3 : Int32))), (.ref ab), (.int b23)])) (fun t_ k_ => XS.isub X0.here hx rfl (hb hby d5_180) rfl k_) ?_
      rw [show ((11 : Int32) - (3 : Int32)) = (8 : Int32) from by decide]
      refine Go.on (g' := (mkF m 182 _ [(.int (2 : Int32)), (.int (8 : Int32)), (.ref ab), (.int b23)])) (fun t_ k_ => XS.iconst X0.here hx rfl (hb hby d5_181) k_) ?_
      refine Go.on (g' := (mkF m 183 _ [(.int ((8 : Int32) - (2 : Int32))), (.ref ab), (.int b23)])) (fun t_ k_ => XS.isub X0.here hx rfl (hb hby d5_182) rfl k_) ?_
      rw [show ((8 : Int32) - (2 : Int32)) = (6 : Int32) from by decide]
      refine Go.on (g' := (mkF m 184 _ [(.int b12), (.int b23)])) (X0.iaload hx (j := (6 : Int32)) (v := (.int b12)) (by rw [e0]; exact AB.1) (State.isArrayOf_alike hZ.alike AB.2.1) AB.2.2 (by rw [HB.1]; decide) HB.2.2.2.2.2.2.2.1 (g := (mkF m 183 #[.val (.ref aw), .val (.int (2 : Int32)), .val (.int (3 : Int32)), .val (.ref ab), .val (.ref ar), .val (.int (2 : Int32)), .val (.int (3 : Int32)), .val (.int (11 : Int32)), .val (.int y5)] [(.int (6 : Int32)), (.ref ab), (.int b23)])) rfl rfl (hb hby d5_183)) ?_
      refine Go.on (g' := (mkF m 186 _ [(.int y5), (.int b12), (.int b23)])) (fun t_ k_ => XS.iload X0.here hx rfl (hb hby d5_184) rfl k_) ?_
      refine Go.on (g' := (mkF m 187 _ [(.int (b12 + y5)), (.int b23)])) (fun t_ k_ => XS.iadd X0.here hx rfl (hb hby d5_186) rfl k_) ?_
      refine Go.icmp X0 hx hby d5_187 (pcT := 210) (pcF := 190) (by decide) (by decide) rfl (fun q => ?_) (fun q => ?_)
      · have q3 := iNe.1 q
        clear q
        show Go p e below _ _ (mkF m 210 _ [])
        exact J210 () (fun z => q3 z.2)
      · have q3 := iNe.2 q
        clear q
        show Go p e below _ _ (mkF m 190 _ [])
        refine Go.on (g' := (mkF m 192 _ [(.ref ar)])) (fun t_ k_ => XS.aload X0.here hx rfl (hb hby d5_190) rfl rfl k_) ?_
        refine Go.on (g' := (mkF m 194 _ [(.int (2 : Int32)), (.ref ar)])) (fun t_ k_ => XS.iload X0.here hx rfl (hb hby d5_192) rfl k_) ?_
        refine Go.on (g' := (mkF m 195 _ [(.int (1 : Int32)), (.int (2 : Int32)), (.ref ar)])) (fun t_ k_ => XS.iconst X0.here hx rfl (hb hby d5_194) k_) ?_
        refine Go.on (g' := (mkF m 196 _ [(.int ((2 : Int32) - (1 : Int32))), (.ref ar)])) (fun t_ k_ => XS.isub X0.here hx rfl (hb hby d5_195) rfl k_) ?_
        rw [show ((2 : Int32) - (1 : Int32)) = (1 : Int32) from by decide]
        refine Go.on (g' := (mkF m 198 _ [(.int (3 : Int32)), (.int (1 : Int32)), (.ref ar)])) (fun t_ k_ => XS.iload X0.here hx rfl (hb hby d5_196) rfl k_) ?_
        refine Go.on (g' := (mkF m 199 _ [(.int (1 : Int32)), (.int (3 : Int32)), (.int (1 : Int32)), (.ref ar)])) (fun t_ k_ => XS.iconst X0.here hx rfl (hb hby d5_198) k_) ?_
        refine Go.on (g' := (mkF m 200 _ [(.int ((3 : Int32) - (1 : Int32))), (.int (1 : Int32)), (.ref ar)])) (fun t_ k_ => XS.isub X0.here hx rfl (hb hby d5_199) rfl k_) ?_
        rw [show ((3 : Int32) - (1 : Int32)) = (2 : Int32) from by decide]
        have hi_200 : ¬ ((1 : Int32) < 0 ∨ cr.slots.size ≤ ((1 : Int32)).toNatClampNeg) := by rw [SZ]; decide
        obtain ⟨T1, h1, X1, e1, W1, st1⟩ := stI X0 hx hZ e0 AR (j := (1 : Int32)) hi_200 (g := (mkF m 200 #[.val (.ref aw), .val (.int (2 : Int32)), .val (.int (3 : Int32)), .val (.ref ab), .val (.ref ar), .val (.int (2 : Int32)), .val (.int (3 : Int32)), .val (.int (11 : Int32)), .val (.int y5)] [(.int (2 : Int32)), (.int (1 : Int32)), (.ref ar)])) rfl rfl (hb hby d5_200)
        have N1 := Fr.snoc X1 N0 nar
        have Z1 : n0 ≤ h1.size := by rw [W1.size]; exact Z0
        have arr_aw_1 := AW.other W1 nwr
        have arr_ab_1 := AB.other W1 nbr
        have EX_1 := extWr EX0 W1 mar
        have A1 := AR.same W1
        refine Go.on (g' := (mkF m 201 _ [])) (st1) ?_
        have sz1 := (sz_set cr ((1 : Int32)).toNatClampNeg (.int (2 : Int32))).trans SZ
        have hr0_1 := (get_miss (c := cr) (j := (1 : Int32)) (k := (0 : Int32)) (v := .int (2 : Int32)) (by decide) (by decide) (by decide)).trans H0
        have hr1_1 := get_hit (v := .int (2 : Int32)) hi_200 (rfl : (1 : Int32) = (1 : Int32))
        refine Go.on (g' := (mkF m 204 #[.val (.ref aw), .val (.int (2 : Int32)), .val (.int (3 : Int32)), .val (.ref ab), .val (.ref ar), .val (.int ((2 : Int32) + ((-1) : Int32))), .val (.int (3 : Int32)), .val (.int (11 : Int32)), .val (.int y5)] [])) (fun t_ k_ => XS.iinc X1.here hx rfl (hb hby d5_201) rfl (l' := #[.val (.ref aw), .val (.int (2 : Int32)), .val (.int (3 : Int32)), .val (.ref ab), .val (.ref ar), .val (.int ((2 : Int32) + ((-1) : Int32))), .val (.int (3 : Int32)), .val (.int (11 : Int32)), .val (.int y5)]) rfl k_) ?_
        rw [show ((2 : Int32) + ((-1) : Int32)) = (1 : Int32) from by decide]
        refine Go.on (g' := (mkF m 207 #[.val (.ref aw), .val (.int (2 : Int32)), .val (.int (3 : Int32)), .val (.ref ab), .val (.ref ar), .val (.int (1 : Int32)), .val (.int ((3 : Int32) + ((-1) : Int32))), .val (.int (11 : Int32)), .val (.int y5)] [])) (fun t_ k_ => XS.iinc X1.here hx rfl (hb hby d5_204) rfl (l' := #[.val (.ref aw), .val (.int (2 : Int32)), .val (.int (3 : Int32)), .val (.ref ab), .val (.ref ar), .val (.int (1 : Int32)), .val (.int ((3 : Int32) + ((-1) : Int32))), .val (.int (11 : Int32)), .val (.int y5)]) rfl k_) ?_
        rw [show ((3 : Int32) + ((-1) : Int32)) = (2 : Int32) from by decide]
        refine Go.on (g' := (mkF m 234 _ [])) (fun t_ k_ => XS.goto X1.here hx rfl (pc0 := 207) (pc' := 234) rfl (hb hby d5_207) (by decide) (by decide) k_) ?_
        refine Go.on (g' := (mkF m 131 _ [])) (fun t_ k_ => XS.goto X1.here hx rfl (pc0 := 234) (pc' := 131) rfl (hb hby d5_234) (by decide) (by decide) k_) ?_
        rw [own_23, if_pos ⟨q2, q3⟩]
        exact nd23_1_2 l Z w0 hw ws aw ab ar p e s m below meth c h0 n0 T1 _ X1 hx hby hml hret hlk hZ _ e1 Z1 N1 EX_1 nar mar nwr nbr cw arr_aw_1 y0 y1 y2 y3 y4 y5 HW cb arr_ab_1 b11 b12 b13 b21 b22 b23 HB _ A1 sz1 (2 : Int32) hr0_1 hr1_1 (.val (.int (11 : Int32))) (.val (.int y5)) (One.val rfl) (One.val rfl)
set_option maxRecDepth 65536 in
set_option maxHeartbeats 40000000 in
theorem rmPr23 (l : Launch) (Z : State) (w0 : Array Value) (hw : ∀ d ∈ tables_1, d.before w0 Z = true) (ws : List Jvm.Cond) (aw : Addr) (h0 : Heap) (n0 : Nat) (Z0 : n0 ≤ h0.size) (cw : Cell) (AW : Arr Z h0 aw cw .int) (y0 y1 y2 y3 y4 y5 : Int32) (HW : own_W23 cw y0 y1 y2 y3 y4 y5) : Pact l Z (⟨"com/example/same_shape/sameshape/service/OrderedPairing", "pair", "([III)[I"⟩ : MethodName) prog_7_method_2_code 9 (some (.array .int)) ws ({ frames := 1, cells := 2, slots := 14, locals := 15 } : Room) #[.ref aw, .int (2 : Int32), .int (3 : Int32)] h0 (own_Q2 Z (own_p23 y0 y1 y2 y3 y4 y5) h0 n0) := by
  refine Pact.intro (plainFor_of_name pnP) ?_
  intro p e s m below meth c T0 X0 hx hby hml hret hlk hown hnm hZ e0
  refine Go.at (efPr m aw (2 : Int32) (3 : Int32)) ?_
  have N0 := Fr.nil n0
  have EX0 : Ext h0 h0 := ⟨Nat.le_refl _, fun _ _ q => q⟩
  refine Go.on (g' := (mkF m 1 _ [(.int (2 : Int32))])) (fun t_ k_ => XS.iloadN X0.here hx rfl (hb hby d5_0) rfl k_) ?_
  refine Go.on (g' := (mkF m 2 _ [(.int (1 : Int32)), (.int (2 : Int32))])) (fun t_ k_ => XS.iconst X0.here hx rfl (hb hby d5_1) k_) ?_
  refine Go.on (g' := (mkF m 3 _ [(.int ((2 : Int32) + (1 : Int32)))])) (fun t_ k_ => XS.iadd X0.here hx rfl (hb hby d5_2) rfl k_) ?_
  rw [show ((2 : Int32) + (1 : Int32)) = (3 : Int32) from by decide]
  refine Go.on (g' := (mkF m 4 _ [(.int (3 : Int32)), (.int (3 : Int32))])) (fun t_ k_ => XS.iloadN X0.here hx rfl (hb hby d5_3) rfl k_) ?_
  refine Go.on (g' := (mkF m 5 _ [(.int (1 : Int32)), (.int (3 : Int32)), (.int (3 : Int32))])) (fun t_ k_ => XS.iconst X0.here hx rfl (hb hby d5_4) k_) ?_
  refine Go.on (g' := (mkF m 6 _ [(.int ((3 : Int32) + (1 : Int32))), (.int (3 : Int32))])) (fun t_ k_ => XS.iadd X0.here hx rfl (hb hby d5_5) rfl k_) ?_
  rw [show ((3 : Int32) + (1 : Int32)) = (4 : Int32) from by decide]
  refine Go.on (g' := (mkF m 7 _ [(.int ((3 : Int32) * (4 : Int32)))])) (fun t_ k_ => XS.imul X0.here hx rfl (hb hby d5_6) rfl k_) ?_
  rw [show ((3 : Int32) * (4 : Int32)) = (12 : Int32) from by decide]
  obtain ⟨T1, h1, cA1, X1, e1, E1, A1, st1⟩ := newP X0 hx hZ (hw _ (List.mem_of_getElem? (i := 0) rfl)) e0 (g := (mkF m 7 #[.val (.ref aw), .val (.int (2 : Int32)), .val (.int (3 : Int32)), .unset, .unset, .unset, .unset, .unset, .unset] [(.int (12 : Int32))])) rfl (hb hby d5_7) (n := (12 : Int32)) rfl (by decide) (cap := 12) (by decide) (by decide) (by decide) (by decide)
  obtain ⟨o1, go1⟩ : ∃ z, z = (h0).size := ⟨_, rfl⟩
  rw [← go1] at A1 st1
  have no1 : n0 ≤ o1 := Nat.le_trans Z0 (Nat.le_of_eq go1.symm)
  have Z1 : n0 ≤ h1.size := Nat.le_trans Z0 E1.1
  have EX_1 := extTrans EX0 E1
  have arr_aw_1 := AW.ext E1
  have mo1 : h0.size ≤ o1 := Nat.le_trans EX0.1 (Nat.le_of_eq go1.symm)
  have ne_aw_o1 : aw ≠ o1 := Nat.ne_of_lt (by rw [go1]; exact AW.lt)
  refine Go.on (g' := (mkF m 9 _ [(.ref o1)])) (st1) ?_
  refine Go.on (g' := (mkF m 10 #[.val (.ref aw), .val (.int (2 : Int32)), .val (.int (3 : Int32)), .val (.ref o1), .unset, .unset, .unset, .unset, .unset] [])) (fun t_ k_ => XS.astoreN X1.here hx rfl (hb hby d5_9) rfl rfl (l' := #[.val (.ref aw), .val (.int (2 : Int32)), .val (.int (3 : Int32)), .val (.ref o1), .unset, .unset, .unset, .unset, .unset]) rfl k_) ?_
  refine Go.on (g' := (mkF m 11 _ [(.int (1 : Int32))])) (fun t_ k_ => XS.iconst X1.here hx rfl (hb hby d5_10) k_) ?_
  refine Go.on (g' := (mkF m 13 #[.val (.ref aw), .val (.int (2 : Int32)), .val (.int (3 : Int32)), .val (.ref o1), .val (.int (1 : Int32)), .unset, .unset, .unset, .unset] [])) (fun t_ k_ => XS.istore X1.here hx rfl (hb hby d5_11) rfl (l' := #[.val (.ref aw), .val (.int (2 : Int32)), .val (.int (3 : Int32)), .val (.ref o1), .val (.int (1 : Int32)), .unset, .unset, .unset, .unset]) rfl k_) ?_
  refine Go.on (g' := (mkF m 15 _ [(.int (1 : Int32))])) (fun t_ k_ => XS.iload X1.here hx rfl (hb hby d5_13) rfl k_) ?_
  refine Go.on (g' := (mkF m 16 _ [(.int (2 : Int32)), (.int (1 : Int32))])) (fun t_ k_ => XS.iloadN X1.here hx rfl (hb hby d5_15) rfl k_) ?_
  refine Go.icmp X1 hx hby d5_16 (pcT := 114) (pcF := 19) (by decide) (by decide) rfl (fun q => absurd q (by decide)) (fun q => ?_)
  clear q
  show Go p e below _ _ (mkF m 19 _ [])
  refine Go.on (g' := (mkF m 20 _ [(.int (1 : Int32))])) (fun t_ k_ => XS.iconst X1.here hx rfl (hb hby d5_19) k_) ?_
  refine Go.on (g' := (mkF m 22 #[.val (.ref aw), .val (.int (2 : Int32)), .val (.int (3 : Int32)), .val (.ref o1), .val (.int (1 : Int32)), .val (.int (1 : Int32)), .unset, .unset, .unset] [])) (fun t_ k_ => XS.istore X1.here hx rfl (hb hby d5_20) rfl (l' := #[.val (.ref aw), .val (.int (2 : Int32)), .val (.int (3 : Int32)), .val (.ref o1), .val (.int (1 : Int32)), .val (.int (1 : Int32)), .unset, .unset, .unset]) rfl k_) ?_
  refine Go.on (g' := (mkF m 24 _ [(.int (1 : Int32))])) (fun t_ k_ => XS.iload X1.here hx rfl (hb hby d5_22) rfl k_) ?_
  refine Go.on (g' := (mkF m 25 _ [(.int (3 : Int32)), (.int (1 : Int32))])) (fun t_ k_ => XS.iloadN X1.here hx rfl (hb hby d5_24) rfl k_) ?_
  refine Go.icmp X1 hx hby d5_25 (pcT := 108) (pcF := 28) (by decide) (by decide) rfl (fun q => absurd q (by decide)) (fun q => ?_)
  clear q
  show Go p e below _ _ (mkF m 28 _ [])
  refine Go.on (g' := (mkF m 29 _ [(.ref aw)])) (fun t_ k_ => XS.aloadN X1.here hx rfl (hb hby d5_28) rfl rfl k_) ?_
  refine Go.on (g' := (mkF m 31 _ [(.int (1 : Int32)), (.ref aw)])) (fun t_ k_ => XS.iload X1.here hx rfl (hb hby d5_29) rfl k_) ?_
  refine Go.on (g' := (mkF m 32 _ [(.int (1 : Int32)), (.int (1 : Int32)), (.ref aw)])) (fun t_ k_ => XS.iconst X1.here hx rfl (hb hby d5_31) k_) ?_
  refine Go.on (g' := (mkF m 33 _ [(.int ((1 : Int32) - (1 : Int32))), (.ref aw)])) (fun t_ k_ => XS.isub X1.here hx rfl (hb hby d5_32) rfl k_) ?_
  rw [show ((1 : Int32) - (1 : Int32)) = (0 : Int32) from by decide]
  refine Go.on (g' := (mkF m 34 _ [(.int (3 : Int32)), (.int (0 : Int32)), (.ref aw)])) (fun t_ k_ => XS.iloadN X1.here hx rfl (hb hby d5_33) rfl k_) ?_
  refine Go.on (g' := (mkF m 35 _ [(.int ((0 : Int32) * (3 : Int32))), (.ref aw)])) (fun t_ k_ => XS.imul X1.here hx rfl (hb hby d5_34) rfl k_) ?_
  rw [show ((0 : Int32) * (3 : Int32)) = (0 : Int32) from by decide]
  refine Go.on (g' := (mkF m 37 _ [(.int (1 : Int32)), (.int (0 : Int32)), (.ref aw)])) (fun t_ k_ => XS.iload X1.here hx rfl (hb hby d5_35) rfl k_) ?_
  refine Go.on (g' := (mkF m 38 _ [(.int ((0 : Int32) + (1 : Int32))), (.ref aw)])) (fun t_ k_ => XS.iadd X1.here hx rfl (hb hby d5_37) rfl k_) ?_
  rw [show ((0 : Int32) + (1 : Int32)) = (1 : Int32) from by decide]
  refine Go.on (g' := (mkF m 39 _ [(.int (1 : Int32)), (.int (1 : Int32)), (.ref aw)])) (fun t_ k_ => XS.iconst X1.here hx rfl (hb hby d5_38) k_) ?_
  refine Go.on (g' := (mkF m 40 _ [(.int ((1 : Int32) - (1 : Int32))), (.ref aw)])) (fun t_ k_ => XS.isub X1.here hx rfl (hb hby d5_39) rfl k_) ?_
  rw [show ((1 : Int32) - (1 : Int32)) = (0 : Int32) from by decide]
  refine Go.on (g' := (mkF m 41 _ [(.int y0)])) (X1.iaload hx (j := (0 : Int32)) (v := (.int y0)) (by rw [e1]; exact arr_aw_1.1) (State.isArrayOf_alike hZ.alike arr_aw_1.2.1) arr_aw_1.2.2 (by rw [HW.1]; decide) HW.2.1 (g := (mkF m 40 #[.val (.ref aw), .val (.int (2 : Int32)), .val (.int (3 : Int32)), .val (.ref o1), .val (.int (1 : Int32)), .val (.int (1 : Int32)), .unset, .unset, .unset] [(.int (0 : Int32)), (.ref aw)])) rfl rfl (hb hby d5_40)) ?_
  refine Go.on (g' := (mkF m 43 #[.val (.ref aw), .val (.int (2 : Int32)), .val (.int (3 : Int32)), .val (.ref o1), .val (.int (1 : Int32)), .val (.int (1 : Int32)), .val (.int y0), .unset, .unset] [])) (fun t_ k_ => XS.istore X1.here hx rfl (hb hby d5_41) rfl (l' := #[.val (.ref aw), .val (.int (2 : Int32)), .val (.int (3 : Int32)), .val (.ref o1), .val (.int (1 : Int32)), .val (.int (1 : Int32)), .val (.int y0), .unset, .unset]) rfl k_) ?_
  refine Go.on (g' := (mkF m 45 _ [(.int (1 : Int32))])) (fun t_ k_ => XS.iload X1.here hx rfl (hb hby d5_43) rfl k_) ?_
  refine Go.on (g' := (mkF m 46 _ [(.int (3 : Int32)), (.int (1 : Int32))])) (fun t_ k_ => XS.iloadN X1.here hx rfl (hb hby d5_45) rfl k_) ?_
  refine Go.on (g' := (mkF m 47 _ [(.int (1 : Int32)), (.int (3 : Int32)), (.int (1 : Int32))])) (fun t_ k_ => XS.iconst X1.here hx rfl (hb hby d5_46) k_) ?_
  refine Go.on (g' := (mkF m 48 _ [(.int ((3 : Int32) + (1 : Int32))), (.int (1 : Int32))])) (fun t_ k_ => XS.iadd X1.here hx rfl (hb hby d5_47) rfl k_) ?_
  rw [show ((3 : Int32) + (1 : Int32)) = (4 : Int32) from by decide]
  refine Go.on (g' := (mkF m 49 _ [(.int ((1 : Int32) * (4 : Int32)))])) (fun t_ k_ => XS.imul X1.here hx rfl (hb hby d5_48) rfl k_) ?_
  rw [show ((1 : Int32) * (4 : Int32)) = (4 : Int32) from by decide]
  refine Go.on (g' := (mkF m 51 _ [(.int (1 : Int32)), (.int (4 : Int32))])) (fun t_ k_ => XS.iload X1.here hx rfl (hb hby d5_49) rfl k_) ?_
  refine Go.on (g' := (mkF m 52 _ [(.int ((4 : Int32) + (1 : Int32)))])) (fun t_ k_ => XS.iadd X1.here hx rfl (hb hby d5_51) rfl k_) ?_
  rw [show ((4 : Int32) + (1 : Int32)) = (5 : Int32) from by decide]
  refine Go.on (g' := (mkF m 54 #[.val (.ref aw), .val (.int (2 : Int32)), .val (.int (3 : Int32)), .val (.ref o1), .val (.int (1 : Int32)), .val (.int (1 : Int32)), .val (.int y0), .val (.int (5 : Int32)), .unset] [])) (fun t_ k_ => XS.istore X1.here hx rfl (hb hby d5_52) rfl (l' := #[.val (.ref aw), .val (.int (2 : Int32)), .val (.int (3 : Int32)), .val (.ref o1), .val (.int (1 : Int32)), .val (.int (1 : Int32)), .val (.int y0), .val (.int (5 : Int32)), .unset]) rfl k_) ?_
  refine Go.on (g' := (mkF m 55 _ [(.ref o1)])) (fun t_ k_ => XS.aloadN X1.here hx rfl (hb hby d5_54) rfl rfl k_) ?_
  refine Go.on (g' := (mkF m 57 _ [(.int (5 : Int32)), (.ref o1)])) (fun t_ k_ => XS.iload X1.here hx rfl (hb hby d5_55) rfl k_) ?_
  refine Go.on (g' := (mkF m 58 _ [(.int (3 : Int32)), (.int (5 : Int32)), (.ref o1)])) (fun t_ k_ => XS.iloadN X1.here hx rfl (hb hby d5_57) rfl k_) ?_
  refine Go.on (g' := (mkF m 59 _ [(.int ((5 : Int32) - (3 : Int32))), (.ref o1)])) (fun t_ k_ => XS.isub X1.here hx rfl (hb hby d5_58) rfl k_) ?_
  rw [show ((5 : Int32) - (3 : Int32)) = (2 : Int32) from by decide]
  refine Go.on (g' := (mkF m 60 _ [(.int (1 : Int32)), (.int (2 : Int32)), (.ref o1)])) (fun t_ k_ => XS.iconst X1.here hx rfl (hb hby d5_59) k_) ?_
  refine Go.on (g' := (mkF m 61 _ [(.int ((2 : Int32) - (1 : Int32))), (.ref o1)])) (fun t_ k_ => XS.isub X1.here hx rfl (hb hby d5_60) rfl k_) ?_
  rw [show ((2 : Int32) - (1 : Int32)) = (1 : Int32) from by decide]
  refine Go.on (g' := (mkF m 62 _ [(.int (0 : Int32))])) (X1.iaload hx (j := (1 : Int32)) (v := (.int (0 : Int32))) (by rw [e1]; exact A1.1) (State.isArrayOf_alike hZ.alike A1.2.1) A1.2.2 (by simp only [sz_set, sz_new]; decide) rfl (g := (mkF m 61 #[.val (.ref aw), .val (.int (2 : Int32)), .val (.int (3 : Int32)), .val (.ref o1), .val (.int (1 : Int32)), .val (.int (1 : Int32)), .val (.int y0), .val (.int (5 : Int32)), .unset] [(.int (1 : Int32)), (.ref o1)])) rfl rfl (hb hby d5_61)) ?_
  refine Go.on (g' := (mkF m 63 _ [(.ref o1), (.int (0 : Int32))])) (fun t_ k_ => XS.aloadN X1.here hx rfl (hb hby d5_62) rfl rfl k_) ?_
  refine Go.on (g' := (mkF m 65 _ [(.int (5 : Int32)), (.ref o1), (.int (0 : Int32))])) (fun t_ k_ => XS.iload X1.here hx rfl (hb hby d5_63) rfl k_) ?_
  refine Go.on (g' := (mkF m 66 _ [(.int (1 : Int32)), (.int (5 : Int32)), (.ref o1), (.int (0 : Int32))])) (fun t_ k_ => XS.iconst X1.here hx rfl (hb hby d5_65) k_) ?_
  refine Go.on (g' := (mkF m 67 _ [(.int ((5 : Int32) - (1 : Int32))), (.ref o1), (.int (0 : Int32))])) (fun t_ k_ => XS.isub X1.here hx rfl (hb hby d5_66) rfl k_) ?_
  rw [show ((5 : Int32) - (1 : Int32)) = (4 : Int32) from by decide]
  refine Go.on (g' := (mkF m 68 _ [(.int (0 : Int32)), (.int (0 : Int32))])) (X1.iaload hx (j := (4 : Int32)) (v := (.int (0 : Int32))) (by rw [e1]; exact A1.1) (State.isArrayOf_alike hZ.alike A1.2.1) A1.2.2 (by simp only [sz_set, sz_new]; decide) rfl (g := (mkF m 67 #[.val (.ref aw), .val (.int (2 : Int32)), .val (.int (3 : Int32)), .val (.ref o1), .val (.int (1 : Int32)), .val (.int (1 : Int32)), .val (.int y0), .val (.int (5 : Int32)), .unset] [(.int (4 : Int32)), (.ref o1), (.int (0 : Int32))])) rfl rfl (hb hby d5_67)) ?_
  refine Go.callS X1 hx hZ hby (by rw [hml]; rfl) (y := (⟨"java/lang/Math", "max", "(II)I"⟩ : MethodName)) hown (hw _ (List.mem_of_getElem? (i := 19) rfl)) (hw _ (List.mem_of_getElem? (i := 9) rfl)) (hw _ (List.mem_of_getElem? (i := 10) rfl)) (hw _ (List.mem_of_getElem? (i := 11) rfl)) (by decide) (argsL := [(.int (0 : Int32)), (.int (0 : Int32))]) (rest := []) (rmM l Z w0 hw [] (0 : Int32) (0 : Int32) h1) e1 0 (by decide) (by decide) (by decide) (by decide) rfl pdM rfl (Nat.le_of_eq rfl) d5_68 (pcF := 71) rfl ?_
  intro v2 T2 L2 X2 hQ2
  obtain ⟨rfl, rfl, e2⟩ := hQ2
  rw [List.append_nil] at X2
  show Go p e below _ _ (mkF m 71 _ [(.int (own_max (0 : Int32) (0 : Int32)))])
  refine Go.on (g' := (mkF m 73 #[.val (.ref aw), .val (.int (2 : Int32)), .val (.int (3 : Int32)), .val (.ref o1), .val (.int (1 : Int32)), .val (.int (1 : Int32)), .val (.int y0), .val (.int (5 : Int32)), .val (.int (own_max (0 : Int32) (0 : Int32)))] [])) (fun t_ k_ => XS.istore X2.here hx rfl (hb hby d5_71) rfl (l' := #[.val (.ref aw), .val (.int (2 : Int32)), .val (.int (3 : Int32)), .val (.ref o1), .val (.int (1 : Int32)), .val (.int (1 : Int32)), .val (.int y0), .val (.int (5 : Int32)), .val (.int (own_max (0 : Int32) (0 : Int32)))]) rfl k_) ?_
  refine Go.joinV (P := fun b11 : Int32 => b11 = own_cell y0 (own_max (0 : Int32) (0 : Int32)) (0 : Int32)) (g := fun b11 => (mkF m 96 #[.val (.ref aw), .val (.int (2 : Int32)), .val (.int (3 : Int32)), .val (.ref o1), .val (.int (1 : Int32)), .val (.int (1 : Int32)), .val (.int y0), .val (.int (5 : Int32)), .val (.int b11)] [])) X2 e2 (fun T3 b11 X3 e3 hb11 => ?_) (fun J => ?_)
  · have hc11 : own_c11 y0 = b11 := by rw [hb11, own_c11]
    show Go p e below _ _ (mkF m 96 _ [])
    refine Go.on (g' := (mkF m 97 _ [(.ref o1)])) (fun t_ k_ => XS.aloadN X3.here hx rfl (hb hby d5_96) rfl rfl k_) ?_
    refine Go.on (g' := (mkF m 99 _ [(.int (5 : Int32)), (.ref o1)])) (fun t_ k_ => XS.iload X3.here hx rfl (hb hby d5_97) rfl k_) ?_
    refine Go.on (g' := (mkF m 101 _ [(.int b11), (.int (5 : Int32)), (.ref o1)])) (fun t_ k_ => XS.iload X3.here hx rfl (hb hby d5_99) rfl k_) ?_
    obtain ⟨T4, h4, X4, e4, W4, st4⟩ := stI X3 hx hZ e3 A1 (j := (5 : Int32)) (by simp only [sz_set, sz_new]; decide) (g := (mkF m 101 #[.val (.ref aw), .val (.int (2 : Int32)), .val (.int (3 : Int32)), .val (.ref o1), .val (.int (1 : Int32)), .val (.int (1 : Int32)), .val (.int y0), .val (.int (5 : Int32)), .val (.int b11)] [(.int b11), (.int (5 : Int32)), (.ref o1)])) rfl rfl (hb hby d5_101)
    have N4 := Fr.snoc X4 N0 no1
    have Z4 : n0 ≤ h4.size := by rw [W4.size]; exact Z1
    have EX_4 := extWr EX_1 W4 mo1
    have arr_aw_4 := arr_aw_1.other W4 ne_aw_o1
    have A4 := A1.same W4
    refine Go.on (g' := (mkF m 102 _ [])) (st4) ?_
    refine Go.on (g' := (mkF m 105 #[.val (.ref aw), .val (.int (2 : Int32)), .val (.int (3 : Int32)), .val (.ref o1), .val (.int (1 : Int32)), .val (.int ((1 : Int32) + (1 : Int32))), .val (.int y0), .val (.int (5 : Int32)), .val (.int b11)] [])) (fun t_ k_ => XS.iinc X4.here hx rfl (hb hby d5_102) rfl (l' := #[.val (.ref aw), .val (.int (2 : Int32)), .val (.int (3 : Int32)), .val (.ref o1), .val (.int (1 : Int32)), .val (.int ((1 : Int32) + (1 : Int32))), .val (.int y0), .val (.int (5 : Int32)), .val (.int b11)]) rfl k_) ?_
    rw [show ((1 : Int32) + (1 : Int32)) = (2 : Int32) from by decide]
    refine Go.on (g' := (mkF m 22 _ [])) (fun t_ k_ => XS.goto X4.here hx rfl (pc0 := 105) (pc' := 22) rfl (hb hby d5_105) (by decide) (by decide) k_) ?_
    refine Go.on (g' := (mkF m 24 _ [(.int (2 : Int32))])) (fun t_ k_ => XS.iload X4.here hx rfl (hb hby d5_22) rfl k_) ?_
    refine Go.on (g' := (mkF m 25 _ [(.int (3 : Int32)), (.int (2 : Int32))])) (fun t_ k_ => XS.iloadN X4.here hx rfl (hb hby d5_24) rfl k_) ?_
    refine Go.icmp X4 hx hby d5_25 (pcT := 108) (pcF := 28) (by decide) (by decide) rfl (fun q => absurd q (by decide)) (fun q => ?_)
    clear q
    show Go p e below _ _ (mkF m 28 _ [])
    refine Go.on (g' := (mkF m 29 _ [(.ref aw)])) (fun t_ k_ => XS.aloadN X4.here hx rfl (hb hby d5_28) rfl rfl k_) ?_
    refine Go.on (g' := (mkF m 31 _ [(.int (1 : Int32)), (.ref aw)])) (fun t_ k_ => XS.iload X4.here hx rfl (hb hby d5_29) rfl k_) ?_
    refine Go.on (g' := (mkF m 32 _ [(.int (1 : Int32)), (.int (1 : Int32)), (.ref aw)])) (fun t_ k_ => XS.iconst X4.here hx rfl (hb hby d5_31) k_) ?_
    refine Go.on (g' := (mkF m 33 _ [(.int ((1 : Int32) - (1 : Int32))), (.ref aw)])) (fun t_ k_ => XS.isub X4.here hx rfl (hb hby d5_32) rfl k_) ?_
    rw [show ((1 : Int32) - (1 : Int32)) = (0 : Int32) from by decide]
    refine Go.on (g' := (mkF m 34 _ [(.int (3 : Int32)), (.int (0 : Int32)), (.ref aw)])) (fun t_ k_ => XS.iloadN X4.here hx rfl (hb hby d5_33) rfl k_) ?_
    refine Go.on (g' := (mkF m 35 _ [(.int ((0 : Int32) * (3 : Int32))), (.ref aw)])) (fun t_ k_ => XS.imul X4.here hx rfl (hb hby d5_34) rfl k_) ?_
    rw [show ((0 : Int32) * (3 : Int32)) = (0 : Int32) from by decide]
    refine Go.on (g' := (mkF m 37 _ [(.int (2 : Int32)), (.int (0 : Int32)), (.ref aw)])) (fun t_ k_ => XS.iload X4.here hx rfl (hb hby d5_35) rfl k_) ?_
    refine Go.on (g' := (mkF m 38 _ [(.int ((0 : Int32) + (2 : Int32))), (.ref aw)])) (fun t_ k_ => XS.iadd X4.here hx rfl (hb hby d5_37) rfl k_) ?_
    rw [show ((0 : Int32) + (2 : Int32)) = (2 : Int32) from by decide]
    refine Go.on (g' := (mkF m 39 _ [(.int (1 : Int32)), (.int (2 : Int32)), (.ref aw)])) (fun t_ k_ => XS.iconst X4.here hx rfl (hb hby d5_38) k_) ?_
    refine Go.on (g' := (mkF m 40 _ [(.int ((2 : Int32) - (1 : Int32))), (.ref aw)])) (fun t_ k_ => XS.isub X4.here hx rfl (hb hby d5_39) rfl k_) ?_
    rw [show ((2 : Int32) - (1 : Int32)) = (1 : Int32) from by decide]
    refine Go.on (g' := (mkF m 41 _ [(.int y1)])) (X4.iaload hx (j := (1 : Int32)) (v := (.int y1)) (by rw [e4]; exact arr_aw_4.1) (State.isArrayOf_alike hZ.alike arr_aw_4.2.1) arr_aw_4.2.2 (by rw [HW.1]; decide) HW.2.2.1 (g := (mkF m 40 #[.val (.ref aw), .val (.int (2 : Int32)), .val (.int (3 : Int32)), .val (.ref o1), .val (.int (1 : Int32)), .val (.int (2 : Int32)), .val (.int y0), .val (.int (5 : Int32)), .val (.int b11)] [(.int (1 : Int32)), (.ref aw)])) rfl rfl (hb hby d5_40)) ?_
    refine Go.on (g' := (mkF m 43 #[.val (.ref aw), .val (.int (2 : Int32)), .val (.int (3 : Int32)), .val (.ref o1), .val (.int (1 : Int32)), .val (.int (2 : Int32)), .val (.int y1), .val (.int (5 : Int32)), .val (.int b11)] [])) (fun t_ k_ => XS.istore X4.here hx rfl (hb hby d5_41) rfl (l' := #[.val (.ref aw), .val (.int (2 : Int32)), .val (.int (3 : Int32)), .val (.ref o1), .val (.int (1 : Int32)), .val (.int (2 : Int32)), .val (.int y1), .val (.int (5 : Int32)), .val (.int b11)]) rfl k_) ?_
    refine Go.on (g' := (mkF m 45 _ [(.int (1 : Int32))])) (fun t_ k_ => XS.iload X4.here hx rfl (hb hby d5_43) rfl k_) ?_
    refine Go.on (g' := (mkF m 46 _ [(.int (3 : Int32)), (.int (1 : Int32))])) (fun t_ k_ => XS.iloadN X4.here hx rfl (hb hby d5_45) rfl k_) ?_
    refine Go.on (g' := (mkF m 47 _ [(.int (1 : Int32)), (.int (3 : Int32)), (.int (1 : Int32))])) (fun t_ k_ => XS.iconst X4.here hx rfl (hb hby d5_46) k_) ?_
    refine Go.on (g' := (mkF m 48 _ [(.int ((3 : Int32) + (1 : Int32))), (.int (1 : Int32))])) (fun t_ k_ => XS.iadd X4.here hx rfl (hb hby d5_47) rfl k_) ?_
    rw [show ((3 : Int32) + (1 : Int32)) = (4 : Int32) from by decide]
    refine Go.on (g' := (mkF m 49 _ [(.int ((1 : Int32) * (4 : Int32)))])) (fun t_ k_ => XS.imul X4.here hx rfl (hb hby d5_48) rfl k_) ?_
    rw [show ((1 : Int32) * (4 : Int32)) = (4 : Int32) from by decide]
    refine Go.on (g' := (mkF m 51 _ [(.int (2 : Int32)), (.int (4 : Int32))])) (fun t_ k_ => XS.iload X4.here hx rfl (hb hby d5_49) rfl k_) ?_
    refine Go.on (g' := (mkF m 52 _ [(.int ((4 : Int32) + (2 : Int32)))])) (fun t_ k_ => XS.iadd X4.here hx rfl (hb hby d5_51) rfl k_) ?_
    rw [show ((4 : Int32) + (2 : Int32)) = (6 : Int32) from by decide]
    refine Go.on (g' := (mkF m 54 #[.val (.ref aw), .val (.int (2 : Int32)), .val (.int (3 : Int32)), .val (.ref o1), .val (.int (1 : Int32)), .val (.int (2 : Int32)), .val (.int y1), .val (.int (6 : Int32)), .val (.int b11)] [])) (fun t_ k_ => XS.istore X4.here hx rfl (hb hby d5_52) rfl (l' := #[.val (.ref aw), .val (.int (2 : Int32)), .val (.int (3 : Int32)), .val (.ref o1), .val (.int (1 : Int32)), .val (.int (2 : Int32)), .val (.int y1), .val (.int (6 : Int32)), .val (.int b11)]) rfl k_) ?_
    refine Go.on (g' := (mkF m 55 _ [(.ref o1)])) (fun t_ k_ => XS.aloadN X4.here hx rfl (hb hby d5_54) rfl rfl k_) ?_
    refine Go.on (g' := (mkF m 57 _ [(.int (6 : Int32)), (.ref o1)])) (fun t_ k_ => XS.iload X4.here hx rfl (hb hby d5_55) rfl k_) ?_
    refine Go.on (g' := (mkF m 58 _ [(.int (3 : Int32)), (.int (6 : Int32)), (.ref o1)])) (fun t_ k_ => XS.iloadN X4.here hx rfl (hb hby d5_57) rfl k_) ?_
    refine Go.on (g' := (mkF m 59 _ [(.int ((6 : Int32) - (3 : Int32))), (.ref o1)])) (fun t_ k_ => XS.isub X4.here hx rfl (hb hby d5_58) rfl k_) ?_
    rw [show ((6 : Int32) - (3 : Int32)) = (3 : Int32) from by decide]
    refine Go.on (g' := (mkF m 60 _ [(.int (1 : Int32)), (.int (3 : Int32)), (.ref o1)])) (fun t_ k_ => XS.iconst X4.here hx rfl (hb hby d5_59) k_) ?_
    refine Go.on (g' := (mkF m 61 _ [(.int ((3 : Int32) - (1 : Int32))), (.ref o1)])) (fun t_ k_ => XS.isub X4.here hx rfl (hb hby d5_60) rfl k_) ?_
    rw [show ((3 : Int32) - (1 : Int32)) = (2 : Int32) from by decide]
    refine Go.on (g' := (mkF m 62 _ [(.int (0 : Int32))])) (X4.iaload hx (j := (2 : Int32)) (v := (.int (0 : Int32))) (by rw [e4]; exact A4.1) (State.isArrayOf_alike hZ.alike A4.2.1) A4.2.2 (by simp only [sz_set, sz_new]; decide) rfl (g := (mkF m 61 #[.val (.ref aw), .val (.int (2 : Int32)), .val (.int (3 : Int32)), .val (.ref o1), .val (.int (1 : Int32)), .val (.int (2 : Int32)), .val (.int y1), .val (.int (6 : Int32)), .val (.int b11)] [(.int (2 : Int32)), (.ref o1)])) rfl rfl (hb hby d5_61)) ?_
    refine Go.on (g' := (mkF m 63 _ [(.ref o1), (.int (0 : Int32))])) (fun t_ k_ => XS.aloadN X4.here hx rfl (hb hby d5_62) rfl rfl k_) ?_
    refine Go.on (g' := (mkF m 65 _ [(.int (6 : Int32)), (.ref o1), (.int (0 : Int32))])) (fun t_ k_ => XS.iload X4.here hx rfl (hb hby d5_63) rfl k_) ?_
    refine Go.on (g' := (mkF m 66 _ [(.int (1 : Int32)), (.int (6 : Int32)), (.ref o1), (.int (0 : Int32))])) (fun t_ k_ => XS.iconst X4.here hx rfl (hb hby d5_65) k_) ?_
    refine Go.on (g' := (mkF m 67 _ [(.int ((6 : Int32) - (1 : Int32))), (.ref o1), (.int (0 : Int32))])) (fun t_ k_ => XS.isub X4.here hx rfl (hb hby d5_66) rfl k_) ?_
    rw [show ((6 : Int32) - (1 : Int32)) = (5 : Int32) from by decide]
    refine Go.on (g' := (mkF m 68 _ [(.int b11), (.int (0 : Int32))])) (X4.iaload hx (j := (5 : Int32)) (v := (.int b11)) (by rw [e4]; exact A4.1) (State.isArrayOf_alike hZ.alike A4.2.1) A4.2.2 (by simp only [sz_set, sz_new]; decide) rfl (g := (mkF m 67 #[.val (.ref aw), .val (.int (2 : Int32)), .val (.int (3 : Int32)), .val (.ref o1), .val (.int (1 : Int32)), .val (.int (2 : Int32)), .val (.int y1), .val (.int (6 : Int32)), .val (.int b11)] [(.int (5 : Int32)), (.ref o1), (.int (0 : Int32))])) rfl rfl (hb hby d5_67)) ?_
    refine Go.callS X4 hx hZ hby (by rw [hml]; rfl) (y := (⟨"java/lang/Math", "max", "(II)I"⟩ : MethodName)) hown (hw _ (List.mem_of_getElem? (i := 19) rfl)) (hw _ (List.mem_of_getElem? (i := 9) rfl)) (hw _ (List.mem_of_getElem? (i := 10) rfl)) (hw _ (List.mem_of_getElem? (i := 11) rfl)) (by decide) (argsL := [(.int (0 : Int32)), (.int b11)]) (rest := []) (rmM l Z w0 hw [] (0 : Int32) b11 h4) e4 0 (by decide) (by decide) (by decide) (by decide) rfl pdM rfl (Nat.le_of_eq rfl) d5_68 (pcF := 71) rfl ?_
    intro v5 T5 L5 X5 hQ5
    obtain ⟨rfl, rfl, e5⟩ := hQ5
    rw [List.append_nil] at X5
    show Go p e below _ _ (mkF m 71 _ [(.int (own_max (0 : Int32) b11))])
    refine Go.on (g' := (mkF m 73 #[.val (.ref aw), .val (.int (2 : Int32)), .val (.int (3 : Int32)), .val (.ref o1), .val (.int (1 : Int32)), .val (.int (2 : Int32)), .val (.int y1), .val (.int (6 : Int32)), .val (.int (own_max (0 : Int32) b11))] [])) (fun t_ k_ => XS.istore X5.here hx rfl (hb hby d5_71) rfl (l' := #[.val (.ref aw), .val (.int (2 : Int32)), .val (.int (3 : Int32)), .val (.ref o1), .val (.int (1 : Int32)), .val (.int (2 : Int32)), .val (.int y1), .val (.int (6 : Int32)), .val (.int (own_max (0 : Int32) b11))]) rfl k_) ?_
    refine Go.joinV (P := fun b12 : Int32 => b12 = own_cell y1 (own_max (0 : Int32) b11) (0 : Int32)) (g := fun b12 => (mkF m 96 #[.val (.ref aw), .val (.int (2 : Int32)), .val (.int (3 : Int32)), .val (.ref o1), .val (.int (1 : Int32)), .val (.int (2 : Int32)), .val (.int y1), .val (.int (6 : Int32)), .val (.int b12)] [])) X5 e5 (fun T6 b12 X6 e6 hb12 => ?_) (fun J => ?_)
    · have hc12 : own_c12 y0 y1 = b12 := by rw [hb12, own_c12, hc11]
      show Go p e below _ _ (mkF m 96 _ [])
      refine Go.on (g' := (mkF m 97 _ [(.ref o1)])) (fun t_ k_ => XS.aloadN X6.here hx rfl (hb hby d5_96) rfl rfl k_) ?_
      refine Go.on (g' := (mkF m 99 _ [(.int (6 : Int32)), (.ref o1)])) (fun t_ k_ => XS.iload X6.here hx rfl (hb hby d5_97) rfl k_) ?_
      refine Go.on (g' := (mkF m 101 _ [(.int b12), (.int (6 : Int32)), (.ref o1)])) (fun t_ k_ => XS.iload X6.here hx rfl (hb hby d5_99) rfl k_) ?_
      obtain ⟨T7, h7, X7, e7, W7, st7⟩ := stI X6 hx hZ e6 A4 (j := (6 : Int32)) (by simp only [sz_set, sz_new]; decide) (g := (mkF m 101 #[.val (.ref aw), .val (.int (2 : Int32)), .val (.int (3 : Int32)), .val (.ref o1), .val (.int (1 : Int32)), .val (.int (2 : Int32)), .val (.int y1), .val (.int (6 : Int32)), .val (.int b12)] [(.int b12), (.int (6 : Int32)), (.ref o1)])) rfl rfl (hb hby d5_101)
      have N7 := Fr.snoc X7 N4 no1
      have Z7 : n0 ≤ h7.size := by rw [W7.size]; exact Z4
      have EX_7 := extWr EX_4 W7 mo1
      have arr_aw_7 := arr_aw_4.other W7 ne_aw_o1
      have A7 := A4.same W7
      refine Go.on (g' := (mkF m 102 _ [])) (st7) ?_
      refine Go.on (g' := (mkF m 105 #[.val (.ref aw), .val (.int (2 : Int32)), .val (.int (3 : Int32)), .val (.ref o1), .val (.int (1 : Int32)), .val (.int ((2 : Int32) + (1 : Int32))), .val (.int y1), .val (.int (6 : Int32)), .val (.int b12)] [])) (fun t_ k_ => XS.iinc X7.here hx rfl (hb hby d5_102) rfl (l' := #[.val (.ref aw), .val (.int (2 : Int32)), .val (.int (3 : Int32)), .val (.ref o1), .val (.int (1 : Int32)), .val (.int ((2 : Int32) + (1 : Int32))), .val (.int y1), .val (.int (6 : Int32)), .val (.int b12)]) rfl k_) ?_
      rw [show ((2 : Int32) + (1 : Int32)) = (3 : Int32) from by decide]
      refine Go.on (g' := (mkF m 22 _ [])) (fun t_ k_ => XS.goto X7.here hx rfl (pc0 := 105) (pc' := 22) rfl (hb hby d5_105) (by decide) (by decide) k_) ?_
      refine Go.on (g' := (mkF m 24 _ [(.int (3 : Int32))])) (fun t_ k_ => XS.iload X7.here hx rfl (hb hby d5_22) rfl k_) ?_
      refine Go.on (g' := (mkF m 25 _ [(.int (3 : Int32)), (.int (3 : Int32))])) (fun t_ k_ => XS.iloadN X7.here hx rfl (hb hby d5_24) rfl k_) ?_
      refine Go.icmp X7 hx hby d5_25 (pcT := 108) (pcF := 28) (by decide) (by decide) rfl (fun q => absurd q (by decide)) (fun q => ?_)
      clear q
      show Go p e below _ _ (mkF m 28 _ [])
      refine Go.on (g' := (mkF m 29 _ [(.ref aw)])) (fun t_ k_ => XS.aloadN X7.here hx rfl (hb hby d5_28) rfl rfl k_) ?_
      refine Go.on (g' := (mkF m 31 _ [(.int (1 : Int32)), (.ref aw)])) (fun t_ k_ => XS.iload X7.here hx rfl (hb hby d5_29) rfl k_) ?_
      refine Go.on (g' := (mkF m 32 _ [(.int (1 : Int32)), (.int (1 : Int32)), (.ref aw)])) (fun t_ k_ => XS.iconst X7.here hx rfl (hb hby d5_31) k_) ?_
      refine Go.on (g' := (mkF m 33 _ [(.int ((1 : Int32) - (1 : Int32))), (.ref aw)])) (fun t_ k_ => XS.isub X7.here hx rfl (hb hby d5_32) rfl k_) ?_
      rw [show ((1 : Int32) - (1 : Int32)) = (0 : Int32) from by decide]
      refine Go.on (g' := (mkF m 34 _ [(.int (3 : Int32)), (.int (0 : Int32)), (.ref aw)])) (fun t_ k_ => XS.iloadN X7.here hx rfl (hb hby d5_33) rfl k_) ?_
      refine Go.on (g' := (mkF m 35 _ [(.int ((0 : Int32) * (3 : Int32))), (.ref aw)])) (fun t_ k_ => XS.imul X7.here hx rfl (hb hby d5_34) rfl k_) ?_
      rw [show ((0 : Int32) * (3 : Int32)) = (0 : Int32) from by decide]
      refine Go.on (g' := (mkF m 37 _ [(.int (3 : Int32)), (.int (0 : Int32)), (.ref aw)])) (fun t_ k_ => XS.iload X7.here hx rfl (hb hby d5_35) rfl k_) ?_
      refine Go.on (g' := (mkF m 38 _ [(.int ((0 : Int32) + (3 : Int32))), (.ref aw)])) (fun t_ k_ => XS.iadd X7.here hx rfl (hb hby d5_37) rfl k_) ?_
      rw [show ((0 : Int32) + (3 : Int32)) = (3 : Int32) from by decide]
      refine Go.on (g' := (mkF m 39 _ [(.int (1 : Int32)), (.int (3 : Int32)), (.ref aw)])) (fun t_ k_ => XS.iconst X7.here hx rfl (hb hby d5_38) k_) ?_
      refine Go.on (g' := (mkF m 40 _ [(.int ((3 : Int32) - (1 : Int32))), (.ref aw)])) (fun t_ k_ => XS.isub X7.here hx rfl (hb hby d5_39) rfl k_) ?_
      rw [show ((3 : Int32) - (1 : Int32)) = (2 : Int32) from by decide]
      refine Go.on (g' := (mkF m 41 _ [(.int y2)])) (X7.iaload hx (j := (2 : Int32)) (v := (.int y2)) (by rw [e7]; exact arr_aw_7.1) (State.isArrayOf_alike hZ.alike arr_aw_7.2.1) arr_aw_7.2.2 (by rw [HW.1]; decide) HW.2.2.2.1 (g := (mkF m 40 #[.val (.ref aw), .val (.int (2 : Int32)), .val (.int (3 : Int32)), .val (.ref o1), .val (.int (1 : Int32)), .val (.int (3 : Int32)), .val (.int y1), .val (.int (6 : Int32)), .val (.int b12)] [(.int (2 : Int32)), (.ref aw)])) rfl rfl (hb hby d5_40)) ?_
      refine Go.on (g' := (mkF m 43 #[.val (.ref aw), .val (.int (2 : Int32)), .val (.int (3 : Int32)), .val (.ref o1), .val (.int (1 : Int32)), .val (.int (3 : Int32)), .val (.int y2), .val (.int (6 : Int32)), .val (.int b12)] [])) (fun t_ k_ => XS.istore X7.here hx rfl (hb hby d5_41) rfl (l' := #[.val (.ref aw), .val (.int (2 : Int32)), .val (.int (3 : Int32)), .val (.ref o1), .val (.int (1 : Int32)), .val (.int (3 : Int32)), .val (.int y2), .val (.int (6 : Int32)), .val (.int b12)]) rfl k_) ?_
      refine Go.on (g' := (mkF m 45 _ [(.int (1 : Int32))])) (fun t_ k_ => XS.iload X7.here hx rfl (hb hby d5_43) rfl k_) ?_
      refine Go.on (g' := (mkF m 46 _ [(.int (3 : Int32)), (.int (1 : Int32))])) (fun t_ k_ => XS.iloadN X7.here hx rfl (hb hby d5_45) rfl k_) ?_
      refine Go.on (g' := (mkF m 47 _ [(.int (1 : Int32)), (.int (3 : Int32)), (.int (1 : Int32))])) (fun t_ k_ => XS.iconst X7.here hx rfl (hb hby d5_46) k_) ?_
      refine Go.on (g' := (mkF m 48 _ [(.int ((3 : Int32) + (1 : Int32))), (.int (1 : Int32))])) (fun t_ k_ => XS.iadd X7.here hx rfl (hb hby d5_47) rfl k_) ?_
      rw [show ((3 : Int32) + (1 : Int32)) = (4 : Int32) from by decide]
      refine Go.on (g' := (mkF m 49 _ [(.int ((1 : Int32) * (4 : Int32)))])) (fun t_ k_ => XS.imul X7.here hx rfl (hb hby d5_48) rfl k_) ?_
      rw [show ((1 : Int32) * (4 : Int32)) = (4 : Int32) from by decide]
      refine Go.on (g' := (mkF m 51 _ [(.int (3 : Int32)), (.int (4 : Int32))])) (fun t_ k_ => XS.iload X7.here hx rfl (hb hby d5_49) rfl k_) ?_
      refine Go.on (g' := (mkF m 52 _ [(.int ((4 : Int32) + (3 : Int32)))])) (fun t_ k_ => XS.iadd X7.here hx rfl (hb hby d5_51) rfl k_) ?_
      rw [show ((4 : Int32) + (3 : Int32)) = (7 : Int32) from by decide]
      refine Go.on (g' := (mkF m 54 #[.val (.ref aw), .val (.int (2 : Int32)), .val (.int (3 : Int32)), .val (.ref o1), .val (.int (1 : Int32)), .val (.int (3 : Int32)), .val (.int y2), .val (.int (7 : Int32)), .val (.int b12)] [])) (fun t_ k_ => XS.istore X7.here hx rfl (hb hby d5_52) rfl (l' := #[.val (.ref aw), .val (.int (2 : Int32)), .val (.int (3 : Int32)), .val (.ref o1), .val (.int (1 : Int32)), .val (.int (3 : Int32)), .val (.int y2), .val (.int (7 : Int32)), .val (.int b12)]) rfl k_) ?_
      refine Go.on (g' := (mkF m 55 _ [(.ref o1)])) (fun t_ k_ => XS.aloadN X7.here hx rfl (hb hby d5_54) rfl rfl k_) ?_
      refine Go.on (g' := (mkF m 57 _ [(.int (7 : Int32)), (.ref o1)])) (fun t_ k_ => XS.iload X7.here hx rfl (hb hby d5_55) rfl k_) ?_
      refine Go.on (g' := (mkF m 58 _ [(.int (3 : Int32)), (.int (7 : Int32)), (.ref o1)])) (fun t_ k_ => XS.iloadN X7.here hx rfl (hb hby d5_57) rfl k_) ?_
      refine Go.on (g' := (mkF m 59 _ [(.int ((7 : Int32) - (3 : Int32))), (.ref o1)])) (fun t_ k_ => XS.isub X7.here hx rfl (hb hby d5_58) rfl k_) ?_
      rw [show ((7 : Int32) - (3 : Int32)) = (4 : Int32) from by decide]
      refine Go.on (g' := (mkF m 60 _ [(.int (1 : Int32)), (.int (4 : Int32)), (.ref o1)])) (fun t_ k_ => XS.iconst X7.here hx rfl (hb hby d5_59) k_) ?_
      refine Go.on (g' := (mkF m 61 _ [(.int ((4 : Int32) - (1 : Int32))), (.ref o1)])) (fun t_ k_ => XS.isub X7.here hx rfl (hb hby d5_60) rfl k_) ?_
      rw [show ((4 : Int32) - (1 : Int32)) = (3 : Int32) from by decide]
      refine Go.on (g' := (mkF m 62 _ [(.int (0 : Int32))])) (X7.iaload hx (j := (3 : Int32)) (v := (.int (0 : Int32))) (by rw [e7]; exact A7.1) (State.isArrayOf_alike hZ.alike A7.2.1) A7.2.2 (by simp only [sz_set, sz_new]; decide) rfl (g := (mkF m 61 #[.val (.ref aw), .val (.int (2 : Int32)), .val (.int (3 : Int32)), .val (.ref o1), .val (.int (1 : Int32)), .val (.int (3 : Int32)), .val (.int y2), .val (.int (7 : Int32)), .val (.int b12)] [(.int (3 : Int32)), (.ref o1)])) rfl rfl (hb hby d5_61)) ?_
      refine Go.on (g' := (mkF m 63 _ [(.ref o1), (.int (0 : Int32))])) (fun t_ k_ => XS.aloadN X7.here hx rfl (hb hby d5_62) rfl rfl k_) ?_
      refine Go.on (g' := (mkF m 65 _ [(.int (7 : Int32)), (.ref o1), (.int (0 : Int32))])) (fun t_ k_ => XS.iload X7.here hx rfl (hb hby d5_63) rfl k_) ?_
      refine Go.on (g' := (mkF m 66 _ [(.int (1 : Int32)), (.int (7 : Int32)), (.ref o1), (.int (0 : Int32))])) (fun t_ k_ => XS.iconst X7.here hx rfl (hb hby d5_65) k_) ?_
      refine Go.on (g' := (mkF m 67 _ [(.int ((7 : Int32) - (1 : Int32))), (.ref o1), (.int (0 : Int32))])) (fun t_ k_ => XS.isub X7.here hx rfl (hb hby d5_66) rfl k_) ?_
      rw [show ((7 : Int32) - (1 : Int32)) = (6 : Int32) from by decide]
      refine Go.on (g' := (mkF m 68 _ [(.int b12), (.int (0 : Int32))])) (X7.iaload hx (j := (6 : Int32)) (v := (.int b12)) (by rw [e7]; exact A7.1) (State.isArrayOf_alike hZ.alike A7.2.1) A7.2.2 (by simp only [sz_set, sz_new]; decide) rfl (g := (mkF m 67 #[.val (.ref aw), .val (.int (2 : Int32)), .val (.int (3 : Int32)), .val (.ref o1), .val (.int (1 : Int32)), .val (.int (3 : Int32)), .val (.int y2), .val (.int (7 : Int32)), .val (.int b12)] [(.int (6 : Int32)), (.ref o1), (.int (0 : Int32))])) rfl rfl (hb hby d5_67)) ?_
      refine Go.callS X7 hx hZ hby (by rw [hml]; rfl) (y := (⟨"java/lang/Math", "max", "(II)I"⟩ : MethodName)) hown (hw _ (List.mem_of_getElem? (i := 19) rfl)) (hw _ (List.mem_of_getElem? (i := 9) rfl)) (hw _ (List.mem_of_getElem? (i := 10) rfl)) (hw _ (List.mem_of_getElem? (i := 11) rfl)) (by decide) (argsL := [(.int (0 : Int32)), (.int b12)]) (rest := []) (rmM l Z w0 hw [] (0 : Int32) b12 h7) e7 0 (by decide) (by decide) (by decide) (by decide) rfl pdM rfl (Nat.le_of_eq rfl) d5_68 (pcF := 71) rfl ?_
      intro v8 T8 L8 X8 hQ8
      obtain ⟨rfl, rfl, e8⟩ := hQ8
      rw [List.append_nil] at X8
      show Go p e below _ _ (mkF m 71 _ [(.int (own_max (0 : Int32) b12))])
      refine Go.on (g' := (mkF m 73 #[.val (.ref aw), .val (.int (2 : Int32)), .val (.int (3 : Int32)), .val (.ref o1), .val (.int (1 : Int32)), .val (.int (3 : Int32)), .val (.int y2), .val (.int (7 : Int32)), .val (.int (own_max (0 : Int32) b12))] [])) (fun t_ k_ => XS.istore X8.here hx rfl (hb hby d5_71) rfl (l' := #[.val (.ref aw), .val (.int (2 : Int32)), .val (.int (3 : Int32)), .val (.ref o1), .val (.int (1 : Int32)), .val (.int (3 : Int32)), .val (.int y2), .val (.int (7 : Int32)), .val (.int (own_max (0 : Int32) b12))]) rfl k_) ?_
      refine Go.joinV (P := fun b13 : Int32 => b13 = own_cell y2 (own_max (0 : Int32) b12) (0 : Int32)) (g := fun b13 => (mkF m 96 #[.val (.ref aw), .val (.int (2 : Int32)), .val (.int (3 : Int32)), .val (.ref o1), .val (.int (1 : Int32)), .val (.int (3 : Int32)), .val (.int y2), .val (.int (7 : Int32)), .val (.int b13)] [])) X8 e8 (fun T9 b13 X9 e9 hb13 => ?_) (fun J => ?_)
      · have hc13 : own_c13 y0 y1 y2 = b13 := by rw [hb13, own_c13, hc12]
        show Go p e below _ _ (mkF m 96 _ [])
        refine Go.on (g' := (mkF m 97 _ [(.ref o1)])) (fun t_ k_ => XS.aloadN X9.here hx rfl (hb hby d5_96) rfl rfl k_) ?_
        refine Go.on (g' := (mkF m 99 _ [(.int (7 : Int32)), (.ref o1)])) (fun t_ k_ => XS.iload X9.here hx rfl (hb hby d5_97) rfl k_) ?_
        refine Go.on (g' := (mkF m 101 _ [(.int b13), (.int (7 : Int32)), (.ref o1)])) (fun t_ k_ => XS.iload X9.here hx rfl (hb hby d5_99) rfl k_) ?_
        obtain ⟨T10, h10, X10, e10, W10, st10⟩ := stI X9 hx hZ e9 A7 (j := (7 : Int32)) (by simp only [sz_set, sz_new]; decide) (g := (mkF m 101 #[.val (.ref aw), .val (.int (2 : Int32)), .val (.int (3 : Int32)), .val (.ref o1), .val (.int (1 : Int32)), .val (.int (3 : Int32)), .val (.int y2), .val (.int (7 : Int32)), .val (.int b13)] [(.int b13), (.int (7 : Int32)), (.ref o1)])) rfl rfl (hb hby d5_101)
        have N10 := Fr.snoc X10 N7 no1
        have Z10 : n0 ≤ h10.size := by rw [W10.size]; exact Z7
        have EX_10 := extWr EX_7 W10 mo1
        have arr_aw_10 := arr_aw_7.other W10 ne_aw_o1
        have A10 := A7.same W10
        refine Go.on (g' := (mkF m 102 _ [])) (st10) ?_
        refine Go.on (g' := (mkF m 105 #[.val (.ref aw), .val (.int (2 : Int32)), .val (.int (3 : Int32)), .val (.ref o1), .val (.int (1 : Int32)), .val (.int ((3 : Int32) + (1 : Int32))), .val (.int y2), .val (.int (7 : Int32)), .val (.int b13)] [])) (fun t_ k_ => XS.iinc X10.here hx rfl (hb hby d5_102) rfl (l' := #[.val (.ref aw), .val (.int (2 : Int32)), .val (.int (3 : Int32)), .val (.ref o1), .val (.int (1 : Int32)), .val (.int ((3 : Int32) + (1 : Int32))), .val (.int y2), .val (.int (7 : Int32)), .val (.int b13)]) rfl k_) ?_
        rw [show ((3 : Int32) + (1 : Int32)) = (4 : Int32) from by decide]
        refine Go.on (g' := (mkF m 22 _ [])) (fun t_ k_ => XS.goto X10.here hx rfl (pc0 := 105) (pc' := 22) rfl (hb hby d5_105) (by decide) (by decide) k_) ?_
        refine Go.on (g' := (mkF m 24 _ [(.int (4 : Int32))])) (fun t_ k_ => XS.iload X10.here hx rfl (hb hby d5_22) rfl k_) ?_
        refine Go.on (g' := (mkF m 25 _ [(.int (3 : Int32)), (.int (4 : Int32))])) (fun t_ k_ => XS.iloadN X10.here hx rfl (hb hby d5_24) rfl k_) ?_
        refine Go.icmp X10 hx hby d5_25 (pcT := 108) (pcF := 28) (by decide) (by decide) rfl (fun q => ?_) (fun q => absurd q (by decide))
        clear q
        show Go p e below _ _ (mkF m 108 _ [])
        refine Go.on (g' := (mkF m 111 #[.val (.ref aw), .val (.int (2 : Int32)), .val (.int (3 : Int32)), .val (.ref o1), .val (.int ((1 : Int32) + (1 : Int32))), .val (.int (4 : Int32)), .val (.int y2), .val (.int (7 : Int32)), .val (.int b13)] [])) (fun t_ k_ => XS.iinc X10.here hx rfl (hb hby d5_108) rfl (l' := #[.val (.ref aw), .val (.int (2 : Int32)), .val (.int (3 : Int32)), .val (.ref o1), .val (.int ((1 : Int32) + (1 : Int32))), .val (.int (4 : Int32)), .val (.int y2), .val (.int (7 : Int32)), .val (.int b13)]) rfl k_) ?_
        rw [show ((1 : Int32) + (1 : Int32)) = (2 : Int32) from by decide]
        refine Go.on (g' := (mkF m 13 _ [])) (fun t_ k_ => XS.goto X10.here hx rfl (pc0 := 111) (pc' := 13) rfl (hb hby d5_111) (by decide) (by decide) k_) ?_
        refine Go.on (g' := (mkF m 15 _ [(.int (2 : Int32))])) (fun t_ k_ => XS.iload X10.here hx rfl (hb hby d5_13) rfl k_) ?_
        refine Go.on (g' := (mkF m 16 _ [(.int (2 : Int32)), (.int (2 : Int32))])) (fun t_ k_ => XS.iloadN X10.here hx rfl (hb hby d5_15) rfl k_) ?_
        refine Go.icmp X10 hx hby d5_16 (pcT := 114) (pcF := 19) (by decide) (by decide) rfl (fun q => absurd q (by decide)) (fun q => ?_)
        clear q
        show Go p e below _ _ (mkF m 19 _ [])
        refine Go.on (g' := (mkF m 20 _ [(.int (1 : Int32))])) (fun t_ k_ => XS.iconst X10.here hx rfl (hb hby d5_19) k_) ?_
        refine Go.on (g' := (mkF m 22 #[.val (.ref aw), .val (.int (2 : Int32)), .val (.int (3 : Int32)), .val (.ref o1), .val (.int (2 : Int32)), .val (.int (1 : Int32)), .val (.int y2), .val (.int (7 : Int32)), .val (.int b13)] [])) (fun t_ k_ => XS.istore X10.here hx rfl (hb hby d5_20) rfl (l' := #[.val (.ref aw), .val (.int (2 : Int32)), .val (.int (3 : Int32)), .val (.ref o1), .val (.int (2 : Int32)), .val (.int (1 : Int32)), .val (.int y2), .val (.int (7 : Int32)), .val (.int b13)]) rfl k_) ?_
        refine Go.on (g' := (mkF m 24 _ [(.int (1 : Int32))])) (fun t_ k_ => XS.iload X10.here hx rfl (hb hby d5_22) rfl k_) ?_
        refine Go.on (g' := (mkF m 25 _ [(.int (3 : Int32)), (.int (1 : Int32))])) (fun t_ k_ => XS.iloadN X10.here hx rfl (hb hby d5_24) rfl k_) ?_
        refine Go.icmp X10 hx hby d5_25 (pcT := 108) (pcF := 28) (by decide) (by decide) rfl (fun q => absurd q (by decide)) (fun q => ?_)
        clear q
        show Go p e below _ _ (mkF m 28 _ [])
        refine Go.on (g' := (mkF m 29 _ [(.ref aw)])) (fun t_ k_ => XS.aloadN X10.here hx rfl (hb hby d5_28) rfl rfl k_) ?_
        refine Go.on (g' := (mkF m 31 _ [(.int (2 : Int32)), (.ref aw)])) (fun t_ k_ => XS.iload X10.here hx rfl (hb hby d5_29) rfl k_) ?_
        refine Go.on (g' := (mkF m 32 _ [(.int (1 : Int32)), (.int (2 : Int32)), (.ref aw)])) (fun t_ k_ => XS.iconst X10.here hx rfl (hb hby d5_31) k_) ?_
        refine Go.on (g' := (mkF m 33 _ [(.int ((2 : Int32) - (1 : Int32))), (.ref aw)])) (fun t_ k_ => XS.isub X10.here hx rfl (hb hby d5_32) rfl k_) ?_
        rw [show ((2 : Int32) - (1 : Int32)) = (1 : Int32) from by decide]
        refine Go.on (g' := (mkF m 34 _ [(.int (3 : Int32)), (.int (1 : Int32)), (.ref aw)])) (fun t_ k_ => XS.iloadN X10.here hx rfl (hb hby d5_33) rfl k_) ?_
        refine Go.on (g' := (mkF m 35 _ [(.int ((1 : Int32) * (3 : Int32))), (.ref aw)])) (fun t_ k_ => XS.imul X10.here hx rfl (hb hby d5_34) rfl k_) ?_
        rw [show ((1 : Int32) * (3 : Int32)) = (3 : Int32) from by decide]
        refine Go.on (g' := (mkF m 37 _ [(.int (1 : Int32)), (.int (3 : Int32)), (.ref aw)])) (fun t_ k_ => XS.iload X10.here hx rfl (hb hby d5_35) rfl k_) ?_
        refine Go.on (g' := (mkF m 38 _ [(.int ((3 : Int32) + (1 : Int32))), (.ref aw)])) (fun t_ k_ => XS.iadd X10.here hx rfl (hb hby d5_37) rfl k_) ?_
        rw [show ((3 : Int32) + (1 : Int32)) = (4 : Int32) from by decide]
        refine Go.on (g' := (mkF m 39 _ [(.int (1 : Int32)), (.int (4 : Int32)), (.ref aw)])) (fun t_ k_ => XS.iconst X10.here hx rfl (hb hby d5_38) k_) ?_
        refine Go.on (g' := (mkF m 40 _ [(.int ((4 : Int32) - (1 : Int32))), (.ref aw)])) (fun t_ k_ => XS.isub X10.here hx rfl (hb hby d5_39) rfl k_) ?_
        rw [show ((4 : Int32) - (1 : Int32)) = (3 : Int32) from by decide]
        refine Go.on (g' := (mkF m 41 _ [(.int y3)])) (X10.iaload hx (j := (3 : Int32)) (v := (.int y3)) (by rw [e10]; exact arr_aw_10.1) (State.isArrayOf_alike hZ.alike arr_aw_10.2.1) arr_aw_10.2.2 (by rw [HW.1]; decide) HW.2.2.2.2.1 (g := (mkF m 40 #[.val (.ref aw), .val (.int (2 : Int32)), .val (.int (3 : Int32)), .val (.ref o1), .val (.int (2 : Int32)), .val (.int (1 : Int32)), .val (.int y2), .val (.int (7 : Int32)), .val (.int b13)] [(.int (3 : Int32)), (.ref aw)])) rfl rfl (hb hby d5_40)) ?_
        refine Go.on (g' := (mkF m 43 #[.val (.ref aw), .val (.int (2 : Int32)), .val (.int (3 : Int32)), .val (.ref o1), .val (.int (2 : Int32)), .val (.int (1 : Int32)), .val (.int y3), .val (.int (7 : Int32)), .val (.int b13)] [])) (fun t_ k_ => XS.istore X10.here hx rfl (hb hby d5_41) rfl (l' := #[.val (.ref aw), .val (.int (2 : Int32)), .val (.int (3 : Int32)), .val (.ref o1), .val (.int (2 : Int32)), .val (.int (1 : Int32)), .val (.int y3), .val (.int (7 : Int32)), .val (.int b13)]) rfl k_) ?_
        refine Go.on (g' := (mkF m 45 _ [(.int (2 : Int32))])) (fun t_ k_ => XS.iload X10.here hx rfl (hb hby d5_43) rfl k_) ?_
        refine Go.on (g' := (mkF m 46 _ [(.int (3 : Int32)), (.int (2 : Int32))])) (fun t_ k_ => XS.iloadN X10.here hx rfl (hb hby d5_45) rfl k_) ?_
        refine Go.on (g' := (mkF m 47 _ [(.int (1 : Int32)), (.int (3 : Int32)), (.int (2 : Int32))])) (fun t_ k_ => XS.iconst X10.here hx rfl (hb hby d5_46) k_) ?_
        refine Go.on (g' := (mkF m 48 _ [(.int ((3 : Int32) + (1 : Int32))), (.int (2 : Int32))])) (fun t_ k_ => XS.iadd X10.here hx rfl (hb hby d5_47) rfl k_) ?_
        rw [show ((3 : Int32) + (1 : Int32)) = (4 : Int32) from by decide]
        refine Go.on (g' := (mkF m 49 _ [(.int ((2 : Int32) * (4 : Int32)))])) (fun t_ k_ => XS.imul X10.here hx rfl (hb hby d5_48) rfl k_) ?_
        rw [show ((2 : Int32) * (4 : Int32)) = (8 : Int32) from by decide]
        refine Go.on (g' := (mkF m 51 _ [(.int (1 : Int32)), (.int (8 : Int32))])) (fun t_ k_ => XS.iload X10.here hx rfl (hb hby d5_49) rfl k_) ?_
        refine Go.on (g' := (mkF m 52 _ [(.int ((8 : Int32) + (1 : Int32)))])) (fun t_ k_ => XS.iadd X10.here hx rfl (hb hby d5_51) rfl k_) ?_
        rw [show ((8 : Int32) + (1 : Int32)) = (9 : Int32) from by decide]
        refine Go.on (g' := (mkF m 54 #[.val (.ref aw), .val (.int (2 : Int32)), .val (.int (3 : Int32)), .val (.ref o1), .val (.int (2 : Int32)), .val (.int (1 : Int32)), .val (.int y3), .val (.int (9 : Int32)), .val (.int b13)] [])) (fun t_ k_ => XS.istore X10.here hx rfl (hb hby d5_52) rfl (l' := #[.val (.ref aw), .val (.int (2 : Int32)), .val (.int (3 : Int32)), .val (.ref o1), .val (.int (2 : Int32)), .val (.int (1 : Int32)), .val (.int y3), .val (.int (9 : Int32)), .val (.int b13)]) rfl k_) ?_
        refine Go.on (g' := (mkF m 55 _ [(.ref o1)])) (fun t_ k_ => XS.aloadN X10.here hx rfl (hb hby d5_54) rfl rfl k_) ?_
        refine Go.on (g' := (mkF m 57 _ [(.int (9 : Int32)), (.ref o1)])) (fun t_ k_ => XS.iload X10.here hx rfl (hb hby d5_55) rfl k_) ?_
        refine Go.on (g' := (mkF m 58 _ [(.int (3 : Int32)), (.int (9 : Int32)), (.ref o1)])) (fun t_ k_ => XS.iloadN X10.here hx rfl (hb hby d5_57) rfl k_) ?_
        refine Go.on (g' := (mkF m 59 _ [(.int ((9 : Int32) - (3 : Int32))), (.ref o1)])) (fun t_ k_ => XS.isub X10.here hx rfl (hb hby d5_58) rfl k_) ?_
        rw [show ((9 : Int32) - (3 : Int32)) = (6 : Int32) from by decide]
        refine Go.on (g' := (mkF m 60 _ [(.int (1 : Int32)), (.int (6 : Int32)), (.ref o1)])) (fun t_ k_ => XS.iconst X10.here hx rfl (hb hby d5_59) k_) ?_
        refine Go.on (g' := (mkF m 61 _ [(.int ((6 : Int32) - (1 : Int32))), (.ref o1)])) (fun t_ k_ => XS.isub X10.here hx rfl (hb hby d5_60) rfl k_) ?_
        rw [show ((6 : Int32) - (1 : Int32)) = (5 : Int32) from by decide]
        refine Go.on (g' := (mkF m 62 _ [(.int b11)])) (X10.iaload hx (j := (5 : Int32)) (v := (.int b11)) (by rw [e10]; exact A10.1) (State.isArrayOf_alike hZ.alike A10.2.1) A10.2.2 (by simp only [sz_set, sz_new]; decide) rfl (g := (mkF m 61 #[.val (.ref aw), .val (.int (2 : Int32)), .val (.int (3 : Int32)), .val (.ref o1), .val (.int (2 : Int32)), .val (.int (1 : Int32)), .val (.int y3), .val (.int (9 : Int32)), .val (.int b13)] [(.int (5 : Int32)), (.ref o1)])) rfl rfl (hb hby d5_61)) ?_
        refine Go.on (g' := (mkF m 63 _ [(.ref o1), (.int b11)])) (fun t_ k_ => XS.aloadN X10.here hx rfl (hb hby d5_62) rfl rfl k_) ?_
        refine Go.on (g' := (mkF m 65 _ [(.int (9 : Int32)), (.ref o1), (.int b11)])) (fun t_ k_ => XS.iload X10.here hx rfl (hb hby d5_63) rfl k_) ?_
        refine Go.on (g' := (mkF m 66 _ [(.int (1 : Int32)), (.int (9 : Int32)), (.ref o1), (.int b11)])) (fun t_ k_ => XS.iconst X10.here hx rfl (hb hby d5_65) k_) ?_
        refine Go.on (g' := (mkF m 67 _ [(.int ((9 : Int32) - (1 : Int32))), (.ref o1), (.int b11)])) (fun t_ k_ => XS.isub X10.here hx rfl (hb hby d5_66) rfl k_) ?_
        rw [show ((9 : Int32) - (1 : Int32)) = (8 : Int32) from by decide]
        refine Go.on (g' := (mkF m 68 _ [(.int (0 : Int32)), (.int b11)])) (X10.iaload hx (j := (8 : Int32)) (v := (.int (0 : Int32))) (by rw [e10]; exact A10.1) (State.isArrayOf_alike hZ.alike A10.2.1) A10.2.2 (by simp only [sz_set, sz_new]; decide) rfl (g := (mkF m 67 #[.val (.ref aw), .val (.int (2 : Int32)), .val (.int (3 : Int32)), .val (.ref o1), .val (.int (2 : Int32)), .val (.int (1 : Int32)), .val (.int y3), .val (.int (9 : Int32)), .val (.int b13)] [(.int (8 : Int32)), (.ref o1), (.int b11)])) rfl rfl (hb hby d5_67)) ?_
        refine Go.callS X10 hx hZ hby (by rw [hml]; rfl) (y := (⟨"java/lang/Math", "max", "(II)I"⟩ : MethodName)) hown (hw _ (List.mem_of_getElem? (i := 19) rfl)) (hw _ (List.mem_of_getElem? (i := 9) rfl)) (hw _ (List.mem_of_getElem? (i := 10) rfl)) (hw _ (List.mem_of_getElem? (i := 11) rfl)) (by decide) (argsL := [(.int b11), (.int (0 : Int32))]) (rest := []) (rmM l Z w0 hw [] b11 (0 : Int32) h10) e10 0 (by decide) (by decide) (by decide) (by decide) rfl pdM rfl (Nat.le_of_eq rfl) d5_68 (pcF := 71) rfl ?_
        intro v11 T11 L11 X11 hQ11
        obtain ⟨rfl, rfl, e11⟩ := hQ11
        rw [List.append_nil] at X11
        show Go p e below _ _ (mkF m 71 _ [(.int (own_max b11 (0 : Int32)))])
        refine Go.on (g' := (mkF m 73 #[.val (.ref aw), .val (.int (2 : Int32)), .val (.int (3 : Int32)), .val (.ref o1), .val (.int (2 : Int32)), .val (.int (1 : Int32)), .val (.int y3), .val (.int (9 : Int32)), .val (.int (own_max b11 (0 : Int32)))] [])) (fun t_ k_ => XS.istore X11.here hx rfl (hb hby d5_71) rfl (l' := #[.val (.ref aw), .val (.int (2 : Int32)), .val (.int (3 : Int32)), .val (.ref o1), .val (.int (2 : Int32)), .val (.int (1 : Int32)), .val (.int y3), .val (.int (9 : Int32)), .val (.int (own_max b11 (0 : Int32)))]) rfl k_) ?_
        refine Go.joinV (P := fun b21 : Int32 => b21 = own_cell y3 (own_max b11 (0 : Int32)) (0 : Int32)) (g := fun b21 => (mkF m 96 #[.val (.ref aw), .val (.int (2 : Int32)), .val (.int (3 : Int32)), .val (.ref o1), .val (.int (2 : Int32)), .val (.int (1 : Int32)), .val (.int y3), .val (.int (9 : Int32)), .val (.int b21)] [])) X11 e11 (fun T12 b21 X12 e12 hb21 => ?_) (fun J => ?_)
        · have hc21 : own_c21 y0 y3 = b21 := by rw [hb21, own_c21, hc11]
          show Go p e below _ _ (mkF m 96 _ [])
          refine Go.on (g' := (mkF m 97 _ [(.ref o1)])) (fun t_ k_ => XS.aloadN X12.here hx rfl (hb hby d5_96) rfl rfl k_) ?_
          refine Go.on (g' := (mkF m 99 _ [(.int (9 : Int32)), (.ref o1)])) (fun t_ k_ => XS.iload X12.here hx rfl (hb hby d5_97) rfl k_) ?_
          refine Go.on (g' := (mkF m 101 _ [(.int b21), (.int (9 : Int32)), (.ref o1)])) (fun t_ k_ => XS.iload X12.here hx rfl (hb hby d5_99) rfl k_) ?_
          obtain ⟨T13, h13, X13, e13, W13, st13⟩ := stI X12 hx hZ e12 A10 (j := (9 : Int32)) (by simp only [sz_set, sz_new]; decide) (g := (mkF m 101 #[.val (.ref aw), .val (.int (2 : Int32)), .val (.int (3 : Int32)), .val (.ref o1), .val (.int (2 : Int32)), .val (.int (1 : Int32)), .val (.int y3), .val (.int (9 : Int32)), .val (.int b21)] [(.int b21), (.int (9 : Int32)), (.ref o1)])) rfl rfl (hb hby d5_101)
          have N13 := Fr.snoc X13 N10 no1
          have Z13 : n0 ≤ h13.size := by rw [W13.size]; exact Z10
          have EX_13 := extWr EX_10 W13 mo1
          have arr_aw_13 := arr_aw_10.other W13 ne_aw_o1
          have A13 := A10.same W13
          refine Go.on (g' := (mkF m 102 _ [])) (st13) ?_
          refine Go.on (g' := (mkF m 105 #[.val (.ref aw), .val (.int (2 : Int32)), .val (.int (3 : Int32)), .val (.ref o1), .val (.int (2 : Int32)), .val (.int ((1 : Int32) + (1 : Int32))), .val (.int y3), .val (.int (9 : Int32)), .val (.int b21)] [])) (fun t_ k_ => XS.iinc X13.here hx rfl (hb hby d5_102) rfl (l' := #[.val (.ref aw), .val (.int (2 : Int32)), .val (.int (3 : Int32)), .val (.ref o1), .val (.int (2 : Int32)), .val (.int ((1 : Int32) + (1 : Int32))), .val (.int y3), .val (.int (9 : Int32)), .val (.int b21)]) rfl k_) ?_
          rw [show ((1 : Int32) + (1 : Int32)) = (2 : Int32) from by decide]
          refine Go.on (g' := (mkF m 22 _ [])) (fun t_ k_ => XS.goto X13.here hx rfl (pc0 := 105) (pc' := 22) rfl (hb hby d5_105) (by decide) (by decide) k_) ?_
          refine Go.on (g' := (mkF m 24 _ [(.int (2 : Int32))])) (fun t_ k_ => XS.iload X13.here hx rfl (hb hby d5_22) rfl k_) ?_
          refine Go.on (g' := (mkF m 25 _ [(.int (3 : Int32)), (.int (2 : Int32))])) (fun t_ k_ => XS.iloadN X13.here hx rfl (hb hby d5_24) rfl k_) ?_
          refine Go.icmp X13 hx hby d5_25 (pcT := 108) (pcF := 28) (by decide) (by decide) rfl (fun q => absurd q (by decide)) (fun q => ?_)
          clear q
          show Go p e below _ _ (mkF m 28 _ [])
          refine Go.on (g' := (mkF m 29 _ [(.ref aw)])) (fun t_ k_ => XS.aloadN X13.here hx rfl (hb hby d5_28) rfl rfl k_) ?_
          refine Go.on (g' := (mkF m 31 _ [(.int (2 : Int32)), (.ref aw)])) (fun t_ k_ => XS.iload X13.here hx rfl (hb hby d5_29) rfl k_) ?_
          refine Go.on (g' := (mkF m 32 _ [(.int (1 : Int32)), (.int (2 : Int32)), (.ref aw)])) (fun t_ k_ => XS.iconst X13.here hx rfl (hb hby d5_31) k_) ?_
          refine Go.on (g' := (mkF m 33 _ [(.int ((2 : Int32) - (1 : Int32))), (.ref aw)])) (fun t_ k_ => XS.isub X13.here hx rfl (hb hby d5_32) rfl k_) ?_
          rw [show ((2 : Int32) - (1 : Int32)) = (1 : Int32) from by decide]
          refine Go.on (g' := (mkF m 34 _ [(.int (3 : Int32)), (.int (1 : Int32)), (.ref aw)])) (fun t_ k_ => XS.iloadN X13.here hx rfl (hb hby d5_33) rfl k_) ?_
          refine Go.on (g' := (mkF m 35 _ [(.int ((1 : Int32) * (3 : Int32))), (.ref aw)])) (fun t_ k_ => XS.imul X13.here hx rfl (hb hby d5_34) rfl k_) ?_
          rw [show ((1 : Int32) * (3 : Int32)) = (3 : Int32) from by decide]
          refine Go.on (g' := (mkF m 37 _ [(.int (2 : Int32)), (.int (3 : Int32)), (.ref aw)])) (fun t_ k_ => XS.iload X13.here hx rfl (hb hby d5_35) rfl k_) ?_
          refine Go.on (g' := (mkF m 38 _ [(.int ((3 : Int32) + (2 : Int32))), (.ref aw)])) (fun t_ k_ => XS.iadd X13.here hx rfl (hb hby d5_37) rfl k_) ?_
          rw [show ((3 : Int32) + (2 : Int32)) = (5 : Int32) from by decide]
          refine Go.on (g' := (mkF m 39 _ [(.int (1 : Int32)), (.int (5 : Int32)), (.ref aw)])) (fun t_ k_ => XS.iconst X13.here hx rfl (hb hby d5_38) k_) ?_
          refine Go.on (g' := (mkF m 40 _ [(.int ((5 : Int32) - (1 : Int32))), (.ref aw)])) (fun t_ k_ => XS.isub X13.here hx rfl (hb hby d5_39) rfl k_) ?_
          rw [show ((5 : Int32) - (1 : Int32)) = (4 : Int32) from by decide]
          refine Go.on (g' := (mkF m 41 _ [(.int y4)])) (X13.iaload hx (j := (4 : Int32)) (v := (.int y4)) (by rw [e13]; exact arr_aw_13.1) (State.isArrayOf_alike hZ.alike arr_aw_13.2.1) arr_aw_13.2.2 (by rw [HW.1]; decide) HW.2.2.2.2.2.1 (g := (mkF m 40 #[.val (.ref aw), .val (.int (2 : Int32)), .val (.int (3 : Int32)), .val (.ref o1), .val (.int (2 : Int32)), .val (.int (2 : Int32)), .val (.int y3), .val (.int (9 : Int32)), .val (.int b21)] [(.int (4 : Int32)), (.ref aw)])) rfl rfl (hb hby d5_40)) ?_
          refine Go.on (g' := (mkF m 43 #[.val (.ref aw), .val (.int (2 : Int32)), .val (.int (3 : Int32)), .val (.ref o1), .val (.int (2 : Int32)), .val (.int (2 : Int32)), .val (.int y4), .val (.int (9 : Int32)), .val (.int b21)] [])) (fun t_ k_ => XS.istore X13.here hx rfl (hb hby d5_41) rfl (l' := #[.val (.ref aw), .val (.int (2 : Int32)), .val (.int (3 : Int32)), .val (.ref o1), .val (.int (2 : Int32)), .val (.int (2 : Int32)), .val (.int y4), .val (.int (9 : Int32)), .val (.int b21)]) rfl k_) ?_
          refine Go.on (g' := (mkF m 45 _ [(.int (2 : Int32))])) (fun t_ k_ => XS.iload X13.here hx rfl (hb hby d5_43) rfl k_) ?_
          refine Go.on (g' := (mkF m 46 _ [(.int (3 : Int32)), (.int (2 : Int32))])) (fun t_ k_ => XS.iloadN X13.here hx rfl (hb hby d5_45) rfl k_) ?_
          refine Go.on (g' := (mkF m 47 _ [(.int (1 : Int32)), (.int (3 : Int32)), (.int (2 : Int32))])) (fun t_ k_ => XS.iconst X13.here hx rfl (hb hby d5_46) k_) ?_
          refine Go.on (g' := (mkF m 48 _ [(.int ((3 : Int32) + (1 : Int32))), (.int (2 : Int32))])) (fun t_ k_ => XS.iadd X13.here hx rfl (hb hby d5_47) rfl k_) ?_
          rw [show ((3 : Int32) + (1 : Int32)) = (4 : Int32) from by decide]
          refine Go.on (g' := (mkF m 49 _ [(.int ((2 : Int32) * (4 : Int32)))])) (fun t_ k_ => XS.imul X13.here hx rfl (hb hby d5_48) rfl k_) ?_
          rw [show ((2 : Int32) * (4 : Int32)) = (8 : Int32) from by decide]
          refine Go.on (g' := (mkF m 51 _ [(.int (2 : Int32)), (.int (8 : Int32))])) (fun t_ k_ => XS.iload X13.here hx rfl (hb hby d5_49) rfl k_) ?_
          refine Go.on (g' := (mkF m 52 _ [(.int ((8 : Int32) + (2 : Int32)))])) (fun t_ k_ => XS.iadd X13.here hx rfl (hb hby d5_51) rfl k_) ?_
          rw [show ((8 : Int32) + (2 : Int32)) = (10 : Int32) from by decide]
          refine Go.on (g' := (mkF m 54 #[.val (.ref aw), .val (.int (2 : Int32)), .val (.int (3 : Int32)), .val (.ref o1), .val (.int (2 : Int32)), .val (.int (2 : Int32)), .val (.int y4), .val (.int (10 : Int32)), .val (.int b21)] [])) (fun t_ k_ => XS.istore X13.here hx rfl (hb hby d5_52) rfl (l' := #[.val (.ref aw), .val (.int (2 : Int32)), .val (.int (3 : Int32)), .val (.ref o1), .val (.int (2 : Int32)), .val (.int (2 : Int32)), .val (.int y4), .val (.int (10 : Int32)), .val (.int b21)]) rfl k_) ?_
          refine Go.on (g' := (mkF m 55 _ [(.ref o1)])) (fun t_ k_ => XS.aloadN X13.here hx rfl (hb hby d5_54) rfl rfl k_) ?_
          refine Go.on (g' := (mkF m 57 _ [(.int (10 : Int32)), (.ref o1)])) (fun t_ k_ => XS.iload X13.here hx rfl (hb hby d5_55) rfl k_) ?_
          refine Go.on (g' := (mkF m 58 _ [(.int (3 : Int32)), (.int (10 : Int32)), (.ref o1)])) (fun t_ k_ => XS.iloadN X13.here hx rfl (hb hby d5_57) rfl k_) ?_
          refine Go.on (g' := (mkF m 59 _ [(.int ((10 : Int32) - (3 : Int32))), (.ref o1)])) (fun t_ k_ => XS.isub X13.here hx rfl (hb hby d5_58) rfl k_) ?_
          rw [show ((10 : Int32) - (3 : Int32)) = (7 : Int32) from by decide]
          refine Go.on (g' := (mkF m 60 _ [(.int (1 : Int32)), (.int (7 : Int32)), (.ref o1)])) (fun t_ k_ => XS.iconst X13.here hx rfl (hb hby d5_59) k_) ?_
          refine Go.on (g' := (mkF m 61 _ [(.int ((7 : Int32) - (1 : Int32))), (.ref o1)])) (fun t_ k_ => XS.isub X13.here hx rfl (hb hby d5_60) rfl k_) ?_
          rw [show ((7 : Int32) - (1 : Int32)) = (6 : Int32) from by decide]
          refine Go.on (g' := (mkF m 62 _ [(.int b12)])) (X13.iaload hx (j := (6 : Int32)) (v := (.int b12)) (by rw [e13]; exact A13.1) (State.isArrayOf_alike hZ.alike A13.2.1) A13.2.2 (by simp only [sz_set, sz_new]; decide) rfl (g := (mkF m 61 #[.val (.ref aw), .val (.int (2 : Int32)), .val (.int (3 : Int32)), .val (.ref o1), .val (.int (2 : Int32)), .val (.int (2 : Int32)), .val (.int y4), .val (.int (10 : Int32)), .val (.int b21)] [(.int (6 : Int32)), (.ref o1)])) rfl rfl (hb hby d5_61)) ?_
          refine Go.on (g' := (mkF m 63 _ [(.ref o1), (.int b12)])) (fun t_ k_ => XS.aloadN X13.here hx rfl (hb hby d5_62) rfl rfl k_) ?_
          refine Go.on (g' := (mkF m 65 _ [(.int (10 : Int32)), (.ref o1), (.int b12)])) (fun t_ k_ => XS.iload X13.here hx rfl (hb hby d5_63) rfl k_) ?_
          refine Go.on (g' := (mkF m 66 _ [(.int (1 : Int32)), (.int (10 : Int32)), (.ref o1), (.int b12)])) (fun t_ k_ => XS.iconst X13.here hx rfl (hb hby d5_65) k_) ?_
          refine Go.on (g' := (mkF m 67 _ [(.int ((10 : Int32) - (1 : Int32))), (.ref o1), (.int b12)])) (fun t_ k_ => XS.isub X13.here hx rfl (hb hby d5_66) rfl k_) ?_
          rw [show ((10 : Int32) - (1 : Int32)) = (9 : Int32) from by decide]
          refine Go.on (g' := (mkF m 68 _ [(.int b21), (.int b12)])) (X13.iaload hx (j := (9 : Int32)) (v := (.int b21)) (by rw [e13]; exact A13.1) (State.isArrayOf_alike hZ.alike A13.2.1) A13.2.2 (by simp only [sz_set, sz_new]; decide) rfl (g := (mkF m 67 #[.val (.ref aw), .val (.int (2 : Int32)), .val (.int (3 : Int32)), .val (.ref o1), .val (.int (2 : Int32)), .val (.int (2 : Int32)), .val (.int y4), .val (.int (10 : Int32)), .val (.int b21)] [(.int (9 : Int32)), (.ref o1), (.int b12)])) rfl rfl (hb hby d5_67)) ?_
          refine Go.callS X13 hx hZ hby (by rw [hml]; rfl) (y := (⟨"java/lang/Math", "max", "(II)I"⟩ : MethodName)) hown (hw _ (List.mem_of_getElem? (i := 19) rfl)) (hw _ (List.mem_of_getElem? (i := 9) rfl)) (hw _ (List.mem_of_getElem? (i := 10) rfl)) (hw _ (List.mem_of_getElem? (i := 11) rfl)) (by decide) (argsL := [(.int b12), (.int b21)]) (rest := []) (rmM l Z w0 hw [] b12 b21 h13) e13 0 (by decide) (by decide) (by decide) (by decide) rfl pdM rfl (Nat.le_of_eq rfl) d5_68 (pcF := 71) rfl ?_
          intro v14 T14 L14 X14 hQ14
          obtain ⟨rfl, rfl, e14⟩ := hQ14
          rw [List.append_nil] at X14
          show Go p e below _ _ (mkF m 71 _ [(.int (own_max b12 b21))])
          refine Go.on (g' := (mkF m 73 #[.val (.ref aw), .val (.int (2 : Int32)), .val (.int (3 : Int32)), .val (.ref o1), .val (.int (2 : Int32)), .val (.int (2 : Int32)), .val (.int y4), .val (.int (10 : Int32)), .val (.int (own_max b12 b21))] [])) (fun t_ k_ => XS.istore X14.here hx rfl (hb hby d5_71) rfl (l' := #[.val (.ref aw), .val (.int (2 : Int32)), .val (.int (3 : Int32)), .val (.ref o1), .val (.int (2 : Int32)), .val (.int (2 : Int32)), .val (.int y4), .val (.int (10 : Int32)), .val (.int (own_max b12 b21))]) rfl k_) ?_
          refine Go.joinV (P := fun b22 : Int32 => b22 = own_cell y4 (own_max b12 b21) b11) (g := fun b22 => (mkF m 96 #[.val (.ref aw), .val (.int (2 : Int32)), .val (.int (3 : Int32)), .val (.ref o1), .val (.int (2 : Int32)), .val (.int (2 : Int32)), .val (.int y4), .val (.int (10 : Int32)), .val (.int b22)] [])) X14 e14 (fun T15 b22 X15 e15 hb22 => ?_) (fun J => ?_)
          · have hc22 : own_c22 y0 y1 y3 y4 = b22 := by rw [hb22, own_c22, hc11, hc12, hc21]
            show Go p e below _ _ (mkF m 96 _ [])
            refine Go.on (g' := (mkF m 97 _ [(.ref o1)])) (fun t_ k_ => XS.aloadN X15.here hx rfl (hb hby d5_96) rfl rfl k_) ?_
            refine Go.on (g' := (mkF m 99 _ [(.int (10 : Int32)), (.ref o1)])) (fun t_ k_ => XS.iload X15.here hx rfl (hb hby d5_97) rfl k_) ?_
            refine Go.on (g' := (mkF m 101 _ [(.int b22), (.int (10 : Int32)), (.ref o1)])) (fun t_ k_ => XS.iload X15.here hx rfl (hb hby d5_99) rfl k_) ?_
            obtain ⟨T16, h16, X16, e16, W16, st16⟩ := stI X15 hx hZ e15 A13 (j := (10 : Int32)) (by simp only [sz_set, sz_new]; decide) (g := (mkF m 101 #[.val (.ref aw), .val (.int (2 : Int32)), .val (.int (3 : Int32)), .val (.ref o1), .val (.int (2 : Int32)), .val (.int (2 : Int32)), .val (.int y4), .val (.int (10 : Int32)), .val (.int b22)] [(.int b22), (.int (10 : Int32)), (.ref o1)])) rfl rfl (hb hby d5_101)
            have N16 := Fr.snoc X16 N13 no1
            have Z16 : n0 ≤ h16.size := by rw [W16.size]; exact Z13
            have EX_16 := extWr EX_13 W16 mo1
            have arr_aw_16 := arr_aw_13.other W16 ne_aw_o1
            have A16 := A13.same W16
            refine Go.on (g' := (mkF m 102 _ [])) (st16) ?_
            refine Go.on (g' := (mkF m 105 #[.val (.ref aw), .val (.int (2 : Int32)), .val (.int (3 : Int32)), .val (.ref o1), .val (.int (2 : Int32)), .val (.int ((2 : Int32) + (1 : Int32))), .val (.int y4), .val (.int (10 : Int32)), .val (.int b22)] [])) (fun t_ k_ => XS.iinc X16.here hx rfl (hb hby d5_102) rfl (l' := #[.val (.ref aw), .val (.int (2 : Int32)), .val (.int (3 : Int32)), .val (.ref o1), .val (.int (2 : Int32)), .val (.int ((2 : Int32) + (1 : Int32))), .val (.int y4), .val (.int (10 : Int32)), .val (.int b22)]) rfl k_) ?_
            rw [show ((2 : Int32) + (1 : Int32)) = (3 : Int32) from by decide]
            refine Go.on (g' := (mkF m 22 _ [])) (fun t_ k_ => XS.goto X16.here hx rfl (pc0 := 105) (pc' := 22) rfl (hb hby d5_105) (by decide) (by decide) k_) ?_
            refine Go.on (g' := (mkF m 24 _ [(.int (3 : Int32))])) (fun t_ k_ => XS.iload X16.here hx rfl (hb hby d5_22) rfl k_) ?_
            refine Go.on (g' := (mkF m 25 _ [(.int (3 : Int32)), (.int (3 : Int32))])) (fun t_ k_ => XS.iloadN X16.here hx rfl (hb hby d5_24) rfl k_) ?_
            refine Go.icmp X16 hx hby d5_25 (pcT := 108) (pcF := 28) (by decide) (by decide) rfl (fun q => absurd q (by decide)) (fun q => ?_)
            clear q
            show Go p e below _ _ (mkF m 28 _ [])
            refine Go.on (g' := (mkF m 29 _ [(.ref aw)])) (fun t_ k_ => XS.aloadN X16.here hx rfl (hb hby d5_28) rfl rfl k_) ?_
            refine Go.on (g' := (mkF m 31 _ [(.int (2 : Int32)), (.ref aw)])) (fun t_ k_ => XS.iload X16.here hx rfl (hb hby d5_29) rfl k_) ?_
            refine Go.on (g' := (mkF m 32 _ [(.int (1 : Int32)), (.int (2 : Int32)), (.ref aw)])) (fun t_ k_ => XS.iconst X16.here hx rfl (hb hby d5_31) k_) ?_
            refine Go.on (g' := (mkF m 33 _ [(.int ((2 : Int32) - (1 : Int32))), (.ref aw)])) (fun t_ k_ => XS.isub X16.here hx rfl (hb hby d5_32) rfl k_) ?_
            rw [show ((2 : Int32) - (1 : Int32)) = (1 : Int32) from by decide]
            refine Go.on (g' := (mkF m 34 _ [(.int (3 : Int32)), (.int (1 : Int32)), (.ref aw)])) (fun t_ k_ => XS.iloadN X16.here hx rfl (hb hby d5_33) rfl k_) ?_
            refine Go.on (g' := (mkF m 35 _ [(.int ((1 : Int32) * (3 : Int32))), (.ref aw)])) (fun t_ k_ => XS.imul X16.here hx rfl (hb hby d5_34) rfl k_) ?_
            rw [show ((1 : Int32) * (3 : Int32)) = (3 : Int32) from by decide]
            refine Go.on (g' := (mkF m 37 _ [(.int (3 : Int32)), (.int (3 : Int32)), (.ref aw)])) (fun t_ k_ => XS.iload X16.here hx rfl (hb hby d5_35) rfl k_) ?_
            refine Go.on (g' := (mkF m 38 _ [(.int ((3 : Int32) + (3 : Int32))), (.ref aw)])) (fun t_ k_ => XS.iadd X16.here hx rfl (hb hby d5_37) rfl k_) ?_
            rw [show ((3 : Int32) + (3 : Int32)) = (6 : Int32) from by decide]
            refine Go.on (g' := (mkF m 39 _ [(.int (1 : Int32)), (.int (6 : Int32)), (.ref aw)])) (fun t_ k_ => XS.iconst X16.here hx rfl (hb hby d5_38) k_) ?_
            refine Go.on (g' := (mkF m 40 _ [(.int ((6 : Int32) - (1 : Int32))), (.ref aw)])) (fun t_ k_ => XS.isub X16.here hx rfl (hb hby d5_39) rfl k_) ?_
            rw [show ((6 : Int32) - (1 : Int32)) = (5 : Int32) from by decide]
            refine Go.on (g' := (mkF m 41 _ [(.int y5)])) (X16.iaload hx (j := (5 : Int32)) (v := (.int y5)) (by rw [e16]; exact arr_aw_16.1) (State.isArrayOf_alike hZ.alike arr_aw_16.2.1) arr_aw_16.2.2 (by rw [HW.1]; decide) HW.2.2.2.2.2.2 (g := (mkF m 40 #[.val (.ref aw), .val (.int (2 : Int32)), .val (.int (3 : Int32)), .val (.ref o1), .val (.int (2 : Int32)), .val (.int (3 : Int32)), .val (.int y4), .val (.int (10 : Int32)), .val (.int b22)] [(.int (5 : Int32)), (.ref aw)])) rfl rfl (hb hby d5_40)) ?_
            refine Go.on (g' := (mkF m 43 #[.val (.ref aw), .val (.int (2 : Int32)), .val (.int (3 : Int32)), .val (.ref o1), .val (.int (2 : Int32)), .val (.int (3 : Int32)), .val (.int y5), .val (.int (10 : Int32)), .val (.int b22)] [])) (fun t_ k_ => XS.istore X16.here hx rfl (hb hby d5_41) rfl (l' := #[.val (.ref aw), .val (.int (2 : Int32)), .val (.int (3 : Int32)), .val (.ref o1), .val (.int (2 : Int32)), .val (.int (3 : Int32)), .val (.int y5), .val (.int (10 : Int32)), .val (.int b22)]) rfl k_) ?_
            refine Go.on (g' := (mkF m 45 _ [(.int (2 : Int32))])) (fun t_ k_ => XS.iload X16.here hx rfl (hb hby d5_43) rfl k_) ?_
            refine Go.on (g' := (mkF m 46 _ [(.int (3 : Int32)), (.int (2 : Int32))])) (fun t_ k_ => XS.iloadN X16.here hx rfl (hb hby d5_45) rfl k_) ?_
            refine Go.on (g' := (mkF m 47 _ [(.int (1 : Int32)), (.int (3 : Int32)), (.int (2 : Int32))])) (fun t_ k_ => XS.iconst X16.here hx rfl (hb hby d5_46) k_) ?_
            refine Go.on (g' := (mkF m 48 _ [(.int ((3 : Int32) + (1 : Int32))), (.int (2 : Int32))])) (fun t_ k_ => XS.iadd X16.here hx rfl (hb hby d5_47) rfl k_) ?_
            rw [show ((3 : Int32) + (1 : Int32)) = (4 : Int32) from by decide]
            refine Go.on (g' := (mkF m 49 _ [(.int ((2 : Int32) * (4 : Int32)))])) (fun t_ k_ => XS.imul X16.here hx rfl (hb hby d5_48) rfl k_) ?_
            rw [show ((2 : Int32) * (4 : Int32)) = (8 : Int32) from by decide]
            refine Go.on (g' := (mkF m 51 _ [(.int (3 : Int32)), (.int (8 : Int32))])) (fun t_ k_ => XS.iload X16.here hx rfl (hb hby d5_49) rfl k_) ?_
            refine Go.on (g' := (mkF m 52 _ [(.int ((8 : Int32) + (3 : Int32)))])) (fun t_ k_ => XS.iadd X16.here hx rfl (hb hby d5_51) rfl k_) ?_
            rw [show ((8 : Int32) + (3 : Int32)) = (11 : Int32) from by decide]
            refine Go.on (g' := (mkF m 54 #[.val (.ref aw), .val (.int (2 : Int32)), .val (.int (3 : Int32)), .val (.ref o1), .val (.int (2 : Int32)), .val (.int (3 : Int32)), .val (.int y5), .val (.int (11 : Int32)), .val (.int b22)] [])) (fun t_ k_ => XS.istore X16.here hx rfl (hb hby d5_52) rfl (l' := #[.val (.ref aw), .val (.int (2 : Int32)), .val (.int (3 : Int32)), .val (.ref o1), .val (.int (2 : Int32)), .val (.int (3 : Int32)), .val (.int y5), .val (.int (11 : Int32)), .val (.int b22)]) rfl k_) ?_
            refine Go.on (g' := (mkF m 55 _ [(.ref o1)])) (fun t_ k_ => XS.aloadN X16.here hx rfl (hb hby d5_54) rfl rfl k_) ?_
            refine Go.on (g' := (mkF m 57 _ [(.int (11 : Int32)), (.ref o1)])) (fun t_ k_ => XS.iload X16.here hx rfl (hb hby d5_55) rfl k_) ?_
            refine Go.on (g' := (mkF m 58 _ [(.int (3 : Int32)), (.int (11 : Int32)), (.ref o1)])) (fun t_ k_ => XS.iloadN X16.here hx rfl (hb hby d5_57) rfl k_) ?_
            refine Go.on (g' := (mkF m 59 _ [(.int ((11 : Int32) - (3 : Int32))), (.ref o1)])) (fun t_ k_ => XS.isub X16.here hx rfl (hb hby d5_58) rfl k_) ?_
            rw [show ((11 : Int32) - (3 : Int32)) = (8 : Int32) from by decide]
            refine Go.on (g' := (mkF m 60 _ [(.int (1 : Int32)), (.int (8 : Int32)), (.ref o1)])) (fun t_ k_ => XS.iconst X16.here hx rfl (hb hby d5_59) k_) ?_
            refine Go.on (g' := (mkF m 61 _ [(.int ((8 : Int32) - (1 : Int32))), (.ref o1)])) (fun t_ k_ => XS.isub X16.here hx rfl (hb hby d5_60) rfl k_) ?_
            rw [show ((8 : Int32) - (1 : Int32)) = (7 : Int32) from by decide]
            refine Go.on (g' := (mkF m 62 _ [(.int b13)])) (X16.iaload hx (j := (7 : Int32)) (v := (.int b13)) (by rw [e16]; exact A16.1) (State.isArrayOf_alike hZ.alike A16.2.1) A16.2.2 (by simp only [sz_set, sz_new]; decide) rfl (g := (mkF m 61 #[.val (.ref aw), .val (.int (2 : Int32)), .val (.int (3 : Int32)), .val (.ref o1), .val (.int (2 : Int32)), .val (.int (3 : Int32)), .val (.int y5), .val (.int (11 : Int32)), .val (.int b22)] [(.int (7 : Int32)), (.ref o1)])) rfl rfl (hb hby d5_61)) ?_
            refine Go.on (g' := (mkF m 63 _ [(.ref o1), (.int b13)])) (fun t_ k_ => XS.aloadN X16.here hx rfl (hb hby d5_62) rfl rfl k_) ?_
            refine Go.on (g' := (mkF m 65 _ [(.int (11 : Int32)), (.ref o1), (.int b13)])) (fun t_ k_ => XS.iload X16.here hx rfl (hb hby d5_63) rfl k_) ?_
            refine Go.on (g' := (mkF m 66 _ [(.int (1 : Int32)), (.int (11 : Int32)), (.ref o1), (.int b13)])) (fun t_ k_ => XS.iconst X16.here hx rfl (hb hby d5_65) k_) ?_
            refine Go.on (g' := (mkF m 67 _ [(.int ((11 : Int32) - (1 : Int32))), (.ref o1), (.int b13)])) (fun t_ k_ => XS.isub X16.here hx rfl (hb hby d5_66) rfl k_) ?_
            rw [show ((11 : Int32) - (1 : Int32)) = (10 : Int32) from by decide]
            refine Go.on (g' := (mkF m 68 _ [(.int b22), (.int b13)])) (X16.iaload hx (j := (10 : Int32)) (v := (.int b22)) (by rw [e16]; exact A16.1) (State.isArrayOf_alike hZ.alike A16.2.1) A16.2.2 (by simp only [sz_set, sz_new]; decide) rfl (g := (mkF m 67 #[.val (.ref aw), .val (.int (2 : Int32)), .val (.int (3 : Int32)), .val (.ref o1), .val (.int (2 : Int32)), .val (.int (3 : Int32)), .val (.int y5), .val (.int (11 : Int32)), .val (.int b22)] [(.int (10 : Int32)), (.ref o1), (.int b13)])) rfl rfl (hb hby d5_67)) ?_
            refine Go.callS X16 hx hZ hby (by rw [hml]; rfl) (y := (⟨"java/lang/Math", "max", "(II)I"⟩ : MethodName)) hown (hw _ (List.mem_of_getElem? (i := 19) rfl)) (hw _ (List.mem_of_getElem? (i := 9) rfl)) (hw _ (List.mem_of_getElem? (i := 10) rfl)) (hw _ (List.mem_of_getElem? (i := 11) rfl)) (by decide) (argsL := [(.int b13), (.int b22)]) (rest := []) (rmM l Z w0 hw [] b13 b22 h16) e16 0 (by decide) (by decide) (by decide) (by decide) rfl pdM rfl (Nat.le_of_eq rfl) d5_68 (pcF := 71) rfl ?_
            intro v17 T17 L17 X17 hQ17
            obtain ⟨rfl, rfl, e17⟩ := hQ17
            rw [List.append_nil] at X17
            show Go p e below _ _ (mkF m 71 _ [(.int (own_max b13 b22))])
            refine Go.on (g' := (mkF m 73 #[.val (.ref aw), .val (.int (2 : Int32)), .val (.int (3 : Int32)), .val (.ref o1), .val (.int (2 : Int32)), .val (.int (3 : Int32)), .val (.int y5), .val (.int (11 : Int32)), .val (.int (own_max b13 b22))] [])) (fun t_ k_ => XS.istore X17.here hx rfl (hb hby d5_71) rfl (l' := #[.val (.ref aw), .val (.int (2 : Int32)), .val (.int (3 : Int32)), .val (.ref o1), .val (.int (2 : Int32)), .val (.int (3 : Int32)), .val (.int y5), .val (.int (11 : Int32)), .val (.int (own_max b13 b22))]) rfl k_) ?_
            refine Go.joinV (P := fun b23 : Int32 => b23 = own_cell y5 (own_max b13 b22) b12) (g := fun b23 => (mkF m 96 #[.val (.ref aw), .val (.int (2 : Int32)), .val (.int (3 : Int32)), .val (.ref o1), .val (.int (2 : Int32)), .val (.int (3 : Int32)), .val (.int y5), .val (.int (11 : Int32)), .val (.int b23)] [])) X17 e17 (fun T18 b23 X18 e18 hb23 => ?_) (fun J => ?_)
            · have hc23 : own_c23 y0 y1 y2 y3 y4 y5 = b23 := by rw [hb23, own_c23, hc12, hc13, hc22]
              show Go p e below _ _ (mkF m 96 _ [])
              refine Go.on (g' := (mkF m 97 _ [(.ref o1)])) (fun t_ k_ => XS.aloadN X18.here hx rfl (hb hby d5_96) rfl rfl k_) ?_
              refine Go.on (g' := (mkF m 99 _ [(.int (11 : Int32)), (.ref o1)])) (fun t_ k_ => XS.iload X18.here hx rfl (hb hby d5_97) rfl k_) ?_
              refine Go.on (g' := (mkF m 101 _ [(.int b23), (.int (11 : Int32)), (.ref o1)])) (fun t_ k_ => XS.iload X18.here hx rfl (hb hby d5_99) rfl k_) ?_
              obtain ⟨T19, h19, X19, e19, W19, st19⟩ := stI X18 hx hZ e18 A16 (j := (11 : Int32)) (by simp only [sz_set, sz_new]; decide) (g := (mkF m 101 #[.val (.ref aw), .val (.int (2 : Int32)), .val (.int (3 : Int32)), .val (.ref o1), .val (.int (2 : Int32)), .val (.int (3 : Int32)), .val (.int y5), .val (.int (11 : Int32)), .val (.int b23)] [(.int b23), (.int (11 : Int32)), (.ref o1)])) rfl rfl (hb hby d5_101)
              have N19 := Fr.snoc X19 N16 no1
              have Z19 : n0 ≤ h19.size := by rw [W19.size]; exact Z16
              have EX_19 := extWr EX_16 W19 mo1
              have arr_aw_19 := arr_aw_16.other W19 ne_aw_o1
              have A19 := A16.same W19
              refine Go.on (g' := (mkF m 102 _ [])) (st19) ?_
              refine Go.on (g' := (mkF m 105 #[.val (.ref aw), .val (.int (2 : Int32)), .val (.int (3 : Int32)), .val (.ref o1), .val (.int (2 : Int32)), .val (.int ((3 : Int32) + (1 : Int32))), .val (.int y5), .val (.int (11 : Int32)), .val (.int b23)] [])) (fun t_ k_ => XS.iinc X19.here hx rfl (hb hby d5_102) rfl (l' := #[.val (.ref aw), .val (.int (2 : Int32)), .val (.int (3 : Int32)), .val (.ref o1), .val (.int (2 : Int32)), .val (.int ((3 : Int32) + (1 : Int32))), .val (.int y5), .val (.int (11 : Int32)), .val (.int b23)]) rfl k_) ?_
              rw [show ((3 : Int32) + (1 : Int32)) = (4 : Int32) from by decide]
              refine Go.on (g' := (mkF m 22 _ [])) (fun t_ k_ => XS.goto X19.here hx rfl (pc0 := 105) (pc' := 22) rfl (hb hby d5_105) (by decide) (by decide) k_) ?_
              refine Go.on (g' := (mkF m 24 _ [(.int (4 : Int32))])) (fun t_ k_ => XS.iload X19.here hx rfl (hb hby d5_22) rfl k_) ?_
              refine Go.on (g' := (mkF m 25 _ [(.int (3 : Int32)), (.int (4 : Int32))])) (fun t_ k_ => XS.iloadN X19.here hx rfl (hb hby d5_24) rfl k_) ?_
              refine Go.icmp X19 hx hby d5_25 (pcT := 108) (pcF := 28) (by decide) (by decide) rfl (fun q => ?_) (fun q => absurd q (by decide))
              clear q
              show Go p e below _ _ (mkF m 108 _ [])
              refine Go.on (g' := (mkF m 111 #[.val (.ref aw), .val (.int (2 : Int32)), .val (.int (3 : Int32)), .val (.ref o1), .val (.int ((2 : Int32) + (1 : Int32))), .val (.int (4 : Int32)), .val (.int y5), .val (.int (11 : Int32)), .val (.int b23)] [])) (fun t_ k_ => XS.iinc X19.here hx rfl (hb hby d5_108) rfl (l' := #[.val (.ref aw), .val (.int (2 : Int32)), .val (.int (3 : Int32)), .val (.ref o1), .val (.int ((2 : Int32) + (1 : Int32))), .val (.int (4 : Int32)), .val (.int y5), .val (.int (11 : Int32)), .val (.int b23)]) rfl k_) ?_
              rw [show ((2 : Int32) + (1 : Int32)) = (3 : Int32) from by decide]
              refine Go.on (g' := (mkF m 13 _ [])) (fun t_ k_ => XS.goto X19.here hx rfl (pc0 := 111) (pc' := 13) rfl (hb hby d5_111) (by decide) (by decide) k_) ?_
              refine Go.on (g' := (mkF m 15 _ [(.int (3 : Int32))])) (fun t_ k_ => XS.iload X19.here hx rfl (hb hby d5_13) rfl k_) ?_
              refine Go.on (g' := (mkF m 16 _ [(.int (2 : Int32)), (.int (3 : Int32))])) (fun t_ k_ => XS.iloadN X19.here hx rfl (hb hby d5_15) rfl k_) ?_
              refine Go.icmp X19 hx hby d5_16 (pcT := 114) (pcF := 19) (by decide) (by decide) rfl (fun q => ?_) (fun q => absurd q (by decide))
              clear q
              show Go p e below _ _ (mkF m 114 _ [])
              refine Go.on (g' := (mkF m 115 _ [(.int (2 : Int32))])) (fun t_ k_ => XS.iloadN X19.here hx rfl (hb hby d5_114) rfl k_) ?_
              obtain ⟨T20, h20, cA20, X20, e20, E20, A20, st20⟩ := newP X19 hx hZ (hw _ (List.mem_of_getElem? (i := 0) rfl)) e19 (g := (mkF m 115 #[.val (.ref aw), .val (.int (2 : Int32)), .val (.int (3 : Int32)), .val (.ref o1), .val (.int (3 : Int32)), .val (.int (4 : Int32)), .val (.int y5), .val (.int (11 : Int32)), .val (.int b23)] [(.int (2 : Int32))])) rfl (hb hby d5_115) (n := (2 : Int32)) rfl (by decide) (cap := 2) (by decide) (by decide) (by decide) (by decide)
              obtain ⟨o20, go20⟩ : ∃ z, z = (h19).size := ⟨_, rfl⟩
              rw [← go20] at A20 st20
              have no20 : n0 ≤ o20 := Nat.le_trans Z19 (Nat.le_of_eq go20.symm)
              have Z20 : n0 ≤ h20.size := Nat.le_trans Z19 E20.1
              have EX_20 := extTrans EX_19 E20
              have arr_aw_20 := arr_aw_19.ext E20
              have arr_o1_20 := A19.ext E20
              have mo20 : h0.size ≤ o20 := Nat.le_trans EX_19.1 (Nat.le_of_eq go20.symm)
              have ne_aw_o20 : aw ≠ o20 := Nat.ne_of_lt (by rw [go20]; exact arr_aw_19.lt)
              have ne_o1_o20 : o1 ≠ o20 := Nat.ne_of_lt (by rw [go20]; exact A19.lt)
              refine Go.on (g' := (mkF m 117 _ [(.ref o20)])) (st20) ?_
              refine Go.on (g' := (mkF m 119 #[.val (.ref aw), .val (.int (2 : Int32)), .val (.int (3 : Int32)), .val (.ref o1), .val (.ref o20), .val (.int (4 : Int32)), .val (.int y5), .val (.int (11 : Int32)), .val (.int b23)] [])) (fun t_ k_ => XS.astore X20.here hx rfl (hb hby d5_117) rfl rfl (l' := #[.val (.ref aw), .val (.int (2 : Int32)), .val (.int (3 : Int32)), .val (.ref o1), .val (.ref o20), .val (.int (4 : Int32)), .val (.int y5), .val (.int (11 : Int32)), .val (.int b23)]) rfl k_) ?_
              refine Go.on (g' := (mkF m 121 _ [(.ref o20)])) (fun t_ k_ => XS.aload X20.here hx rfl (hb hby d5_119) rfl rfl k_) ?_
              refine Go.on (g' := (mkF m 122 _ [(.int ((-1) : Int32)), (.ref o20)])) (fun t_ k_ => XS.iconst X20.here hx rfl (hb hby d5_121) k_) ?_
              refine Go.callS X20 hx hZ hby (by rw [hml]; rfl) (y := (⟨"java/util/Arrays", "fill", "([II)V"⟩ : MethodName)) hown (hw _ (List.mem_of_getElem? (i := 20) rfl)) (hw _ (List.mem_of_getElem? (i := 21) rfl)) (hw _ (List.mem_of_getElem? (i := 22) rfl)) (hw _ (List.mem_of_getElem? (i := 23) rfl)) (by decide) (argsL := [(.ref o20), (.int ((-1) : Int32))]) (rest := []) (rmFi2 l Z w0 hw [] o20 ((-1) : Int32) h20 n0 Z20 no20 _ A20 (sz_new _ _ _)) e20 0 (by decide) (by decide) (by decide) (by decide) rfl pdFi rfl (Nat.le_of_eq rfl) d5_122 (pcF := 125) rfl ?_
              intro v21 T21 L21 X21 hQ21
              obtain ⟨rfl, M21, K21, AR21⟩ := hQ21
              have N21 := Fr.app N19 M21
              have Z21 : n0 ≤ T21.heap.size := Nat.le_trans Z20 K21.1
              have EX21 := extKeep EX_20 K21 mo20
              have AW21 := arrKeep arr_aw_20 K21 ne_aw_o20
              have AB21 := arrKeep arr_o1_20 K21 ne_o1_o20
              have e21 : T21.heap = T21.heap := rfl
              show Go p e below _ _ (mkF m 125 _ [])
              refine Go.on (g' := (mkF m 126 _ [(.int (2 : Int32))])) (fun t_ k_ => XS.iloadN X21.here hx rfl (hb hby d5_125) rfl k_) ?_
              refine Go.on (g' := (mkF m 128 #[.val (.ref aw), .val (.int (2 : Int32)), .val (.int (3 : Int32)), .val (.ref o1), .val (.ref o20), .val (.int (2 : Int32)), .val (.int y5), .val (.int (11 : Int32)), .val (.int b23)] [])) (fun t_ k_ => XS.istore X21.here hx rfl (hb hby d5_126) rfl (l' := #[.val (.ref aw), .val (.int (2 : Int32)), .val (.int (3 : Int32)), .val (.ref o1), .val (.ref o20), .val (.int (2 : Int32)), .val (.int y5), .val (.int (11 : Int32)), .val (.int b23)]) rfl k_) ?_
              refine Go.on (g' := (mkF m 129 _ [(.int (3 : Int32))])) (fun t_ k_ => XS.iloadN X21.here hx rfl (hb hby d5_128) rfl k_) ?_
              refine Go.on (g' := (mkF m 131 #[.val (.ref aw), .val (.int (2 : Int32)), .val (.int (3 : Int32)), .val (.ref o1), .val (.ref o20), .val (.int (2 : Int32)), .val (.int (3 : Int32)), .val (.int (11 : Int32)), .val (.int b23)] [])) (fun t_ k_ => XS.istore X21.here hx rfl (hb hby d5_129) rfl (l' := #[.val (.ref aw), .val (.int (2 : Int32)), .val (.int (3 : Int32)), .val (.ref o1), .val (.ref o20), .val (.int (2 : Int32)), .val (.int (3 : Int32)), .val (.int (11 : Int32)), .val (.int b23)]) rfl k_) ?_
              rw [own_p23, hc11, hc12, hc13, hc21, hc22, hc23]
              exact nd23_2_3 l Z w0 hw ws aw o1 o20 p e s m below meth c h0 n0 T21 _ X21 hx hby hml hret hlk hZ _ e21 Z21 N21 EX21 no20 mo20 ne_aw_o20 ne_o1_o20 cw AW21 y0 y1 y2 y3 y4 y5 HW _ AB21 b11 b12 b13 b21 b22 b23 ⟨by simp only [sz_set, sz_new]; decide, rfl, rfl, rfl, rfl, rfl, rfl, rfl, rfl, rfl, rfl, rfl, rfl⟩ _ AR21 (by simp only [sz_set, sz_new]; decide) rfl rfl (.val (.int (11 : Int32))) (.val (.int b23)) (One.val rfl) (One.val rfl)
            · show Go p e below _ _ (mkF m 73 _ [])
              refine Go.on (g' := (mkF m 75 _ [(.int y5)])) (fun t_ k_ => XS.iload X17.here hx rfl (hb hby d5_73) rfl k_) ?_
              refine Go.ifc X17 hx hby d5_75 (pcT := 96) (pcF := 78) (by decide) (by decide) rfl (fun q => ?_) (fun q => ?_)
              · have q1 := iLe.1 q
                clear q
                show Go p e below _ _ (mkF m 96 _ [])
                exact J T17 (own_max b13 b22) X17 e17 (by rw [own_cell, if_neg q1])
              · have q1 := iLe.2 q
                clear q
                show Go p e below _ _ (mkF m 78 _ [])
                refine Go.on (g' := (mkF m 80 _ [(.int (own_max b13 b22))])) (fun t_ k_ => XS.iload X17.here hx rfl (hb hby d5_78) rfl k_) ?_
                refine Go.on (g' := (mkF m 81 _ [(.ref o1), (.int (own_max b13 b22))])) (fun t_ k_ => XS.aloadN X17.here hx rfl (hb hby d5_80) rfl rfl k_) ?_
                refine Go.on (g' := (mkF m 83 _ [(.int (11 : Int32)), (.ref o1), (.int (own_max b13 b22))])) (fun t_ k_ => XS.iload X17.here hx rfl (hb hby d5_81) rfl k_) ?_
                refine Go.on (g' := (mkF m 84 _ [(.int (3 : Int32)), (.int (11 : Int32)), (.ref o1), (.int (own_max b13 b22))])) (fun t_ k_ => XS.iloadN X17.here hx rfl (hb hby d5_83) rfl k_) ?_
                refine Go.on (g' := (mkF m 85 _ [(.int ((11 : Int32) - (3 : Int32))), (.ref o1), (.int (own_max b13 b22))])) (fun t_ k_ => XS.isub X17.here hx rfl (hb hby d5_84) rfl k_) ?_
                rw [show ((11 : Int32) - (3 : Int32)) = (8 : Int32) from by decide]
                refine Go.on (g' := (mkF m 86 _ [(.int (2 : Int32)), (.int (8 : Int32)), (.ref o1), (.int (own_max b13 b22))])) (fun t_ k_ => XS.iconst X17.here hx rfl (hb hby d5_85) k_) ?_
                refine Go.on (g' := (mkF m 87 _ [(.int ((8 : Int32) - (2 : Int32))), (.ref o1), (.int (own_max b13 b22))])) (fun t_ k_ => XS.isub X17.here hx rfl (hb hby d5_86) rfl k_) ?_
                rw [show ((8 : Int32) - (2 : Int32)) = (6 : Int32) from by decide]
                refine Go.on (g' := (mkF m 88 _ [(.int b12), (.int (own_max b13 b22))])) (X17.iaload hx (j := (6 : Int32)) (v := (.int b12)) (by rw [e17]; exact A16.1) (State.isArrayOf_alike hZ.alike A16.2.1) A16.2.2 (by simp only [sz_set, sz_new]; decide) rfl (g := (mkF m 87 #[.val (.ref aw), .val (.int (2 : Int32)), .val (.int (3 : Int32)), .val (.ref o1), .val (.int (2 : Int32)), .val (.int (3 : Int32)), .val (.int y5), .val (.int (11 : Int32)), .val (.int (own_max b13 b22))] [(.int (6 : Int32)), (.ref o1), (.int (own_max b13 b22))])) rfl rfl (hb hby d5_87)) ?_
                refine Go.on (g' := (mkF m 90 _ [(.int y5), (.int b12), (.int (own_max b13 b22))])) (fun t_ k_ => XS.iload X17.here hx rfl (hb hby d5_88) rfl k_) ?_
                refine Go.on (g' := (mkF m 91 _ [(.int (b12 + y5)), (.int (own_max b13 b22))])) (fun t_ k_ => XS.iadd X17.here hx rfl (hb hby d5_90) rfl k_) ?_
                refine Go.callS X17 hx hZ hby (by rw [hml]; rfl) (y := (⟨"java/lang/Math", "max", "(II)I"⟩ : MethodName)) hown (hw _ (List.mem_of_getElem? (i := 19) rfl)) (hw _ (List.mem_of_getElem? (i := 9) rfl)) (hw _ (List.mem_of_getElem? (i := 10) rfl)) (hw _ (List.mem_of_getElem? (i := 11) rfl)) (by decide) (argsL := [(.int (own_max b13 b22)), (.int (b12 + y5))]) (rest := []) (rmM l Z w0 hw [] (own_max b13 b22) (b12 + y5) h16) e17 0 (by decide) (by decide) (by decide) (by decide) rfl pdM rfl (Nat.le_of_eq rfl) d5_91 (pcF := 94) rfl ?_
                intro v22 T22 L22 X22 hQ22
                obtain ⟨rfl, rfl, e22⟩ := hQ22
                rw [List.append_nil] at X22
                show Go p e below _ _ (mkF m 94 _ [(.int (own_max (own_max b13 b22) (b12 + y5)))])
                refine Go.on (g' := (mkF m 96 #[.val (.ref aw), .val (.int (2 : Int32)), .val (.int (3 : Int32)), .val (.ref o1), .val (.int (2 : Int32)), .val (.int (3 : Int32)), .val (.int y5), .val (.int (11 : Int32)), .val (.int (own_max (own_max b13 b22) (b12 + y5)))] [])) (fun t_ k_ => XS.istore X22.here hx rfl (hb hby d5_94) rfl (l' := #[.val (.ref aw), .val (.int (2 : Int32)), .val (.int (3 : Int32)), .val (.ref o1), .val (.int (2 : Int32)), .val (.int (3 : Int32)), .val (.int y5), .val (.int (11 : Int32)), .val (.int (own_max (own_max b13 b22) (b12 + y5)))]) rfl k_) ?_
                exact J T22 (own_max (own_max b13 b22) (b12 + y5)) X22 e22 (by rw [own_cell, if_pos q1])
          · show Go p e below _ _ (mkF m 73 _ [])
            refine Go.on (g' := (mkF m 75 _ [(.int y4)])) (fun t_ k_ => XS.iload X14.here hx rfl (hb hby d5_73) rfl k_) ?_
            refine Go.ifc X14 hx hby d5_75 (pcT := 96) (pcF := 78) (by decide) (by decide) rfl (fun q => ?_) (fun q => ?_)
            · have q2 := iLe.1 q
              clear q
              show Go p e below _ _ (mkF m 96 _ [])
              exact J T14 (own_max b12 b21) X14 e14 (by rw [own_cell, if_neg q2])
            · have q2 := iLe.2 q
              clear q
              show Go p e below _ _ (mkF m 78 _ [])
              refine Go.on (g' := (mkF m 80 _ [(.int (own_max b12 b21))])) (fun t_ k_ => XS.iload X14.here hx rfl (hb hby d5_78) rfl k_) ?_
              refine Go.on (g' := (mkF m 81 _ [(.ref o1), (.int (own_max b12 b21))])) (fun t_ k_ => XS.aloadN X14.here hx rfl (hb hby d5_80) rfl rfl k_) ?_
              refine Go.on (g' := (mkF m 83 _ [(.int (10 : Int32)), (.ref o1), (.int (own_max b12 b21))])) (fun t_ k_ => XS.iload X14.here hx rfl (hb hby d5_81) rfl k_) ?_
              refine Go.on (g' := (mkF m 84 _ [(.int (3 : Int32)), (.int (10 : Int32)), (.ref o1), (.int (own_max b12 b21))])) (fun t_ k_ => XS.iloadN X14.here hx rfl (hb hby d5_83) rfl k_) ?_
              refine Go.on (g' := (mkF m 85 _ [(.int ((10 : Int32) - (3 : Int32))), (.ref o1), (.int (own_max b12 b21))])) (fun t_ k_ => XS.isub X14.here hx rfl (hb hby d5_84) rfl k_) ?_
              rw [show ((10 : Int32) - (3 : Int32)) = (7 : Int32) from by decide]
              refine Go.on (g' := (mkF m 86 _ [(.int (2 : Int32)), (.int (7 : Int32)), (.ref o1), (.int (own_max b12 b21))])) (fun t_ k_ => XS.iconst X14.here hx rfl (hb hby d5_85) k_) ?_
              refine Go.on (g' := (mkF m 87 _ [(.int ((7 : Int32) - (2 : Int32))), (.ref o1), (.int (own_max b12 b21))])) (fun t_ k_ => XS.isub X14.here hx rfl (hb hby d5_86) rfl k_) ?_
              rw [show ((7 : Int32) - (2 : Int32)) = (5 : Int32) from by decide]
              refine Go.on (g' := (mkF m 88 _ [(.int b11), (.int (own_max b12 b21))])) (X14.iaload hx (j := (5 : Int32)) (v := (.int b11)) (by rw [e14]; exact A13.1) (State.isArrayOf_alike hZ.alike A13.2.1) A13.2.2 (by simp only [sz_set, sz_new]; decide) rfl (g := (mkF m 87 #[.val (.ref aw), .val (.int (2 : Int32)), .val (.int (3 : Int32)), .val (.ref o1), .val (.int (2 : Int32)), .val (.int (2 : Int32)), .val (.int y4), .val (.int (10 : Int32)), .val (.int (own_max b12 b21))] [(.int (5 : Int32)), (.ref o1), (.int (own_max b12 b21))])) rfl rfl (hb hby d5_87)) ?_
              refine Go.on (g' := (mkF m 90 _ [(.int y4), (.int b11), (.int (own_max b12 b21))])) (fun t_ k_ => XS.iload X14.here hx rfl (hb hby d5_88) rfl k_) ?_
              refine Go.on (g' := (mkF m 91 _ [(.int (b11 + y4)), (.int (own_max b12 b21))])) (fun t_ k_ => XS.iadd X14.here hx rfl (hb hby d5_90) rfl k_) ?_
              refine Go.callS X14 hx hZ hby (by rw [hml]; rfl) (y := (⟨"java/lang/Math", "max", "(II)I"⟩ : MethodName)) hown (hw _ (List.mem_of_getElem? (i := 19) rfl)) (hw _ (List.mem_of_getElem? (i := 9) rfl)) (hw _ (List.mem_of_getElem? (i := 10) rfl)) (hw _ (List.mem_of_getElem? (i := 11) rfl)) (by decide) (argsL := [(.int (own_max b12 b21)), (.int (b11 + y4))]) (rest := []) (rmM l Z w0 hw [] (own_max b12 b21) (b11 + y4) h13) e14 0 (by decide) (by decide) (by decide) (by decide) rfl pdM rfl (Nat.le_of_eq rfl) d5_91 (pcF := 94) rfl ?_
              intro v23 T23 L23 X23 hQ23
              obtain ⟨rfl, rfl, e23⟩ := hQ23
              rw [List.append_nil] at X23
              show Go p e below _ _ (mkF m 94 _ [(.int (own_max (own_max b12 b21) (b11 + y4)))])
              refine Go.on (g' := (mkF m 96 #[.val (.ref aw), .val (.int (2 : Int32)), .val (.int (3 : Int32)), .val (.ref o1), .val (.int (2 : Int32)), .val (.int (2 : Int32)), .val (.int y4), .val (.int (10 : Int32)), .val (.int (own_max (own_max b12 b21) (b11 + y4)))] [])) (fun t_ k_ => XS.istore X23.here hx rfl (hb hby d5_94) rfl (l' := #[.val (.ref aw), .val (.int (2 : Int32)), .val (.int (3 : Int32)), .val (.ref o1), .val (.int (2 : Int32)), .val (.int (2 : Int32)), .val (.int y4), .val (.int (10 : Int32)), .val (.int (own_max (own_max b12 b21) (b11 + y4)))]) rfl k_) ?_
              exact J T23 (own_max (own_max b12 b21) (b11 + y4)) X23 e23 (by rw [own_cell, if_pos q2])
        · show Go p e below _ _ (mkF m 73 _ [])
          refine Go.on (g' := (mkF m 75 _ [(.int y3)])) (fun t_ k_ => XS.iload X11.here hx rfl (hb hby d5_73) rfl k_) ?_
          refine Go.ifc X11 hx hby d5_75 (pcT := 96) (pcF := 78) (by decide) (by decide) rfl (fun q => ?_) (fun q => ?_)
          · have q3 := iLe.1 q
            clear q
            show Go p e below _ _ (mkF m 96 _ [])
            exact J T11 (own_max b11 (0 : Int32)) X11 e11 (by rw [own_cell, if_neg q3])
          · have q3 := iLe.2 q
            clear q
            show Go p e below _ _ (mkF m 78 _ [])
            refine Go.on (g' := (mkF m 80 _ [(.int (own_max b11 (0 : Int32)))])) (fun t_ k_ => XS.iload X11.here hx rfl (hb hby d5_78) rfl k_) ?_
            refine Go.on (g' := (mkF m 81 _ [(.ref o1), (.int (own_max b11 (0 : Int32)))])) (fun t_ k_ => XS.aloadN X11.here hx rfl (hb hby d5_80) rfl rfl k_) ?_
            refine Go.on (g' := (mkF m 83 _ [(.int (9 : Int32)), (.ref o1), (.int (own_max b11 (0 : Int32)))])) (fun t_ k_ => XS.iload X11.here hx rfl (hb hby d5_81) rfl k_) ?_
            refine Go.on (g' := (mkF m 84 _ [(.int (3 : Int32)), (.int (9 : Int32)), (.ref o1), (.int (own_max b11 (0 : Int32)))])) (fun t_ k_ => XS.iloadN X11.here hx rfl (hb hby d5_83) rfl k_) ?_
            refine Go.on (g' := (mkF m 85 _ [(.int ((9 : Int32) - (3 : Int32))), (.ref o1), (.int (own_max b11 (0 : Int32)))])) (fun t_ k_ => XS.isub X11.here hx rfl (hb hby d5_84) rfl k_) ?_
            rw [show ((9 : Int32) - (3 : Int32)) = (6 : Int32) from by decide]
            refine Go.on (g' := (mkF m 86 _ [(.int (2 : Int32)), (.int (6 : Int32)), (.ref o1), (.int (own_max b11 (0 : Int32)))])) (fun t_ k_ => XS.iconst X11.here hx rfl (hb hby d5_85) k_) ?_
            refine Go.on (g' := (mkF m 87 _ [(.int ((6 : Int32) - (2 : Int32))), (.ref o1), (.int (own_max b11 (0 : Int32)))])) (fun t_ k_ => XS.isub X11.here hx rfl (hb hby d5_86) rfl k_) ?_
            rw [show ((6 : Int32) - (2 : Int32)) = (4 : Int32) from by decide]
            refine Go.on (g' := (mkF m 88 _ [(.int (0 : Int32)), (.int (own_max b11 (0 : Int32)))])) (X11.iaload hx (j := (4 : Int32)) (v := (.int (0 : Int32))) (by rw [e11]; exact A10.1) (State.isArrayOf_alike hZ.alike A10.2.1) A10.2.2 (by simp only [sz_set, sz_new]; decide) rfl (g := (mkF m 87 #[.val (.ref aw), .val (.int (2 : Int32)), .val (.int (3 : Int32)), .val (.ref o1), .val (.int (2 : Int32)), .val (.int (1 : Int32)), .val (.int y3), .val (.int (9 : Int32)), .val (.int (own_max b11 (0 : Int32)))] [(.int (4 : Int32)), (.ref o1), (.int (own_max b11 (0 : Int32)))])) rfl rfl (hb hby d5_87)) ?_
            refine Go.on (g' := (mkF m 90 _ [(.int y3), (.int (0 : Int32)), (.int (own_max b11 (0 : Int32)))])) (fun t_ k_ => XS.iload X11.here hx rfl (hb hby d5_88) rfl k_) ?_
            refine Go.on (g' := (mkF m 91 _ [(.int ((0 : Int32) + y3)), (.int (own_max b11 (0 : Int32)))])) (fun t_ k_ => XS.iadd X11.here hx rfl (hb hby d5_90) rfl k_) ?_
            refine Go.callS X11 hx hZ hby (by rw [hml]; rfl) (y := (⟨"java/lang/Math", "max", "(II)I"⟩ : MethodName)) hown (hw _ (List.mem_of_getElem? (i := 19) rfl)) (hw _ (List.mem_of_getElem? (i := 9) rfl)) (hw _ (List.mem_of_getElem? (i := 10) rfl)) (hw _ (List.mem_of_getElem? (i := 11) rfl)) (by decide) (argsL := [(.int (own_max b11 (0 : Int32))), (.int ((0 : Int32) + y3))]) (rest := []) (rmM l Z w0 hw [] (own_max b11 (0 : Int32)) ((0 : Int32) + y3) h10) e11 0 (by decide) (by decide) (by decide) (by decide) rfl pdM rfl (Nat.le_of_eq rfl) d5_91 (pcF := 94) rfl ?_
            intro v24 T24 L24 X24 hQ24
            obtain ⟨rfl, rfl, e24⟩ := hQ24
            rw [List.append_nil] at X24
            show Go p e below _ _ (mkF m 94 _ [(.int (own_max (own_max b11 (0 : Int32)) ((0 : Int32) + y3)))])
            refine Go.on (g' := (mkF m 96 #[.val (.ref aw), .val (.int (2 : Int32)), .val (.int (3 : Int32)), .val (.ref o1), .val (.int (2 : Int32)), .val (.int (1 : Int32)), .val (.int y3), .val (.int (9 : Int32)), .val (.int (own_max (own_max b11 (0 : Int32)) ((0 : Int32) + y3)))] [])) (fun t_ k_ => XS.istore X24.here hx rfl (hb hby d5_94) rfl (l' := #[.val (.ref aw), .val (.int (2 : Int32)), .val (.int (3 : Int32)), .val (.ref o1), .val (.int (2 : Int32)), .val (.int (1 : Int32)), .val (.int y3), .val (.int (9 : Int32)), .val (.int (own_max (own_max b11 (0 : Int32)) ((0 : Int32) + y3)))]) rfl k_) ?_
            exact J T24 (own_max (own_max b11 (0 : Int32)) ((0 : Int32) + y3)) X24 e24 (by rw [own_cell, if_pos q3])
      · show Go p e below _ _ (mkF m 73 _ [])
        refine Go.on (g' := (mkF m 75 _ [(.int y2)])) (fun t_ k_ => XS.iload X8.here hx rfl (hb hby d5_73) rfl k_) ?_
        refine Go.ifc X8 hx hby d5_75 (pcT := 96) (pcF := 78) (by decide) (by decide) rfl (fun q => ?_) (fun q => ?_)
        · have q4 := iLe.1 q
          clear q
          show Go p e below _ _ (mkF m 96 _ [])
          exact J T8 (own_max (0 : Int32) b12) X8 e8 (by rw [own_cell, if_neg q4])
        · have q4 := iLe.2 q
          clear q
          show Go p e below _ _ (mkF m 78 _ [])
          refine Go.on (g' := (mkF m 80 _ [(.int (own_max (0 : Int32) b12))])) (fun t_ k_ => XS.iload X8.here hx rfl (hb hby d5_78) rfl k_) ?_
          refine Go.on (g' := (mkF m 81 _ [(.ref o1), (.int (own_max (0 : Int32) b12))])) (fun t_ k_ => XS.aloadN X8.here hx rfl (hb hby d5_80) rfl rfl k_) ?_
          refine Go.on (g' := (mkF m 83 _ [(.int (7 : Int32)), (.ref o1), (.int (own_max (0 : Int32) b12))])) (fun t_ k_ => XS.iload X8.here hx rfl (hb hby d5_81) rfl k_) ?_
          refine Go.on (g' := (mkF m 84 _ [(.int (3 : Int32)), (.int (7 : Int32)), (.ref o1), (.int (own_max (0 : Int32) b12))])) (fun t_ k_ => XS.iloadN X8.here hx rfl (hb hby d5_83) rfl k_) ?_
          refine Go.on (g' := (mkF m 85 _ [(.int ((7 : Int32) - (3 : Int32))), (.ref o1), (.int (own_max (0 : Int32) b12))])) (fun t_ k_ => XS.isub X8.here hx rfl (hb hby d5_84) rfl k_) ?_
          rw [show ((7 : Int32) - (3 : Int32)) = (4 : Int32) from by decide]
          refine Go.on (g' := (mkF m 86 _ [(.int (2 : Int32)), (.int (4 : Int32)), (.ref o1), (.int (own_max (0 : Int32) b12))])) (fun t_ k_ => XS.iconst X8.here hx rfl (hb hby d5_85) k_) ?_
          refine Go.on (g' := (mkF m 87 _ [(.int ((4 : Int32) - (2 : Int32))), (.ref o1), (.int (own_max (0 : Int32) b12))])) (fun t_ k_ => XS.isub X8.here hx rfl (hb hby d5_86) rfl k_) ?_
          rw [show ((4 : Int32) - (2 : Int32)) = (2 : Int32) from by decide]
          refine Go.on (g' := (mkF m 88 _ [(.int (0 : Int32)), (.int (own_max (0 : Int32) b12))])) (X8.iaload hx (j := (2 : Int32)) (v := (.int (0 : Int32))) (by rw [e8]; exact A7.1) (State.isArrayOf_alike hZ.alike A7.2.1) A7.2.2 (by simp only [sz_set, sz_new]; decide) rfl (g := (mkF m 87 #[.val (.ref aw), .val (.int (2 : Int32)), .val (.int (3 : Int32)), .val (.ref o1), .val (.int (1 : Int32)), .val (.int (3 : Int32)), .val (.int y2), .val (.int (7 : Int32)), .val (.int (own_max (0 : Int32) b12))] [(.int (2 : Int32)), (.ref o1), (.int (own_max (0 : Int32) b12))])) rfl rfl (hb hby d5_87)) ?_
          refine Go.on (g' := (mkF m 90 _ [(.int y2), (.int (0 : Int32)), (.int (own_max (0 : Int32) b12))])) (fun t_ k_ => XS.iload X8.here hx rfl (hb hby d5_88) rfl k_) ?_
          refine Go.on (g' := (mkF m 91 _ [(.int ((0 : Int32) + y2)), (.int (own_max (0 : Int32) b12))])) (fun t_ k_ => XS.iadd X8.here hx rfl (hb hby d5_90) rfl k_) ?_
          refine Go.callS X8 hx hZ hby (by rw [hml]; rfl) (y := (⟨"java/lang/Math", "max", "(II)I"⟩ : MethodName)) hown (hw _ (List.mem_of_getElem? (i := 19) rfl)) (hw _ (List.mem_of_getElem? (i := 9) rfl)) (hw _ (List.mem_of_getElem? (i := 10) rfl)) (hw _ (List.mem_of_getElem? (i := 11) rfl)) (by decide) (argsL := [(.int (own_max (0 : Int32) b12)), (.int ((0 : Int32) + y2))]) (rest := []) (rmM l Z w0 hw [] (own_max (0 : Int32) b12) ((0 : Int32) + y2) h7) e8 0 (by decide) (by decide) (by decide) (by decide) rfl pdM rfl (Nat.le_of_eq rfl) d5_91 (pcF := 94) rfl ?_
          intro v25 T25 L25 X25 hQ25
          obtain ⟨rfl, rfl, e25⟩ := hQ25
          rw [List.append_nil] at X25
          show Go p e below _ _ (mkF m 94 _ [(.int (own_max (own_max (0 : Int32) b12) ((0 : Int32) + y2)))])
          refine Go.on (g' := (mkF m 96 #[.val (.ref aw), .val (.int (2 : Int32)), .val (.int (3 : Int32)), .val (.ref o1), .val (.int (1 : Int32)), .val (.int (3 : Int32)), .val (.int y2), .val (.int (7 : Int32)), .val (.int (own_max (own_max (0 : Int32) b12) ((0 : Int32) + y2)))] [])) (fun t_ k_ => XS.istore X25.here hx rfl (hb hby d5_94) rfl (l' := #[.val (.ref aw), .val (.int (2 : Int32)), .val (.int (3 : Int32)), .val (.ref o1), .val (.int (1 : Int32)), .val (.int (3 : Int32)), .val (.int y2), .val (.int (7 : Int32)), .val (.int (own_max (own_max (0 : Int32) b12) ((0 : Int32) + y2)))]) rfl k_) ?_
          exact J T25 (own_max (own_max (0 : Int32) b12) ((0 : Int32) + y2)) X25 e25 (by rw [own_cell, if_pos q4])
    · show Go p e below _ _ (mkF m 73 _ [])
      refine Go.on (g' := (mkF m 75 _ [(.int y1)])) (fun t_ k_ => XS.iload X5.here hx rfl (hb hby d5_73) rfl k_) ?_
      refine Go.ifc X5 hx hby d5_75 (pcT := 96) (pcF := 78) (by decide) (by decide) rfl (fun q => ?_) (fun q => ?_)
      · have q5 := iLe.1 q
        clear q
        show Go p e below _ _ (mkF m 96 _ [])
        exact J T5 (own_max (0 : Int32) b11) X5 e5 (by rw [own_cell, if_neg q5])
      · have q5 := iLe.2 q
        clear q
        show Go p e below _ _ (mkF m 78 _ [])
        refine Go.on (g' := (mkF m 80 _ [(.int (own_max (0 : Int32) b11))])) (fun t_ k_ => XS.iload X5.here hx rfl (hb hby d5_78) rfl k_) ?_
        refine Go.on (g' := (mkF m 81 _ [(.ref o1), (.int (own_max (0 : Int32) b11))])) (fun t_ k_ => XS.aloadN X5.here hx rfl (hb hby d5_80) rfl rfl k_) ?_
        refine Go.on (g' := (mkF m 83 _ [(.int (6 : Int32)), (.ref o1), (.int (own_max (0 : Int32) b11))])) (fun t_ k_ => XS.iload X5.here hx rfl (hb hby d5_81) rfl k_) ?_
        refine Go.on (g' := (mkF m 84 _ [(.int (3 : Int32)), (.int (6 : Int32)), (.ref o1), (.int (own_max (0 : Int32) b11))])) (fun t_ k_ => XS.iloadN X5.here hx rfl (hb hby d5_83) rfl k_) ?_
        refine Go.on (g' := (mkF m 85 _ [(.int ((6 : Int32) - (3 : Int32))), (.ref o1), (.int (own_max (0 : Int32) b11))])) (fun t_ k_ => XS.isub X5.here hx rfl (hb hby d5_84) rfl k_) ?_
        rw [show ((6 : Int32) - (3 : Int32)) = (3 : Int32) from by decide]
        refine Go.on (g' := (mkF m 86 _ [(.int (2 : Int32)), (.int (3 : Int32)), (.ref o1), (.int (own_max (0 : Int32) b11))])) (fun t_ k_ => XS.iconst X5.here hx rfl (hb hby d5_85) k_) ?_
        refine Go.on (g' := (mkF m 87 _ [(.int ((3 : Int32) - (2 : Int32))), (.ref o1), (.int (own_max (0 : Int32) b11))])) (fun t_ k_ => XS.isub X5.here hx rfl (hb hby d5_86) rfl k_) ?_
        rw [show ((3 : Int32) - (2 : Int32)) = (1 : Int32) from by decide]
        refine Go.on (g' := (mkF m 88 _ [(.int (0 : Int32)), (.int (own_max (0 : Int32) b11))])) (X5.iaload hx (j := (1 : Int32)) (v := (.int (0 : Int32))) (by rw [e5]; exact A4.1) (State.isArrayOf_alike hZ.alike A4.2.1) A4.2.2 (by simp only [sz_set, sz_new]; decide) rfl (g := (mkF m 87 #[.val (.ref aw), .val (.int (2 : Int32)), .val (.int (3 : Int32)), .val (.ref o1), .val (.int (1 : Int32)), .val (.int (2 : Int32)), .val (.int y1), .val (.int (6 : Int32)), .val (.int (own_max (0 : Int32) b11))] [(.int (1 : Int32)), (.ref o1), (.int (own_max (0 : Int32) b11))])) rfl rfl (hb hby d5_87)) ?_
        refine Go.on (g' := (mkF m 90 _ [(.int y1), (.int (0 : Int32)), (.int (own_max (0 : Int32) b11))])) (fun t_ k_ => XS.iload X5.here hx rfl (hb hby d5_88) rfl k_) ?_
        refine Go.on (g' := (mkF m 91 _ [(.int ((0 : Int32) + y1)), (.int (own_max (0 : Int32) b11))])) (fun t_ k_ => XS.iadd X5.here hx rfl (hb hby d5_90) rfl k_) ?_
        refine Go.callS X5 hx hZ hby (by rw [hml]; rfl) (y := (⟨"java/lang/Math", "max", "(II)I"⟩ : MethodName)) hown (hw _ (List.mem_of_getElem? (i := 19) rfl)) (hw _ (List.mem_of_getElem? (i := 9) rfl)) (hw _ (List.mem_of_getElem? (i := 10) rfl)) (hw _ (List.mem_of_getElem? (i := 11) rfl)) (by decide) (argsL := [(.int (own_max (0 : Int32) b11)), (.int ((0 : Int32) + y1))]) (rest := []) (rmM l Z w0 hw [] (own_max (0 : Int32) b11) ((0 : Int32) + y1) h4) e5 0 (by decide) (by decide) (by decide) (by decide) rfl pdM rfl (Nat.le_of_eq rfl) d5_91 (pcF := 94) rfl ?_
        intro v26 T26 L26 X26 hQ26
        obtain ⟨rfl, rfl, e26⟩ := hQ26
        rw [List.append_nil] at X26
        show Go p e below _ _ (mkF m 94 _ [(.int (own_max (own_max (0 : Int32) b11) ((0 : Int32) + y1)))])
        refine Go.on (g' := (mkF m 96 #[.val (.ref aw), .val (.int (2 : Int32)), .val (.int (3 : Int32)), .val (.ref o1), .val (.int (1 : Int32)), .val (.int (2 : Int32)), .val (.int y1), .val (.int (6 : Int32)), .val (.int (own_max (own_max (0 : Int32) b11) ((0 : Int32) + y1)))] [])) (fun t_ k_ => XS.istore X26.here hx rfl (hb hby d5_94) rfl (l' := #[.val (.ref aw), .val (.int (2 : Int32)), .val (.int (3 : Int32)), .val (.ref o1), .val (.int (1 : Int32)), .val (.int (2 : Int32)), .val (.int y1), .val (.int (6 : Int32)), .val (.int (own_max (own_max (0 : Int32) b11) ((0 : Int32) + y1)))]) rfl k_) ?_
        exact J T26 (own_max (own_max (0 : Int32) b11) ((0 : Int32) + y1)) X26 e26 (by rw [own_cell, if_pos q5])
  · show Go p e below _ _ (mkF m 73 _ [])
    refine Go.on (g' := (mkF m 75 _ [(.int y0)])) (fun t_ k_ => XS.iload X2.here hx rfl (hb hby d5_73) rfl k_) ?_
    refine Go.ifc X2 hx hby d5_75 (pcT := 96) (pcF := 78) (by decide) (by decide) rfl (fun q => ?_) (fun q => ?_)
    · have q6 := iLe.1 q
      clear q
      show Go p e below _ _ (mkF m 96 _ [])
      exact J T2 (own_max (0 : Int32) (0 : Int32)) X2 e2 (by rw [own_cell, if_neg q6])
    · have q6 := iLe.2 q
      clear q
      show Go p e below _ _ (mkF m 78 _ [])
      refine Go.on (g' := (mkF m 80 _ [(.int (own_max (0 : Int32) (0 : Int32)))])) (fun t_ k_ => XS.iload X2.here hx rfl (hb hby d5_78) rfl k_) ?_
      refine Go.on (g' := (mkF m 81 _ [(.ref o1), (.int (own_max (0 : Int32) (0 : Int32)))])) (fun t_ k_ => XS.aloadN X2.here hx rfl (hb hby d5_80) rfl rfl k_) ?_
      refine Go.on (g' := (mkF m 83 _ [(.int (5 : Int32)), (.ref o1), (.int (own_max (0 : Int32) (0 : Int32)))])) (fun t_ k_ => XS.iload X2.here hx rfl (hb hby d5_81) rfl k_) ?_
      refine Go.on (g' := (mkF m 84 _ [(.int (3 : Int32)), (.int (5 : Int32)), (.ref o1), (.int (own_max (0 : Int32) (0 : Int32)))])) (fun t_ k_ => XS.iloadN X2.here hx rfl (hb hby d5_83) rfl k_) ?_
      refine Go.on (g' := (mkF m 85 _ [(.int ((5 : Int32) - (3 : Int32))), (.ref o1), (.int (own_max (0 : Int32) (0 : Int32)))])) (fun t_ k_ => XS.isub X2.here hx rfl (hb hby d5_84) rfl k_) ?_
      rw [show ((5 : Int32) - (3 : Int32)) = (2 : Int32) from by decide]
      refine Go.on (g' := (mkF m 86 _ [(.int (2 : Int32)), (.int (2 : Int32)), (.ref o1), (.int (own_max (0 : Int32) (0 : Int32)))])) (fun t_ k_ => XS.iconst X2.here hx rfl (hb hby d5_85) k_) ?_
      refine Go.on (g' := (mkF m 87 _ [(.int ((2 : Int32) - (2 : Int32))), (.ref o1), (.int (own_max (0 : Int32) (0 : Int32)))])) (fun t_ k_ => XS.isub X2.here hx rfl (hb hby d5_86) rfl k_) ?_
      rw [show ((2 : Int32) - (2 : Int32)) = (0 : Int32) from by decide]
      refine Go.on (g' := (mkF m 88 _ [(.int (0 : Int32)), (.int (own_max (0 : Int32) (0 : Int32)))])) (X2.iaload hx (j := (0 : Int32)) (v := (.int (0 : Int32))) (by rw [e2]; exact A1.1) (State.isArrayOf_alike hZ.alike A1.2.1) A1.2.2 (by simp only [sz_set, sz_new]; decide) rfl (g := (mkF m 87 #[.val (.ref aw), .val (.int (2 : Int32)), .val (.int (3 : Int32)), .val (.ref o1), .val (.int (1 : Int32)), .val (.int (1 : Int32)), .val (.int y0), .val (.int (5 : Int32)), .val (.int (own_max (0 : Int32) (0 : Int32)))] [(.int (0 : Int32)), (.ref o1), (.int (own_max (0 : Int32) (0 : Int32)))])) rfl rfl (hb hby d5_87)) ?_
      refine Go.on (g' := (mkF m 90 _ [(.int y0), (.int (0 : Int32)), (.int (own_max (0 : Int32) (0 : Int32)))])) (fun t_ k_ => XS.iload X2.here hx rfl (hb hby d5_88) rfl k_) ?_
      refine Go.on (g' := (mkF m 91 _ [(.int ((0 : Int32) + y0)), (.int (own_max (0 : Int32) (0 : Int32)))])) (fun t_ k_ => XS.iadd X2.here hx rfl (hb hby d5_90) rfl k_) ?_
      refine Go.callS X2 hx hZ hby (by rw [hml]; rfl) (y := (⟨"java/lang/Math", "max", "(II)I"⟩ : MethodName)) hown (hw _ (List.mem_of_getElem? (i := 19) rfl)) (hw _ (List.mem_of_getElem? (i := 9) rfl)) (hw _ (List.mem_of_getElem? (i := 10) rfl)) (hw _ (List.mem_of_getElem? (i := 11) rfl)) (by decide) (argsL := [(.int (own_max (0 : Int32) (0 : Int32))), (.int ((0 : Int32) + y0))]) (rest := []) (rmM l Z w0 hw [] (own_max (0 : Int32) (0 : Int32)) ((0 : Int32) + y0) h1) e2 0 (by decide) (by decide) (by decide) (by decide) rfl pdM rfl (Nat.le_of_eq rfl) d5_91 (pcF := 94) rfl ?_
      intro v27 T27 L27 X27 hQ27
      obtain ⟨rfl, rfl, e27⟩ := hQ27
      rw [List.append_nil] at X27
      show Go p e below _ _ (mkF m 94 _ [(.int (own_max (own_max (0 : Int32) (0 : Int32)) ((0 : Int32) + y0)))])
      refine Go.on (g' := (mkF m 96 #[.val (.ref aw), .val (.int (2 : Int32)), .val (.int (3 : Int32)), .val (.ref o1), .val (.int (1 : Int32)), .val (.int (1 : Int32)), .val (.int y0), .val (.int (5 : Int32)), .val (.int (own_max (own_max (0 : Int32) (0 : Int32)) ((0 : Int32) + y0)))] [])) (fun t_ k_ => XS.istore X27.here hx rfl (hb hby d5_94) rfl (l' := #[.val (.ref aw), .val (.int (2 : Int32)), .val (.int (3 : Int32)), .val (.ref o1), .val (.int (1 : Int32)), .val (.int (1 : Int32)), .val (.int y0), .val (.int (5 : Int32)), .val (.int (own_max (own_max (0 : Int32) (0 : Int32)) ((0 : Int32) + y0)))]) rfl k_) ?_
      exact J T27 (own_max (own_max (0 : Int32) (0 : Int32)) ((0 : Int32) + y0)) X27 e27 (by rw [own_cell, if_pos q6])
def own_W13 (c : Cell) (y0 y1 y2 : Int32) : Prop := c.slots.size = 3 ∧ c.slots[(0 : Int32).toNatClampNeg]? = some (.int y0) ∧ c.slots[(1 : Int32).toNatClampNeg]? = some (.int y1) ∧ c.slots[(2 : Int32).toNatClampNeg]? = some (.int y2)
def own_B13 (c : Cell) (b11 b12 b13 : Int32) : Prop := c.slots.size = 8 ∧ c.slots[(0 : Int32).toNatClampNeg]? = some (.int (0 : Int32)) ∧ c.slots[(1 : Int32).toNatClampNeg]? = some (.int (0 : Int32)) ∧ c.slots[(2 : Int32).toNatClampNeg]? = some (.int (0 : Int32)) ∧ c.slots[(3 : Int32).toNatClampNeg]? = some (.int (0 : Int32)) ∧ c.slots[(4 : Int32).toNatClampNeg]? = some (.int (0 : Int32)) ∧ c.slots[(5 : Int32).toNatClampNeg]? = some (.int b11) ∧ c.slots[(6 : Int32).toNatClampNeg]? = some (.int b12) ∧ c.slots[(7 : Int32).toNatClampNeg]? = some (.int b13)
set_option maxRecDepth 65536 in
set_option maxHeartbeats 40000000 in
theorem nd13_1_1 (l : Launch) (Z : State) (w0 : Array Value) (hw : ∀ d ∈ tables_1, d.before w0 Z = true) (ws : List Jvm.Cond) (aw ab ar : Addr) (p : Program) (e : Env) (s : State) (m : MethodId) (below : List Frame) (meth : Method) (c : Code) (h0 : Heap) (n0 : Nat) (T0 : State) (locs : List Loc) (X0 : Stand p l e ({ frames := 1, cells := 2, slots := 9, locals := 15 } : Room) s m #[.ref aw, .int (1 : Int32), .int (3 : Int32)] below meth c T0 locs 2 9) (hx : p.tables.exec = Jvm.exec) (hby : c.code = prog_7_method_2_code) (hml : c.maxLocals = 9) (hret : meth.sig.returnType = (some (.array .int))) (hlk : meth.locks = false) (hZ : Z.Warmed39 s.vm) (hh : Heap) (e0 : T0.heap = hh) (Z0 : n0 ≤ hh.size) (N0 : Fr n0 locs) (EX0 : Ext h0 hh) (nar : n0 ≤ ar) (mar : h0.size ≤ ar) (nwr : aw ≠ ar) (nbr : ab ≠ ar) (cw : Cell) (AW : Arr Z hh aw cw .int) (y0 y1 y2 : Int32) (HW : own_W13 cw y0 y1 y2) (cb : Cell) (AB : Arr Z hh ab cb .int) (b11 b12 b13 : Int32) (HB : own_B13 cb b11 b12 b13) (cr : Cell) (AR : Arr Z hh ar cr .int) (SZ : cr.slots.size = 1)  (H0 : cr.slots[(0 : Int32).toNatClampNeg]? = some (.int ((-1) : Int32))) (x7 x8 : Slot) (O7 : One x7) (O8 : One x8) : Go p e below (EndK s (own_Q1 Z (own_r11 y0 b11) h0 n0) 2 9) T0 (mkF m 131 #[.val (.ref aw), .val (.int (1 : Int32)), .val (.int (3 : Int32)), .val (.ref ab), .val (.ref ar), .val (.int (1 : Int32)), .val (.int (1 : Int32)), x7, x8] []) := by
  refine Go.on (g' := (mkF m 133 _ [(.int (1 : Int32))])) (fun t_ k_ => XS.iload X0.here hx rfl (hb hby d5_131) rfl k_) ?_
  refine Go.ifc X0 hx hby d5_133 (pcT := 237) (pcF := 136) (by decide) (by decide) rfl (fun q => absurd q (by decide)) (fun q => ?_)
  clear q
  show Go p e below _ _ (mkF m 136 _ [])
  refine Go.on (g' := (mkF m 138 _ [(.int (1 : Int32))])) (fun t_ k_ => XS.iload X0.here hx rfl (hb hby d5_136) rfl k_) ?_
  refine Go.ifc X0 hx hby d5_138 (pcT := 237) (pcF := 141) (by decide) (by decide) rfl (fun q => absurd q (by decide)) (fun q => ?_)
  clear q
  show Go p e below _ _ (mkF m 141 _ [])
  refine Go.on (g' := (mkF m 143 _ [(.int (1 : Int32))])) (fun t_ k_ => XS.iload X0.here hx rfl (hb hby d5_141) rfl k_) ?_
  refine Go.on (g' := (mkF m 144 _ [(.int (3 : Int32)), (.int (1 : Int32))])) (fun t_ k_ => XS.iloadN X0.here hx rfl (hb hby d5_143) rfl k_) ?_
  refine Go.on (g' := (mkF m 145 _ [(.int (1 : Int32)), (.int (3 : Int32)), (.int (1 : Int32))])) (fun t_ k_ => XS.iconst X0.here hx rfl (hb hby d5_144) k_) ?_
  refine Go.on (g' := (mkF m 146 _ [(.int ((3 : Int32) + (1 : Int32))), (.int (1 : Int32))])) (fun t_ k_ => XS.iadd X0.here hx rfl (hb hby d5_145) rfl k_) ?_
  rw [show ((3 : Int32) + (1 : Int32)) = (4 : Int32) from by decide]
  refine Go.on (g' := (mkF m 147 _ [(.int ((1 : Int32) * (4 : Int32)))])) (fun t_ k_ => XS.imul X0.here hx rfl (hb hby d5_146) rfl k_) ?_
  rw [show ((1 : Int32) * (4 : Int32)) = (4 : Int32) from by decide]
  refine Go.on (g' := (mkF m 149 _ [(.int (1 : Int32)), (.int (4 : Int32))])) (fun t_ k_ => XS.iload X0.here hx rfl (hb hby d5_147) rfl k_) ?_
  refine Go.on (g' := (mkF m 150 _ [(.int ((4 : Int32) + (1 : Int32)))])) (fun t_ k_ => XS.iadd X0.here hx rfl (hb hby d5_149) rfl k_) ?_
  rw [show ((4 : Int32) + (1 : Int32)) = (5 : Int32) from by decide]
  refine Go.on (g' := (mkF m 152 #[.val (.ref aw), .val (.int (1 : Int32)), .val (.int (3 : Int32)), .val (.ref ab), .val (.ref ar), .val (.int (1 : Int32)), .val (.int (1 : Int32)), .val (.int (5 : Int32)), x8] [])) (fun t_ k_ => XS.istore X0.here hx rfl (hb hby d5_150) rfl (l' := #[.val (.ref aw), .val (.int (1 : Int32)), .val (.int (3 : Int32)), .val (.ref ab), .val (.ref ar), .val (.int (1 : Int32)), .val (.int (1 : Int32)), .val (.int (5 : Int32)), x8]) (XS.store1 (o := x7) rfl O7 rfl) k_) ?_
  refine Go.on (g' := (mkF m 153 _ [(.ref aw)])) (fun t_ k_ => XS.aloadN X0.here hx rfl (hb hby d5_152) rfl rfl k_) ?_
  refine Go.on (g' := (mkF m 155 _ [(.int (1 : Int32)), (.ref aw)])) (fun t_ k_ => XS.iload X0.here hx rfl (hb hby d5_153) rfl k_) ?_
  refine Go.on (g' := (mkF m 156 _ [(.int (1 : Int32)), (.int (1 : Int32)), (.ref aw)])) (fun t_ k_ => XS.iconst X0.here hx rfl (hb hby d5_155) k_) ?_
  refine Go.on (g' := (mkF m 157 _ [(.int ((1 : Int32) - (1 : Int32))), (.ref aw)])) (fun t_ k_ => XS.isub X0.here hx rfl (hb hby d5_156) rfl k_) ?_
  rw [show ((1 : Int32) - (1 : Int32)) = (0 : Int32) from by decide]
  refine Go.on (g' := (mkF m 158 _ [(.int (3 : Int32)), (.int (0 : Int32)), (.ref aw)])) (fun t_ k_ => XS.iloadN X0.here hx rfl (hb hby d5_157) rfl k_) ?_
  refine Go.on (g' := (mkF m 159 _ [(.int ((0 : Int32) * (3 : Int32))), (.ref aw)])) (fun t_ k_ => XS.imul X0.here hx rfl (hb hby d5_158) rfl k_) ?_
  rw [show ((0 : Int32) * (3 : Int32)) = (0 : Int32) from by decide]
  refine Go.on (g' := (mkF m 161 _ [(.int (1 : Int32)), (.int (0 : Int32)), (.ref aw)])) (fun t_ k_ => XS.iload X0.here hx rfl (hb hby d5_159) rfl k_) ?_
  refine Go.on (g' := (mkF m 162 _ [(.int ((0 : Int32) + (1 : Int32))), (.ref aw)])) (fun t_ k_ => XS.iadd X0.here hx rfl (hb hby d5_161) rfl k_) ?_
  rw [show ((0 : Int32) + (1 : Int32)) = (1 : Int32) from by decide]
  refine Go.on (g' := (mkF m 163 _ [(.int (1 : Int32)), (.int (1 : Int32)), (.ref aw)])) (fun t_ k_ => XS.iconst X0.here hx rfl (hb hby d5_162) k_) ?_
  refine Go.on (g' := (mkF m 164 _ [(.int ((1 : Int32) - (1 : Int32))), (.ref aw)])) (fun t_ k_ => XS.isub X0.here hx rfl (hb hby d5_163) rfl k_) ?_
  rw [show ((1 : Int32) - (1 : Int32)) = (0 : Int32) from by decide]
  refine Go.on (g' := (mkF m 165 _ [(.int y0)])) (X0.iaload hx (j := (0 : Int32)) (v := (.int y0)) (by rw [e0]; exact AW.1) (State.isArrayOf_alike hZ.alike AW.2.1) AW.2.2 (by rw [HW.1]; decide) HW.2.1 (g := (mkF m 164 #[.val (.ref aw), .val (.int (1 : Int32)), .val (.int (3 : Int32)), .val (.ref ab), .val (.ref ar), .val (.int (1 : Int32)), .val (.int (1 : Int32)), .val (.int (5 : Int32)), x8] [(.int (0 : Int32)), (.ref aw)])) rfl rfl (hb hby d5_164)) ?_
  refine Go.on (g' := (mkF m 167 #[.val (.ref aw), .val (.int (1 : Int32)), .val (.int (3 : Int32)), .val (.ref ab), .val (.ref ar), .val (.int (1 : Int32)), .val (.int (1 : Int32)), .val (.int (5 : Int32)), .val (.int y0)] [])) (fun t_ k_ => XS.istore X0.here hx rfl (hb hby d5_165) rfl (l' := #[.val (.ref aw), .val (.int (1 : Int32)), .val (.int (3 : Int32)), .val (.ref ab), .val (.ref ar), .val (.int (1 : Int32)), .val (.int (1 : Int32)), .val (.int (5 : Int32)), .val (.int y0)]) (XS.store1 (o := x8) rfl O8 rfl) k_) ?_
  refine Go.on (g' := (mkF m 169 _ [(.int y0)])) (fun t_ k_ => XS.iload X0.here hx rfl (hb hby d5_167) rfl k_) ?_
  refine Go.join (P := fun _ : Unit => ¬ (0 < y0 ∧ b11 = (0 : Int32) + y0)) (g := fun _ => (mkF m 210 #[.val (.ref aw), .val (.int (1 : Int32)), .val (.int (3 : Int32)), .val (.ref ab), .val (.ref ar), .val (.int (1 : Int32)), .val (.int (1 : Int32)), .val (.int (5 : Int32)), .val (.int y0)] [])) (fun _ hJ210 => ?_) (fun J210 => ?_)
  · show Go p e below _ _ (mkF m 210 _ [])
    refine Go.on (g' := (mkF m 211 _ [(.ref ab)])) (fun t_ k_ => XS.aloadN X0.here hx rfl (hb hby d5_210) rfl rfl k_) ?_
    refine Go.on (g' := (mkF m 213 _ [(.int (5 : Int32)), (.ref ab)])) (fun t_ k_ => XS.iload X0.here hx rfl (hb hby d5_211) rfl k_) ?_
    refine Go.on (g' := (mkF m 214 _ [(.int b11)])) (X0.iaload hx (j := (5 : Int32)) (v := (.int b11)) (by rw [e0]; exact AB.1) (State.isArrayOf_alike hZ.alike AB.2.1) AB.2.2 (by rw [HB.1]; decide) HB.2.2.2.2.2.2.1 (g := (mkF m 213 #[.val (.ref aw), .val (.int (1 : Int32)), .val (.int (3 : Int32)), .val (.ref ab), .val (.ref ar), .val (.int (1 : Int32)), .val (.int (1 : Int32)), .val (.int (5 : Int32)), .val (.int y0)] [(.int (5 : Int32)), (.ref ab)])) rfl rfl (hb hby d5_213)) ?_
    refine Go.on (g' := (mkF m 215 _ [(.ref ab), (.int b11)])) (fun t_ k_ => XS.aloadN X0.here hx rfl (hb hby d5_214) rfl rfl k_) ?_
    refine Go.on (g' := (mkF m 217 _ [(.int (5 : Int32)), (.ref ab), (.int b11)])) (fun t_ k_ => XS.iload X0.here hx rfl (hb hby d5_215) rfl k_) ?_
    refine Go.on (g' := (mkF m 218 _ [(.int (3 : Int32)), (.int (5 : Int32)), (.ref ab), (.int b11)])) (fun t_ k_ => XS.iloadN X0.here hx rfl (hb hby d5_217) rfl k_) ?_
    refine Go.on (g' := (mkF m 219 _ [(.int ((5 : Int32) - (3 : Int32))), (.ref ab), (.int b11)])) (fun t_ k_ => XS.isub X0.here hx rfl (hb hby d5_218) rfl k_) ?_
    rw [show ((5 : Int32) - (3 : Int32)) = (2 : Int32) from by decide]
    refine Go.on (g' := (mkF m 220 _ [(.int (1 : Int32)), (.int (2 : Int32)), (.ref ab), (.int b11)])) (fun t_ k_ => XS.iconst X0.here hx rfl (hb hby d5_219) k_) ?_
    refine Go.on (g' := (mkF m 221 _ [(.int ((2 : Int32) - (1 : Int32))), (.ref ab), (.int b11)])) (fun t_ k_ => XS.isub X0.here hx rfl (hb hby d5_220) rfl k_) ?_
    rw [show ((2 : Int32) - (1 : Int32)) = (1 : Int32) from by decide]
    refine Go.on (g' := (mkF m 222 _ [(.int (0 : Int32)), (.int b11)])) (X0.iaload hx (j := (1 : Int32)) (v := (.int (0 : Int32))) (by rw [e0]; exact AB.1) (State.isArrayOf_alike hZ.alike AB.2.1) AB.2.2 (by rw [HB.1]; decide) HB.2.2.1 (g := (mkF m 221 #[.val (.ref aw), .val (.int (1 : Int32)), .val (.int (3 : Int32)), .val (.ref ab), .val (.ref ar), .val (.int (1 : Int32)), .val (.int (1 : Int32)), .val (.int (5 : Int32)), .val (.int y0)] [(.int (1 : Int32)), (.ref ab), (.int b11)])) rfl rfl (hb hby d5_221)) ?_
    refine Go.icmp X0 hx hby d5_222 (pcT := 231) (pcF := 225) (by decide) (by decide) rfl (fun q => ?_) (fun q => ?_)
    · have q1 := iNe.1 q
      clear q
      show Go p e below _ _ (mkF m 231 _ [])
      refine Go.on (g' := (mkF m 234 #[.val (.ref aw), .val (.int (1 : Int32)), .val (.int (3 : Int32)), .val (.ref ab), .val (.ref ar), .val (.int (1 : Int32)), .val (.int ((1 : Int32) + ((-1) : Int32))), .val (.int (5 : Int32)), .val (.int y0)] [])) (fun t_ k_ => XS.iinc X0.here hx rfl (hb hby d5_231) rfl (l' := #[.val (.ref aw), .val (.int (1 : Int32)), .val (.int (3 : Int32)), .val (.ref ab), .val (.ref ar), .val (.int (1 : Int32)), .val (.int ((1 : Int32) + ((-1) : Int32))), .val (.int (5 : Int32)), .val (.int y0)]) rfl k_) ?_
      rw [show ((1 : Int32) + ((-1) : Int32)) = (0 : Int32) from by decide]
      refine Go.on (g' := (mkF m 131 _ [])) (fun t_ k_ => XS.goto X0.here hx rfl (pc0 := 234) (pc' := 131) rfl (hb hby d5_234) (by decide) (by decide) k_) ?_
      refine Go.on (g' := (mkF m 133 _ [(.int (1 : Int32))])) (fun t_ k_ => XS.iload X0.here hx rfl (hb hby d5_131) rfl k_) ?_
      refine Go.ifc X0 hx hby d5_133 (pcT := 237) (pcF := 136) (by decide) (by decide) rfl (fun q => absurd q (by decide)) (fun q => ?_)
      clear q
      show Go p e below _ _ (mkF m 136 _ [])
      refine Go.on (g' := (mkF m 138 _ [(.int (0 : Int32))])) (fun t_ k_ => XS.iload X0.here hx rfl (hb hby d5_136) rfl k_) ?_
      refine Go.ifc X0 hx hby d5_138 (pcT := 237) (pcF := 141) (by decide) (by decide) rfl (fun q => ?_) (fun q => absurd q (by decide))
      clear q
      show Go p e below _ _ (mkF m 237 _ [])
      refine Go.on (g' := (mkF m 239 _ [(.ref ar)])) (fun t_ k_ => XS.aload X0.here hx rfl (hb hby d5_237) rfl rfl k_) ?_
      exact Go.retA X0 hx hlk hret hby d5_239 rfl rfl (by decide) (by decide) (by rw [e0, own_r11, if_neg hJ210]; exact ⟨ar, _, rfl, N0, EX0, mar, AR, SZ, H0⟩)
    · have q1 := iNe.2 q
      clear q
      show Go p e below _ _ (mkF m 225 _ [])
      refine Go.on (g' := (mkF m 228 #[.val (.ref aw), .val (.int (1 : Int32)), .val (.int (3 : Int32)), .val (.ref ab), .val (.ref ar), .val (.int ((1 : Int32) + ((-1) : Int32))), .val (.int (1 : Int32)), .val (.int (5 : Int32)), .val (.int y0)] [])) (fun t_ k_ => XS.iinc X0.here hx rfl (hb hby d5_225) rfl (l' := #[.val (.ref aw), .val (.int (1 : Int32)), .val (.int (3 : Int32)), .val (.ref ab), .val (.ref ar), .val (.int ((1 : Int32) + ((-1) : Int32))), .val (.int (1 : Int32)), .val (.int (5 : Int32)), .val (.int y0)]) rfl k_) ?_
      rw [show ((1 : Int32) + ((-1) : Int32)) = (0 : Int32) from by decide]
      refine Go.on (g' := (mkF m 234 _ [])) (fun t_ k_ => XS.goto X0.here hx rfl (pc0 := 228) (pc' := 234) rfl (hb hby d5_228) (by decide) (by decide) k_) ?_
      refine Go.on (g' := (mkF m 131 _ [])) (fun t_ k_ => XS.goto X0.here hx rfl (pc0 := 234) (pc' := 131) rfl (hb hby d5_234) (by decide) (by decide) k_) ?_
      refine Go.on (g' := (mkF m 133 _ [(.int (0 : Int32))])) (fun t_ k_ => XS.iload X0.here hx rfl (hb hby d5_131) rfl k_) ?_
      refine Go.ifc X0 hx hby d5_133 (pcT := 237) (pcF := 136) (by decide) (by decide) rfl (fun q => ?_) (fun q => absurd q (by decide))
      clear q
      show Go p e below _ _ (mkF m 237 _ [])
      refine Go.on (g' := (mkF m 239 _ [(.ref ar)])) (fun t_ k_ => XS.aload X0.here hx rfl (hb hby d5_237) rfl rfl k_) ?_
      exact Go.retA X0 hx hlk hret hby d5_239 rfl rfl (by decide) (by decide) (by rw [e0, own_r11, if_neg hJ210]; exact ⟨ar, _, rfl, N0, EX0, mar, AR, SZ, H0⟩)
  · show Go p e below _ _ (mkF m 169 _ [(.int y0)])
    refine Go.ifc X0 hx hby d5_169 (pcT := 210) (pcF := 172) (by decide) (by decide) rfl (fun q => ?_) (fun q => ?_)
    · have q2 := iLe.1 q
      clear q
      show Go p e below _ _ (mkF m 210 _ [])
      exact J210 () (fun z => q2 z.1)
    · have q2 := iLe.2 q
      clear q
      show Go p e below _ _ (mkF m 172 _ [])
      refine Go.on (g' := (mkF m 173 _ [(.ref ab)])) (fun t_ k_ => XS.aloadN X0.here hx rfl (hb hby d5_172) rfl rfl k_) ?_
      refine Go.on (g' := (mkF m 175 _ [(.int (5 : Int32)), (.ref ab)])) (fun t_ k_ => XS.iload X0.here hx rfl (hb hby d5_173) rfl k_) ?_
      refine Go.on (g' := (mkF m 176 _ [(.int b11)])) (X0.iaload hx (j := (5 : Int32)) (v := (.int b11)) (by rw [e0]; exact AB.1) (State.isArrayOf_alike hZ.alike AB.2.1) AB.2.2 (by rw [HB.1]; decide) HB.2.2.2.2.2.2.1 (g := (mkF m 175 #[.val (.ref aw), .val (.int (1 : Int32)), .val (.int (3 : Int32)), .val (.ref ab), .val (.ref ar), .val (.int (1 : Int32)), .val (.int (1 : Int32)), .val (.int (5 : Int32)), .val (.int y0)] [(.int (5 : Int32)), (.ref ab)])) rfl rfl (hb hby d5_175)) ?_
      refine Go.on (g' := (mkF m 177 _ [(.ref ab), (.int b11)])) (fun t_ k_ => XS.aloadN X0.here hx rfl (hb hby d5_176) rfl rfl k_) ?_
      refine Go.on (g' := (mkF m 179 _ [(.int (5 : Int32)), (.ref ab), (.int b11)])) (fun t_ k_ => XS.iload X0.here hx rfl (hb hby d5_177) rfl k_) ?_
      refine Go.on (g' := (mkF m 180 _ [(.int (3 : Int32)), (.int (5 : Int32)), (.ref ab), (.int b11)])) (fun t_ k_ => XS.iloadN X0.here hx rfl (hb hby d5_179) rfl k_) ?_
      refine Go.on (g' := (mkF m 181 _ [(.int ((5 : Int32) - (3 : Int32))), (.ref ab), (.int b11)])) (fun t_ k_ => XS.isub X0.here hx rfl (hb hby d5_180) rfl k_) ?_
      rw [show ((5 : Int32) - (3 : Int32)) = (2 : Int32) from by decide]
      refine Go.on (g' := (mkF m 182 _ [(.int (2 : Int32)), (.int (2 : Int32)), (.ref ab), (.int b11)])) (fun t_ k_ => XS.iconst X0.here hx rfl (hb hby d5_181) k_) ?_
      refine Go.on (g' := (mkF m 183 _ [(.int ((2 : Int32) - (2 : Int32))), (.ref ab), (.int b11)])) (fun t_ k_ => XS.isub X0.here hx rfl (hb hby d5_182) rfl k_) ?_
      rw [show ((2 : Int32) - (2 : Int32)) = (0 : Int32) from by decide]
      refine Go.on (g' := (mkF m 184 _ [(.int (0 : Int32)), (.int b11)])) (X0.iaload hx (j := (0 : Int32)) (v := (.int (0 : Int32))) (by rw [e0]; exact AB.1) (State.isArrayOf_alike hZ.alike AB.2.1) AB.2.2 (by rw [HB.1]; decide) HB.2.1 (g := (mkF m 183 #[.val (.ref aw), .val (.int (1 : Int32)), .val (.int (3 : Int32)), .val (.ref ab), .val (.ref ar), .val (.int (1 : Int32)), .val (.int (1 : Int32)), .val (.int (5 : Int32)), .val (.int y0)] [(.int (0 : Int32)), (.ref ab), (.int b11)])) rfl rfl (hb hby d5_183)) ?_
      refine Go.on (g' := (mkF m 186 _ [(.int y0), (.int (0 : Int32)), (.int b11)])) (fun t_ k_ => XS.iload X0.here hx rfl (hb hby d5_184) rfl k_) ?_
      refine Go.on (g' := (mkF m 187 _ [(.int ((0 : Int32) + y0)), (.int b11)])) (fun t_ k_ => XS.iadd X0.here hx rfl (hb hby d5_186) rfl k_) ?_
      refine Go.icmp X0 hx hby d5_187 (pcT := 210) (pcF := 190) (by decide) (by decide) rfl (fun q => ?_) (fun q => ?_)
      · have q3 := iNe.1 q
        clear q
        show Go p e below _ _ (mkF m 210 _ [])
        exact J210 () (fun z => q3 z.2)
      · have q3 := iNe.2 q
        clear q
        show Go p e below _ _ (mkF m 190 _ [])
        refine Go.on (g' := (mkF m 192 _ [(.ref ar)])) (fun t_ k_ => XS.aload X0.here hx rfl (hb hby d5_190) rfl rfl k_) ?_
        refine Go.on (g' := (mkF m 194 _ [(.int (1 : Int32)), (.ref ar)])) (fun t_ k_ => XS.iload X0.here hx rfl (hb hby d5_192) rfl k_) ?_
        refine Go.on (g' := (mkF m 195 _ [(.int (1 : Int32)), (.int (1 : Int32)), (.ref ar)])) (fun t_ k_ => XS.iconst X0.here hx rfl (hb hby d5_194) k_) ?_
        refine Go.on (g' := (mkF m 196 _ [(.int ((1 : Int32) - (1 : Int32))), (.ref ar)])) (fun t_ k_ => XS.isub X0.here hx rfl (hb hby d5_195) rfl k_) ?_
        rw [show ((1 : Int32) - (1 : Int32)) = (0 : Int32) from by decide]
        refine Go.on (g' := (mkF m 198 _ [(.int (1 : Int32)), (.int (0 : Int32)), (.ref ar)])) (fun t_ k_ => XS.iload X0.here hx rfl (hb hby d5_196) rfl k_) ?_
        refine Go.on (g' := (mkF m 199 _ [(.int (1 : Int32)), (.int (1 : Int32)), (.int (0 : Int32)), (.ref ar)])) (fun t_ k_ => XS.iconst X0.here hx rfl (hb hby d5_198) k_) ?_
        refine Go.on (g' := (mkF m 200 _ [(.int ((1 : Int32) - (1 : Int32))), (.int (0 : Int32)), (.ref ar)])) (fun t_ k_ => XS.isub X0.here hx rfl (hb hby d5_199) rfl k_) ?_
        rw [show ((1 : Int32) - (1 : Int32)) = (0 : Int32) from by decide]
        have hi_200 : ¬ ((0 : Int32) < 0 ∨ cr.slots.size ≤ ((0 : Int32)).toNatClampNeg) := by rw [SZ]; decide
        obtain ⟨T1, h1, X1, e1, W1, st1⟩ := stI X0 hx hZ e0 AR (j := (0 : Int32)) hi_200 (g := (mkF m 200 #[.val (.ref aw), .val (.int (1 : Int32)), .val (.int (3 : Int32)), .val (.ref ab), .val (.ref ar), .val (.int (1 : Int32)), .val (.int (1 : Int32)), .val (.int (5 : Int32)), .val (.int y0)] [(.int (0 : Int32)), (.int (0 : Int32)), (.ref ar)])) rfl rfl (hb hby d5_200)
        have N1 := Fr.snoc X1 N0 nar
        have Z1 : n0 ≤ h1.size := by rw [W1.size]; exact Z0
        have arr_aw_1 := AW.other W1 nwr
        have arr_ab_1 := AB.other W1 nbr
        have EX_1 := extWr EX0 W1 mar
        have A1 := AR.same W1
        refine Go.on (g' := (mkF m 201 _ [])) (st1) ?_
        have sz1 := (sz_set cr ((0 : Int32)).toNatClampNeg (.int (0 : Int32))).trans SZ
        have hr0_1 := get_hit (v := .int (0 : Int32)) hi_200 (rfl : (0 : Int32) = (0 : Int32))
        refine Go.on (g' := (mkF m 204 #[.val (.ref aw), .val (.int (1 : Int32)), .val (.int (3 : Int32)), .val (.ref ab), .val (.ref ar), .val (.int ((1 : Int32) + ((-1) : Int32))), .val (.int (1 : Int32)), .val (.int (5 : Int32)), .val (.int y0)] [])) (fun t_ k_ => XS.iinc X1.here hx rfl (hb hby d5_201) rfl (l' := #[.val (.ref aw), .val (.int (1 : Int32)), .val (.int (3 : Int32)), .val (.ref ab), .val (.ref ar), .val (.int ((1 : Int32) + ((-1) : Int32))), .val (.int (1 : Int32)), .val (.int (5 : Int32)), .val (.int y0)]) rfl k_) ?_
        rw [show ((1 : Int32) + ((-1) : Int32)) = (0 : Int32) from by decide]
        refine Go.on (g' := (mkF m 207 #[.val (.ref aw), .val (.int (1 : Int32)), .val (.int (3 : Int32)), .val (.ref ab), .val (.ref ar), .val (.int (0 : Int32)), .val (.int ((1 : Int32) + ((-1) : Int32))), .val (.int (5 : Int32)), .val (.int y0)] [])) (fun t_ k_ => XS.iinc X1.here hx rfl (hb hby d5_204) rfl (l' := #[.val (.ref aw), .val (.int (1 : Int32)), .val (.int (3 : Int32)), .val (.ref ab), .val (.ref ar), .val (.int (0 : Int32)), .val (.int ((1 : Int32) + ((-1) : Int32))), .val (.int (5 : Int32)), .val (.int y0)]) rfl k_) ?_
        rw [show ((1 : Int32) + ((-1) : Int32)) = (0 : Int32) from by decide]
        refine Go.on (g' := (mkF m 234 _ [])) (fun t_ k_ => XS.goto X1.here hx rfl (pc0 := 207) (pc' := 234) rfl (hb hby d5_207) (by decide) (by decide) k_) ?_
        refine Go.on (g' := (mkF m 131 _ [])) (fun t_ k_ => XS.goto X1.here hx rfl (pc0 := 234) (pc' := 131) rfl (hb hby d5_234) (by decide) (by decide) k_) ?_
        refine Go.on (g' := (mkF m 133 _ [(.int (0 : Int32))])) (fun t_ k_ => XS.iload X1.here hx rfl (hb hby d5_131) rfl k_) ?_
        refine Go.ifc X1 hx hby d5_133 (pcT := 237) (pcF := 136) (by decide) (by decide) rfl (fun q => ?_) (fun q => absurd q (by decide))
        clear q
        show Go p e below _ _ (mkF m 237 _ [])
        refine Go.on (g' := (mkF m 239 _ [(.ref ar)])) (fun t_ k_ => XS.aload X1.here hx rfl (hb hby d5_237) rfl rfl k_) ?_
        exact Go.retA X1 hx hlk hret hby d5_239 rfl rfl (by decide) (by decide) (by rw [e1, own_r11, if_pos ⟨q2, q3⟩]; exact ⟨ar, _, rfl, N1, EX_1, mar, A1, sz1, hr0_1⟩)
set_option maxRecDepth 65536 in
set_option maxHeartbeats 40000000 in
theorem nd13_1_2 (l : Launch) (Z : State) (w0 : Array Value) (hw : ∀ d ∈ tables_1, d.before w0 Z = true) (ws : List Jvm.Cond) (aw ab ar : Addr) (p : Program) (e : Env) (s : State) (m : MethodId) (below : List Frame) (meth : Method) (c : Code) (h0 : Heap) (n0 : Nat) (T0 : State) (locs : List Loc) (X0 : Stand p l e ({ frames := 1, cells := 2, slots := 9, locals := 15 } : Room) s m #[.ref aw, .int (1 : Int32), .int (3 : Int32)] below meth c T0 locs 2 9) (hx : p.tables.exec = Jvm.exec) (hby : c.code = prog_7_method_2_code) (hml : c.maxLocals = 9) (hret : meth.sig.returnType = (some (.array .int))) (hlk : meth.locks = false) (hZ : Z.Warmed39 s.vm) (hh : Heap) (e0 : T0.heap = hh) (Z0 : n0 ≤ hh.size) (N0 : Fr n0 locs) (EX0 : Ext h0 hh) (nar : n0 ≤ ar) (mar : h0.size ≤ ar) (nwr : aw ≠ ar) (nbr : ab ≠ ar) (cw : Cell) (AW : Arr Z hh aw cw .int) (y0 y1 y2 : Int32) (HW : own_W13 cw y0 y1 y2) (cb : Cell) (AB : Arr Z hh ab cb .int) (b11 b12 b13 : Int32) (HB : own_B13 cb b11 b12 b13) (cr : Cell) (AR : Arr Z hh ar cr .int) (SZ : cr.slots.size = 1)  (H0 : cr.slots[(0 : Int32).toNatClampNeg]? = some (.int ((-1) : Int32))) (x7 x8 : Slot) (O7 : One x7) (O8 : One x8) : Go p e below (EndK s (own_Q1 Z (own_r12 y0 y1 b11 b12) h0 n0) 2 9) T0 (mkF m 131 #[.val (.ref aw), .val (.int (1 : Int32)), .val (.int (3 : Int32)), .val (.ref ab), .val (.ref ar), .val (.int (1 : Int32)), .val (.int (2 : Int32)), x7, x8] []) := by
  refine Go.on (g' := (mkF m 133 _ [(.int (1 : Int32))])) (fun t_ k_ => XS.iload X0.here hx rfl (hb hby d5_131) rfl k_) ?_
  refine Go.ifc X0 hx hby d5_133 (pcT := 237) (pcF := 136) (by decide) (by decide) rfl (fun q => absurd q (by decide)) (fun q => ?_)
  clear q
  show Go p e below _ _ (mkF m 136 _ [])
  refine Go.on (g' := (mkF m 138 _ [(.int (2 : Int32))])) (fun t_ k_ => XS.iload X0.here hx rfl (hb hby d5_136) rfl k_) ?_
  refine Go.ifc X0 hx hby d5_138 (pcT := 237) (pcF := 141) (by decide) (by decide) rfl (fun q => absurd q (by decide)) (fun q => ?_)
  clear q
  show Go p e below _ _ (mkF m 141 _ [])
  refine Go.on (g' := (mkF m 143 _ [(.int (1 : Int32))])) (fun t_ k_ => XS.iload X0.here hx rfl (hb hby d5_141) rfl k_) ?_
  refine Go.on (g' := (mkF m 144 _ [(.int (3 : Int32)), (.int (1 : Int32))])) (fun t_ k_ => XS.iloadN X0.here hx rfl (hb hby d5_143) rfl k_) ?_
  refine Go.on (g' := (mkF m 145 _ [(.int (1 : Int32)), (.int (3 : Int32)), (.int (1 : Int32))])) (fun t_ k_ => XS.iconst X0.here hx rfl (hb hby d5_144) k_) ?_
  refine Go.on (g' := (mkF m 146 _ [(.int ((3 : Int32) + (1 : Int32))), (.int (1 : Int32))])) (fun t_ k_ => XS.iadd X0.here hx rfl (hb hby d5_145) rfl k_) ?_
  rw [show ((3 : Int32) + (1 : Int32)) = (4 : Int32) from by decide]
  refine Go.on (g' := (mkF m 147 _ [(.int ((1 : Int32) * (4 : Int32)))])) (fun t_ k_ => XS.imul X0.here hx rfl (hb hby d5_146) rfl k_) ?_
  rw [show ((1 : Int32) * (4 : Int32)) = (4 : Int32) from by decide]
  refine Go.on (g' := (mkF m 149 _ [(.int (2 : Int32)), (.int (4 : Int32))])) (fun t_ k_ => XS.iload X0.here hx rfl (hb hby d5_147) rfl k_) ?_
  refine Go.on (g' := (mkF m 150 _ [(.int ((4 : Int32) + (2 : Int32)))])) (fun t_ k_ => XS.iadd X0.here hx rfl (hb hby d5_149) rfl k_) ?_
  rw [show ((4 : Int32) + (2 : Int32)) = (6 : Int32) from by decide]
  refine Go.on (g' := (mkF m 152 #[.val (.ref aw), .val (.int (1 : Int32)), .val (.int (3 : Int32)), .val (.ref ab), .val (.ref ar), .val (.int (1 : Int32)), .val (.int (2 : Int32)), .val (.int (6 : Int32)), x8] [])) (fun t_ k_ => XS.istore X0.here hx rfl (hb hby d5_150) rfl (l' := #[.val (.ref aw), .val (.int (1 : Int32)), .val (.int (3 : Int32)), .val (.ref ab), .val (.ref ar), .val (.int (1 : Int32)), .val (.int (2 : Int32)), .val (.int (6 : Int32)), x8]) (XS.store1 (o := x7) rfl O7 rfl) k_) ?_
  refine Go.on (g' := (mkF m 153 _ [(.ref aw)])) (fun t_ k_ => XS.aloadN X0.here hx rfl (hb hby d5_152) rfl rfl k_) ?_
  refine Go.on (g' := (mkF m 155 _ [(.int (1 : Int32)), (.ref aw)])) (fun t_ k_ => XS.iload X0.here hx rfl (hb hby d5_153) rfl k_) ?_
  refine Go.on (g' := (mkF m 156 _ [(.int (1 : Int32)), (.int (1 : Int32)), (.ref aw)])) (fun t_ k_ => XS.iconst X0.here hx rfl (hb hby d5_155) k_) ?_
  refine Go.on (g' := (mkF m 157 _ [(.int ((1 : Int32) - (1 : Int32))), (.ref aw)])) (fun t_ k_ => XS.isub X0.here hx rfl (hb hby d5_156) rfl k_) ?_
  rw [show ((1 : Int32) - (1 : Int32)) = (0 : Int32) from by decide]
  refine Go.on (g' := (mkF m 158 _ [(.int (3 : Int32)), (.int (0 : Int32)), (.ref aw)])) (fun t_ k_ => XS.iloadN X0.here hx rfl (hb hby d5_157) rfl k_) ?_
  refine Go.on (g' := (mkF m 159 _ [(.int ((0 : Int32) * (3 : Int32))), (.ref aw)])) (fun t_ k_ => XS.imul X0.here hx rfl (hb hby d5_158) rfl k_) ?_
  rw [show ((0 : Int32) * (3 : Int32)) = (0 : Int32) from by decide]
  refine Go.on (g' := (mkF m 161 _ [(.int (2 : Int32)), (.int (0 : Int32)), (.ref aw)])) (fun t_ k_ => XS.iload X0.here hx rfl (hb hby d5_159) rfl k_) ?_
  refine Go.on (g' := (mkF m 162 _ [(.int ((0 : Int32) + (2 : Int32))), (.ref aw)])) (fun t_ k_ => XS.iadd X0.here hx rfl (hb hby d5_161) rfl k_) ?_
  rw [show ((0 : Int32) + (2 : Int32)) = (2 : Int32) from by decide]
  refine Go.on (g' := (mkF m 163 _ [(.int (1 : Int32)), (.int (2 : Int32)), (.ref aw)])) (fun t_ k_ => XS.iconst X0.here hx rfl (hb hby d5_162) k_) ?_
  refine Go.on (g' := (mkF m 164 _ [(.int ((2 : Int32) - (1 : Int32))), (.ref aw)])) (fun t_ k_ => XS.isub X0.here hx rfl (hb hby d5_163) rfl k_) ?_
  rw [show ((2 : Int32) - (1 : Int32)) = (1 : Int32) from by decide]
  refine Go.on (g' := (mkF m 165 _ [(.int y1)])) (X0.iaload hx (j := (1 : Int32)) (v := (.int y1)) (by rw [e0]; exact AW.1) (State.isArrayOf_alike hZ.alike AW.2.1) AW.2.2 (by rw [HW.1]; decide) HW.2.2.1 (g := (mkF m 164 #[.val (.ref aw), .val (.int (1 : Int32)), .val (.int (3 : Int32)), .val (.ref ab), .val (.ref ar), .val (.int (1 : Int32)), .val (.int (2 : Int32)), .val (.int (6 : Int32)), x8] [(.int (1 : Int32)), (.ref aw)])) rfl rfl (hb hby d5_164)) ?_
  refine Go.on (g' := (mkF m 167 #[.val (.ref aw), .val (.int (1 : Int32)), .val (.int (3 : Int32)), .val (.ref ab), .val (.ref ar), .val (.int (1 : Int32)), .val (.int (2 : Int32)), .val (.int (6 : Int32)), .val (.int y1)] [])) (fun t_ k_ => XS.istore X0.here hx rfl (hb hby d5_165) rfl (l' := #[.val (.ref aw), .val (.int (1 : Int32)), .val (.int (3 : Int32)), .val (.ref ab), .val (.ref ar), .val (.int (1 : Int32)), .val (.int (2 : Int32)), .val (.int (6 : Int32)), .val (.int y1)]) (XS.store1 (o := x8) rfl O8 rfl) k_) ?_
  refine Go.on (g' := (mkF m 169 _ [(.int y1)])) (fun t_ k_ => XS.iload X0.here hx rfl (hb hby d5_167) rfl k_) ?_
  refine Go.join (P := fun _ : Unit => ¬ (0 < y1 ∧ b12 = (0 : Int32) + y1)) (g := fun _ => (mkF m 210 #[.val (.ref aw), .val (.int (1 : Int32)), .val (.int (3 : Int32)), .val (.ref ab), .val (.ref ar), .val (.int (1 : Int32)), .val (.int (2 : Int32)), .val (.int (6 : Int32)), .val (.int y1)] [])) (fun _ hJ210 => ?_) (fun J210 => ?_)
  · show Go p e below _ _ (mkF m 210 _ [])
    refine Go.on (g' := (mkF m 211 _ [(.ref ab)])) (fun t_ k_ => XS.aloadN X0.here hx rfl (hb hby d5_210) rfl rfl k_) ?_
    refine Go.on (g' := (mkF m 213 _ [(.int (6 : Int32)), (.ref ab)])) (fun t_ k_ => XS.iload X0.here hx rfl (hb hby d5_211) rfl k_) ?_
    refine Go.on (g' := (mkF m 214 _ [(.int b12)])) (X0.iaload hx (j := (6 : Int32)) (v := (.int b12)) (by rw [e0]; exact AB.1) (State.isArrayOf_alike hZ.alike AB.2.1) AB.2.2 (by rw [HB.1]; decide) HB.2.2.2.2.2.2.2.1 (g := (mkF m 213 #[.val (.ref aw), .val (.int (1 : Int32)), .val (.int (3 : Int32)), .val (.ref ab), .val (.ref ar), .val (.int (1 : Int32)), .val (.int (2 : Int32)), .val (.int (6 : Int32)), .val (.int y1)] [(.int (6 : Int32)), (.ref ab)])) rfl rfl (hb hby d5_213)) ?_
    refine Go.on (g' := (mkF m 215 _ [(.ref ab), (.int b12)])) (fun t_ k_ => XS.aloadN X0.here hx rfl (hb hby d5_214) rfl rfl k_) ?_
    refine Go.on (g' := (mkF m 217 _ [(.int (6 : Int32)), (.ref ab), (.int b12)])) (fun t_ k_ => XS.iload X0.here hx rfl (hb hby d5_215) rfl k_) ?_
    refine Go.on (g' := (mkF m 218 _ [(.int (3 : Int32)), (.int (6 : Int32)), (.ref ab), (.int b12)])) (fun t_ k_ => XS.iloadN X0.here hx rfl (hb hby d5_217) rfl k_) ?_
    refine Go.on (g' := (mkF m 219 _ [(.int ((6 : Int32) - (3 : Int32))), (.ref ab), (.int b12)])) (fun t_ k_ => XS.isub X0.here hx rfl (hb hby d5_218) rfl k_) ?_
    rw [show ((6 : Int32) - (3 : Int32)) = (3 : Int32) from by decide]
    refine Go.on (g' := (mkF m 220 _ [(.int (1 : Int32)), (.int (3 : Int32)), (.ref ab), (.int b12)])) (fun t_ k_ => XS.iconst X0.here hx rfl (hb hby d5_219) k_) ?_
    refine Go.on (g' := (mkF m 221 _ [(.int ((3 : Int32) - (1 : Int32))), (.ref ab), (.int b12)])) (fun t_ k_ => XS.isub X0.here hx rfl (hb hby d5_220) rfl k_) ?_
    rw [show ((3 : Int32) - (1 : Int32)) = (2 : Int32) from by decide]
    refine Go.on (g' := (mkF m 222 _ [(.int (0 : Int32)), (.int b12)])) (X0.iaload hx (j := (2 : Int32)) (v := (.int (0 : Int32))) (by rw [e0]; exact AB.1) (State.isArrayOf_alike hZ.alike AB.2.1) AB.2.2 (by rw [HB.1]; decide) HB.2.2.2.1 (g := (mkF m 221 #[.val (.ref aw), .val (.int (1 : Int32)), .val (.int (3 : Int32)), .val (.ref ab), .val (.ref ar), .val (.int (1 : Int32)), .val (.int (2 : Int32)), .val (.int (6 : Int32)), .val (.int y1)] [(.int (2 : Int32)), (.ref ab), (.int b12)])) rfl rfl (hb hby d5_221)) ?_
    refine Go.icmp X0 hx hby d5_222 (pcT := 231) (pcF := 225) (by decide) (by decide) rfl (fun q => ?_) (fun q => ?_)
    · have q1 := iNe.1 q
      clear q
      show Go p e below _ _ (mkF m 231 _ [])
      refine Go.on (g' := (mkF m 234 #[.val (.ref aw), .val (.int (1 : Int32)), .val (.int (3 : Int32)), .val (.ref ab), .val (.ref ar), .val (.int (1 : Int32)), .val (.int ((2 : Int32) + ((-1) : Int32))), .val (.int (6 : Int32)), .val (.int y1)] [])) (fun t_ k_ => XS.iinc X0.here hx rfl (hb hby d5_231) rfl (l' := #[.val (.ref aw), .val (.int (1 : Int32)), .val (.int (3 : Int32)), .val (.ref ab), .val (.ref ar), .val (.int (1 : Int32)), .val (.int ((2 : Int32) + ((-1) : Int32))), .val (.int (6 : Int32)), .val (.int y1)]) rfl k_) ?_
      rw [show ((2 : Int32) + ((-1) : Int32)) = (1 : Int32) from by decide]
      refine Go.on (g' := (mkF m 131 _ [])) (fun t_ k_ => XS.goto X0.here hx rfl (pc0 := 234) (pc' := 131) rfl (hb hby d5_234) (by decide) (by decide) k_) ?_
      rw [own_r12, if_neg hJ210, if_neg q1]
      exact nd13_1_1 l Z w0 hw ws aw ab ar p e s m below meth c h0 n0 T0 _ X0 hx hby hml hret hlk hZ _ e0 Z0 N0 EX0 nar mar nwr nbr cw AW y0 y1 y2 HW cb AB b11 b12 b13 HB _ AR SZ  H0 (.val (.int (6 : Int32))) (.val (.int y1)) (One.val rfl) (One.val rfl)
    · have q1 := iNe.2 q
      clear q
      show Go p e below _ _ (mkF m 225 _ [])
      refine Go.on (g' := (mkF m 228 #[.val (.ref aw), .val (.int (1 : Int32)), .val (.int (3 : Int32)), .val (.ref ab), .val (.ref ar), .val (.int ((1 : Int32) + ((-1) : Int32))), .val (.int (2 : Int32)), .val (.int (6 : Int32)), .val (.int y1)] [])) (fun t_ k_ => XS.iinc X0.here hx rfl (hb hby d5_225) rfl (l' := #[.val (.ref aw), .val (.int (1 : Int32)), .val (.int (3 : Int32)), .val (.ref ab), .val (.ref ar), .val (.int ((1 : Int32) + ((-1) : Int32))), .val (.int (2 : Int32)), .val (.int (6 : Int32)), .val (.int y1)]) rfl k_) ?_
      rw [show ((1 : Int32) + ((-1) : Int32)) = (0 : Int32) from by decide]
      refine Go.on (g' := (mkF m 234 _ [])) (fun t_ k_ => XS.goto X0.here hx rfl (pc0 := 228) (pc' := 234) rfl (hb hby d5_228) (by decide) (by decide) k_) ?_
      refine Go.on (g' := (mkF m 131 _ [])) (fun t_ k_ => XS.goto X0.here hx rfl (pc0 := 234) (pc' := 131) rfl (hb hby d5_234) (by decide) (by decide) k_) ?_
      refine Go.on (g' := (mkF m 133 _ [(.int (0 : Int32))])) (fun t_ k_ => XS.iload X0.here hx rfl (hb hby d5_131) rfl k_) ?_
      refine Go.ifc X0 hx hby d5_133 (pcT := 237) (pcF := 136) (by decide) (by decide) rfl (fun q => ?_) (fun q => absurd q (by decide))
      clear q
      show Go p e below _ _ (mkF m 237 _ [])
      refine Go.on (g' := (mkF m 239 _ [(.ref ar)])) (fun t_ k_ => XS.aload X0.here hx rfl (hb hby d5_237) rfl rfl k_) ?_
      exact Go.retA X0 hx hlk hret hby d5_239 rfl rfl (by decide) (by decide) (by rw [e0, own_r12, if_neg hJ210, if_pos q1]; exact ⟨ar, _, rfl, N0, EX0, mar, AR, SZ, H0⟩)
  · show Go p e below _ _ (mkF m 169 _ [(.int y1)])
    refine Go.ifc X0 hx hby d5_169 (pcT := 210) (pcF := 172) (by decide) (by decide) rfl (fun q => ?_) (fun q => ?_)
    · have q2 := iLe.1 q
      clear q
      show Go p e below _ _ (mkF m 210 _ [])
      exact J210 () (fun z => q2 z.1)
    · have q2 := iLe.2 q
      clear q
      show Go p e below _ _ (mkF m 172 _ [])
      refine Go.on (g' := (mkF m 173 _ [(.ref ab)])) (fun t_ k_ => XS.aloadN X0.here hx rfl (hb hby d5_172) rfl rfl k_) ?_
      refine Go.on (g' := (mkF m 175 _ [(.int (6 : Int32)), (.ref ab)])) (fun t_ k_ => XS.iload X0.here hx rfl (hb hby d5_173) rfl k_) ?_
      refine Go.on (g' := (mkF m 176 _ [(.int b12)])) (X0.iaload hx (j := (6 : Int32)) (v := (.int b12)) (by rw [e0]; exact AB.1) (State.isArrayOf_alike hZ.alike AB.2.1) AB.2.2 (by rw [HB.1]; decide) HB.2.2.2.2.2.2.2.1 (g := (mkF m 175 #[.val (.ref aw), .val (.int (1 : Int32)), .val (.int (3 : Int32)), .val (.ref ab), .val (.ref ar), .val (.int (1 : Int32)), .val (.int (2 : Int32)), .val (.int (6 : Int32)), .val (.int y1)] [(.int (6 : Int32)), (.ref ab)])) rfl rfl (hb hby d5_175)) ?_
      refine Go.on (g' := (mkF m 177 _ [(.ref ab), (.int b12)])) (fun t_ k_ => XS.aloadN X0.here hx rfl (hb hby d5_176) rfl rfl k_) ?_
      refine Go.on (g' := (mkF m 179 _ [(.int (6 : Int32)), (.ref ab), (.int b12)])) (fun t_ k_ => XS.iload X0.here hx rfl (hb hby d5_177) rfl k_) ?_
      refine Go.on (g' := (mkF m 180 _ [(.int (3 : Int32)), (.int (6 : Int32)), (.ref ab), (.int b12)])) (fun t_ k_ => XS.iloadN X0.here hx rfl (hb hby d5_179) rfl k_) ?_
      refine Go.on (g' := (mkF m 181 _ [(.int ((6 : Int32) - (3 : Int32))), (.ref ab), (.int b12)])) (fun t_ k_ => XS.isub X0.here hx rfl (hb hby d5_180) rfl k_) ?_
      rw [show ((6 : Int32) - (3 : Int32)) = (3 : Int32) from by decide]
      refine Go.on (g' := (mkF m 182 _ [(.int (2 : Int32)), (.int (3 : Int32)), (.ref ab), (.int b12)])) (fun t_ k_ => XS.iconst X0.here hx rfl (hb hby d5_181) k_) ?_
      refine Go.on (g' := (mkF m 183 _ [(.int ((3 : Int32) - (2 : Int32))), (.ref ab), (.int b12)])) (fun t_ k_ => XS.isub X0.here hx rfl (hb hby d5_182) rfl k_) ?_
      rw [show ((3 : Int32) - (2 : Int32)) = (1 : Int32) from by decide]
      refine Go.on (g' := (mkF m 184 _ [(.int (0 : Int32)), (.int b12)])) (X0.iaload hx (j := (1 : Int32)) (v := (.int (0 : Int32))) (by rw [e0]; exact AB.1) (State.isArrayOf_alike hZ.alike AB.2.1) AB.2.2 (by rw [HB.1]; decide) HB.2.2.1 (g := (mkF m 183 #[.val (.ref aw), .val (.int (1 : Int32)), .val (.int (3 : Int32)), .val (.ref ab), .val (.ref ar), .val (.int (1 : Int32)), .val (.int (2 : Int32)), .val (.int (6 : Int32)), .val (.int y1)] [(.int (1 : Int32)), (.ref ab), (.int b12)])) rfl rfl (hb hby d5_183)) ?_
      refine Go.on (g' := (mkF m 186 _ [(.int y1), (.int (0 : Int32)), (.int b12)])) (fun t_ k_ => XS.iload X0.here hx rfl (hb hby d5_184) rfl k_) ?_
      refine Go.on (g' := (mkF m 187 _ [(.int ((0 : Int32) + y1)), (.int b12)])) (fun t_ k_ => XS.iadd X0.here hx rfl (hb hby d5_186) rfl k_) ?_
      refine Go.icmp X0 hx hby d5_187 (pcT := 210) (pcF := 190) (by decide) (by decide) rfl (fun q => ?_) (fun q => ?_)
      · have q3 := iNe.1 q
        clear q
        show Go p e below _ _ (mkF m 210 _ [])
        exact J210 () (fun z => q3 z.2)
      · have q3 := iNe.2 q
        clear q
        show Go p e below _ _ (mkF m 190 _ [])
        refine Go.on (g' := (mkF m 192 _ [(.ref ar)])) (fun t_ k_ => XS.aload X0.here hx rfl (hb hby d5_190) rfl rfl k_) ?_
        refine Go.on (g' := (mkF m 194 _ [(.int (1 : Int32)), (.ref ar)])) (fun t_ k_ => XS.iload X0.here hx rfl (hb hby d5_192) rfl k_) ?_
        refine Go.on (g' := (mkF m 195 _ [(.int (1 : Int32)), (.int (1 : Int32)), (.ref ar)])) (fun t_ k_ => XS.iconst X0.here hx rfl (hb hby d5_194) k_) ?_
        refine Go.on (g' := (mkF m 196 _ [(.int ((1 : Int32) - (1 : Int32))), (.ref ar)])) (fun t_ k_ => XS.isub X0.here hx rfl (hb hby d5_195) rfl k_) ?_
        rw [show ((1 : Int32) - (1 : Int32)) = (0 : Int32) from by decide]
        refine Go.on (g' := (mkF m 198 _ [(.int (2 : Int32)), (.int (0 : Int32)), (.ref ar)])) (fun t_ k_ => XS.iload X0.here hx rfl (hb hby d5_196) rfl k_) ?_
        refine Go.on (g' := (mkF m 199 _ [(.int (1 : Int32)), (.int (2 : Int32)), (.int (0 : Int32)), (.ref ar)])) (fun t_ k_ => XS.iconst X0.here hx rfl (hb hby d5_198) k_) ?_
        refine Go.on (g' := (mkF m 200 _ [(.int ((2 : Int32) - (1 : Int32))), (.int (0 : Int32)), (.ref ar)])) (fun t_ k_ => XS.isub X0.here hx rfl (hb hby d5_199) rfl k_) ?_
        rw [show ((2 : Int32) - (1 : Int32)) = (1 : Int32) from by decide]
        have hi_200 : ¬ ((0 : Int32) < 0 ∨ cr.slots.size ≤ ((0 : Int32)).toNatClampNeg) := by rw [SZ]; decide
        obtain ⟨T1, h1, X1, e1, W1, st1⟩ := stI X0 hx hZ e0 AR (j := (0 : Int32)) hi_200 (g := (mkF m 200 #[.val (.ref aw), .val (.int (1 : Int32)), .val (.int (3 : Int32)), .val (.ref ab), .val (.ref ar), .val (.int (1 : Int32)), .val (.int (2 : Int32)), .val (.int (6 : Int32)), .val (.int y1)] [(.int (1 : Int32)), (.int (0 : Int32)), (.ref ar)])) rfl rfl (hb hby d5_200)
        have N1 := Fr.snoc X1 N0 nar
        have Z1 : n0 ≤ h1.size := by rw [W1.size]; exact Z0
        have arr_aw_1 := AW.other W1 nwr
        have arr_ab_1 := AB.other W1 nbr
        have EX_1 := extWr EX0 W1 mar
        have A1 := AR.same W1
        refine Go.on (g' := (mkF m 201 _ [])) (st1) ?_
        have sz1 := (sz_set cr ((0 : Int32)).toNatClampNeg (.int (1 : Int32))).trans SZ
        have hr0_1 := get_hit (v := .int (1 : Int32)) hi_200 (rfl : (0 : Int32) = (0 : Int32))
        refine Go.on (g' := (mkF m 204 #[.val (.ref aw), .val (.int (1 : Int32)), .val (.int (3 : Int32)), .val (.ref ab), .val (.ref ar), .val (.int ((1 : Int32) + ((-1) : Int32))), .val (.int (2 : Int32)), .val (.int (6 : Int32)), .val (.int y1)] [])) (fun t_ k_ => XS.iinc X1.here hx rfl (hb hby d5_201) rfl (l' := #[.val (.ref aw), .val (.int (1 : Int32)), .val (.int (3 : Int32)), .val (.ref ab), .val (.ref ar), .val (.int ((1 : Int32) + ((-1) : Int32))), .val (.int (2 : Int32)), .val (.int (6 : Int32)), .val (.int y1)]) rfl k_) ?_
        rw [show ((1 : Int32) + ((-1) : Int32)) = (0 : Int32) from by decide]
        refine Go.on (g' := (mkF m 207 #[.val (.ref aw), .val (.int (1 : Int32)), .val (.int (3 : Int32)), .val (.ref ab), .val (.ref ar), .val (.int (0 : Int32)), .val (.int ((2 : Int32) + ((-1) : Int32))), .val (.int (6 : Int32)), .val (.int y1)] [])) (fun t_ k_ => XS.iinc X1.here hx rfl (hb hby d5_204) rfl (l' := #[.val (.ref aw), .val (.int (1 : Int32)), .val (.int (3 : Int32)), .val (.ref ab), .val (.ref ar), .val (.int (0 : Int32)), .val (.int ((2 : Int32) + ((-1) : Int32))), .val (.int (6 : Int32)), .val (.int y1)]) rfl k_) ?_
        rw [show ((2 : Int32) + ((-1) : Int32)) = (1 : Int32) from by decide]
        refine Go.on (g' := (mkF m 234 _ [])) (fun t_ k_ => XS.goto X1.here hx rfl (pc0 := 207) (pc' := 234) rfl (hb hby d5_207) (by decide) (by decide) k_) ?_
        refine Go.on (g' := (mkF m 131 _ [])) (fun t_ k_ => XS.goto X1.here hx rfl (pc0 := 234) (pc' := 131) rfl (hb hby d5_234) (by decide) (by decide) k_) ?_
        refine Go.on (g' := (mkF m 133 _ [(.int (0 : Int32))])) (fun t_ k_ => XS.iload X1.here hx rfl (hb hby d5_131) rfl k_) ?_
        refine Go.ifc X1 hx hby d5_133 (pcT := 237) (pcF := 136) (by decide) (by decide) rfl (fun q => ?_) (fun q => absurd q (by decide))
        clear q
        show Go p e below _ _ (mkF m 237 _ [])
        refine Go.on (g' := (mkF m 239 _ [(.ref ar)])) (fun t_ k_ => XS.aload X1.here hx rfl (hb hby d5_237) rfl rfl k_) ?_
        exact Go.retA X1 hx hlk hret hby d5_239 rfl rfl (by decide) (by decide) (by rw [e1, own_r12, if_pos ⟨q2, q3⟩]; exact ⟨ar, _, rfl, N1, EX_1, mar, A1, sz1, hr0_1⟩)
set_option maxRecDepth 65536 in
set_option maxHeartbeats 40000000 in
theorem nd13_1_3 (l : Launch) (Z : State) (w0 : Array Value) (hw : ∀ d ∈ tables_1, d.before w0 Z = true) (ws : List Jvm.Cond) (aw ab ar : Addr) (p : Program) (e : Env) (s : State) (m : MethodId) (below : List Frame) (meth : Method) (c : Code) (h0 : Heap) (n0 : Nat) (T0 : State) (locs : List Loc) (X0 : Stand p l e ({ frames := 1, cells := 2, slots := 9, locals := 15 } : Room) s m #[.ref aw, .int (1 : Int32), .int (3 : Int32)] below meth c T0 locs 2 9) (hx : p.tables.exec = Jvm.exec) (hby : c.code = prog_7_method_2_code) (hml : c.maxLocals = 9) (hret : meth.sig.returnType = (some (.array .int))) (hlk : meth.locks = false) (hZ : Z.Warmed39 s.vm) (hh : Heap) (e0 : T0.heap = hh) (Z0 : n0 ≤ hh.size) (N0 : Fr n0 locs) (EX0 : Ext h0 hh) (nar : n0 ≤ ar) (mar : h0.size ≤ ar) (nwr : aw ≠ ar) (nbr : ab ≠ ar) (cw : Cell) (AW : Arr Z hh aw cw .int) (y0 y1 y2 : Int32) (HW : own_W13 cw y0 y1 y2) (cb : Cell) (AB : Arr Z hh ab cb .int) (b11 b12 b13 : Int32) (HB : own_B13 cb b11 b12 b13) (cr : Cell) (AR : Arr Z hh ar cr .int) (SZ : cr.slots.size = 1)  (H0 : cr.slots[(0 : Int32).toNatClampNeg]? = some (.int ((-1) : Int32))) (x7 x8 : Slot) (O7 : One x7) (O8 : One x8) : Go p e below (EndK s (own_Q1 Z (own_r13 y0 y1 y2 b11 b12 b13) h0 n0) 2 9) T0 (mkF m 131 #[.val (.ref aw), .val (.int (1 : Int32)), .val (.int (3 : Int32)), .val (.ref ab), .val (.ref ar), .val (.int (1 : Int32)), .val (.int (3 : Int32)), x7, x8] []) := by
  refine Go.on (g' := (mkF m 133 _ [(.int (1 : Int32))])) (fun t_ k_ => XS.iload X0.here hx rfl (hb hby d5_131) rfl k_) ?_
  refine Go.ifc X0 hx hby d5_133 (pcT := 237) (pcF := 136) (by decide) (by decide) rfl (fun q => absurd q (by decide)) (fun q => ?_)
  clear q
  show Go p e below _ _ (mkF m 136 _ [])
  refine Go.on (g' := (mkF m 138 _ [(.int (3 : Int32))])) (fun t_ k_ => XS.iload X0.here hx rfl (hb hby d5_136) rfl k_) ?_
  refine Go.ifc X0 hx hby d5_138 (pcT := 237) (pcF := 141) (by decide) (by decide) rfl (fun q => absurd q (by decide)) (fun q => ?_)
  clear q
  show Go p e below _ _ (mkF m 141 _ [])
  refine Go.on (g' := (mkF m 143 _ [(.int (1 : Int32))])) (fun t_ k_ => XS.iload X0.here hx rfl (hb hby d5_141) rfl k_) ?_
  refine Go.on (g' := (mkF m 144 _ [(.int (3 : Int32)), (.int (1 : Int32))])) (fun t_ k_ => XS.iloadN X0.here hx rfl (hb hby d5_143) rfl k_) ?_
  refine Go.on (g' := (mkF m 145 _ [(.int (1 : Int32)), (.int (3 : Int32)), (.int (1 : Int32))])) (fun t_ k_ => XS.iconst X0.here hx rfl (hb hby d5_144) k_) ?_
  refine Go.on (g' := (mkF m 146 _ [(.int ((3 : Int32) + (1 : Int32))), (.int (1 : Int32))])) (fun t_ k_ => XS.iadd X0.here hx rfl (hb hby d5_145) rfl k_) ?_
  rw [show ((3 : Int32) + (1 : Int32)) = (4 : Int32) from by decide]
  refine Go.on (g' := (mkF m 147 _ [(.int ((1 : Int32) * (4 : Int32)))])) (fun t_ k_ => XS.imul X0.here hx rfl (hb hby d5_146) rfl k_) ?_
  rw [show ((1 : Int32) * (4 : Int32)) = (4 : Int32) from by decide]
  refine Go.on (g' := (mkF m 149 _ [(.int (3 : Int32)), (.int (4 : Int32))])) (fun t_ k_ => XS.iload X0.here hx rfl (hb hby d5_147) rfl k_) ?_
  refine Go.on (g' := (mkF m 150 _ [(.int ((4 : Int32) + (3 : Int32)))])) (fun t_ k_ => XS.iadd X0.here hx rfl (hb hby d5_149) rfl k_) ?_
  rw [show ((4 : Int32) + (3 : Int32)) = (7 : Int32) from by decide]
  refine Go.on (g' := (mkF m 152 #[.val (.ref aw), .val (.int (1 : Int32)), .val (.int (3 : Int32)), .val (.ref ab), .val (.ref ar), .val (.int (1 : Int32)), .val (.int (3 : Int32)), .val (.int (7 : Int32)), x8] [])) (fun t_ k_ => XS.istore X0.here hx rfl (hb hby d5_150) rfl (l' := #[.val (.ref aw), .val (.int (1 : Int32)), .val (.int (3 : Int32)), .val (.ref ab), .val (.ref ar), .val (.int (1 : Int32)), .val (.int (3 : Int32)), .val (.int (7 : Int32)), x8]) (XS.store1 (o := x7) rfl O7 rfl) k_) ?_
  refine Go.on (g' := (mkF m 153 _ [(.ref aw)])) (fun t_ k_ => XS.aloadN X0.here hx rfl (hb hby d5_152) rfl rfl k_) ?_
  refine Go.on (g' := (mkF m 155 _ [(.int (1 : Int32)), (.ref aw)])) (fun t_ k_ => XS.iload X0.here hx rfl (hb hby d5_153) rfl k_) ?_
  refine Go.on (g' := (mkF m 156 _ [(.int (1 : Int32)), (.int (1 : Int32)), (.ref aw)])) (fun t_ k_ => XS.iconst X0.here hx rfl (hb hby d5_155) k_) ?_
  refine Go.on (g' := (mkF m 157 _ [(.int ((1 : Int32) - (1 : Int32))), (.ref aw)])) (fun t_ k_ => XS.isub X0.here hx rfl (hb hby d5_156) rfl k_) ?_
  rw [show ((1 : Int32) - (1 : Int32)) = (0 : Int32) from by decide]
  refine Go.on (g' := (mkF m 158 _ [(.int (3 : Int32)), (.int (0 : Int32)), (.ref aw)])) (fun t_ k_ => XS.iloadN X0.here hx rfl (hb hby d5_157) rfl k_) ?_
  refine Go.on (g' := (mkF m 159 _ [(.int ((0 : Int32) * (3 : Int32))), (.ref aw)])) (fun t_ k_ => XS.imul X0.here hx rfl (hb hby d5_158) rfl k_) ?_
  rw [show ((0 : Int32) * (3 : Int32)) = (0 : Int32) from by decide]
  refine Go.on (g' := (mkF m 161 _ [(.int (3 : Int32)), (.int (0 : Int32)), (.ref aw)])) (fun t_ k_ => XS.iload X0.here hx rfl (hb hby d5_159) rfl k_) ?_
  refine Go.on (g' := (mkF m 162 _ [(.int ((0 : Int32) + (3 : Int32))), (.ref aw)])) (fun t_ k_ => XS.iadd X0.here hx rfl (hb hby d5_161) rfl k_) ?_
  rw [show ((0 : Int32) + (3 : Int32)) = (3 : Int32) from by decide]
  refine Go.on (g' := (mkF m 163 _ [(.int (1 : Int32)), (.int (3 : Int32)), (.ref aw)])) (fun t_ k_ => XS.iconst X0.here hx rfl (hb hby d5_162) k_) ?_
  refine Go.on (g' := (mkF m 164 _ [(.int ((3 : Int32) - (1 : Int32))), (.ref aw)])) (fun t_ k_ => XS.isub X0.here hx rfl (hb hby d5_163) rfl k_) ?_
  rw [show ((3 : Int32) - (1 : Int32)) = (2 : Int32) from by decide]
  refine Go.on (g' := (mkF m 165 _ [(.int y2)])) (X0.iaload hx (j := (2 : Int32)) (v := (.int y2)) (by rw [e0]; exact AW.1) (State.isArrayOf_alike hZ.alike AW.2.1) AW.2.2 (by rw [HW.1]; decide) HW.2.2.2 (g := (mkF m 164 #[.val (.ref aw), .val (.int (1 : Int32)), .val (.int (3 : Int32)), .val (.ref ab), .val (.ref ar), .val (.int (1 : Int32)), .val (.int (3 : Int32)), .val (.int (7 : Int32)), x8] [(.int (2 : Int32)), (.ref aw)])) rfl rfl (hb hby d5_164)) ?_
  refine Go.on (g' := (mkF m 167 #[.val (.ref aw), .val (.int (1 : Int32)), .val (.int (3 : Int32)), .val (.ref ab), .val (.ref ar), .val (.int (1 : Int32)), .val (.int (3 : Int32)), .val (.int (7 : Int32)), .val (.int y2)] [])) (fun t_ k_ => XS.istore X0.here hx rfl (hb hby d5_165) rfl (l' := #[.val (.ref aw), .val (.int (1 : Int32)), .val (.int (3 : Int32)), .val (.ref ab), .val (.ref ar), .val (.int (1 : Int32)), .val (.int (3 : Int32)), .val (.int (7 : Int32)), .val (.int y2)]) (XS.store1 (o := x8) rfl O8 rfl) k_) ?_
  refine Go.on (g' := (mkF m 169 _ [(.int y2)])) (fun t_ k_ => XS.iload X0.here hx rfl (hb hby d5_167) rfl k_) ?_
  refine Go.join (P := fun _ : Unit => ¬ (0 < y2 ∧ b13 = (0 : Int32) + y2)) (g := fun _ => (mkF m 210 #[.val (.ref aw), .val (.int (1 : Int32)), .val (.int (3 : Int32)), .val (.ref ab), .val (.ref ar), .val (.int (1 : Int32)), .val (.int (3 : Int32)), .val (.int (7 : Int32)), .val (.int y2)] [])) (fun _ hJ210 => ?_) (fun J210 => ?_)
  · show Go p e below _ _ (mkF m 210 _ [])
    refine Go.on (g' := (mkF m 211 _ [(.ref ab)])) (fun t_ k_ => XS.aloadN X0.here hx rfl (hb hby d5_210) rfl rfl k_) ?_
    refine Go.on (g' := (mkF m 213 _ [(.int (7 : Int32)), (.ref ab)])) (fun t_ k_ => XS.iload X0.here hx rfl (hb hby d5_211) rfl k_) ?_
    refine Go.on (g' := (mkF m 214 _ [(.int b13)])) (X0.iaload hx (j := (7 : Int32)) (v := (.int b13)) (by rw [e0]; exact AB.1) (State.isArrayOf_alike hZ.alike AB.2.1) AB.2.2 (by rw [HB.1]; decide) HB.2.2.2.2.2.2.2.2 (g := (mkF m 213 #[.val (.ref aw), .val (.int (1 : Int32)), .val (.int (3 : Int32)), .val (.ref ab), .val (.ref ar), .val (.int (1 : Int32)), .val (.int (3 : Int32)), .val (.int (7 : Int32)), .val (.int y2)] [(.int (7 : Int32)), (.ref ab)])) rfl rfl (hb hby d5_213)) ?_
    refine Go.on (g' := (mkF m 215 _ [(.ref ab), (.int b13)])) (fun t_ k_ => XS.aloadN X0.here hx rfl (hb hby d5_214) rfl rfl k_) ?_
    refine Go.on (g' := (mkF m 217 _ [(.int (7 : Int32)), (.ref ab), (.int b13)])) (fun t_ k_ => XS.iload X0.here hx rfl (hb hby d5_215) rfl k_) ?_
    refine Go.on (g' := (mkF m 218 _ [(.int (3 : Int32)), (.int (7 : Int32)), (.ref ab), (.int b13)])) (fun t_ k_ => XS.iloadN X0.here hx rfl (hb hby d5_217) rfl k_) ?_
    refine Go.on (g' := (mkF m 219 _ [(.int ((7 : Int32) - (3 : Int32))), (.ref ab), (.int b13)])) (fun t_ k_ => XS.isub X0.here hx rfl (hb hby d5_218) rfl k_) ?_
    rw [show ((7 : Int32) - (3 : Int32)) = (4 : Int32) from by decide]
    refine Go.on (g' := (mkF m 220 _ [(.int (1 : Int32)), (.int (4 : Int32)), (.ref ab), (.int b13)])) (fun t_ k_ => XS.iconst X0.here hx rfl (hb hby d5_219) k_) ?_
    refine Go.on (g' := (mkF m 221 _ [(.int ((4 : Int32) - (1 : Int32))), (.ref ab), (.int b13)])) (fun t_ k_ => XS.isub X0.here hx rfl (hb hby d5_220) rfl k_) ?_
    rw [show ((4 : Int32) - (1 : Int32)) = (3 : Int32) from by decide]
    refine Go.on (g' := (mkF m 222 _ [(.int (0 : Int32)), (.int b13)])) (X0.iaload hx (j := (3 : Int32)) (v := (.int (0 : Int32))) (by rw [e0]; exact AB.1) (State.isArrayOf_alike hZ.alike AB.2.1) AB.2.2 (by rw [HB.1]; decide) HB.2.2.2.2.1 (g := (mkF m 221 #[.val (.ref aw), .val (.int (1 : Int32)), .val (.int (3 : Int32)), .val (.ref ab), .val (.ref ar), .val (.int (1 : Int32)), .val (.int (3 : Int32)), .val (.int (7 : Int32)), .val (.int y2)] [(.int (3 : Int32)), (.ref ab), (.int b13)])) rfl rfl (hb hby d5_221)) ?_
    refine Go.icmp X0 hx hby d5_222 (pcT := 231) (pcF := 225) (by decide) (by decide) rfl (fun q => ?_) (fun q => ?_)
    · have q1 := iNe.1 q
      clear q
      show Go p e below _ _ (mkF m 231 _ [])
      refine Go.on (g' := (mkF m 234 #[.val (.ref aw), .val (.int (1 : Int32)), .val (.int (3 : Int32)), .val (.ref ab), .val (.ref ar), .val (.int (1 : Int32)), .val (.int ((3 : Int32) + ((-1) : Int32))), .val (.int (7 : Int32)), .val (.int y2)] [])) (fun t_ k_ => XS.iinc X0.here hx rfl (hb hby d5_231) rfl (l' := #[.val (.ref aw), .val (.int (1 : Int32)), .val (.int (3 : Int32)), .val (.ref ab), .val (.ref ar), .val (.int (1 : Int32)), .val (.int ((3 : Int32) + ((-1) : Int32))), .val (.int (7 : Int32)), .val (.int y2)]) rfl k_) ?_
      rw [show ((3 : Int32) + ((-1) : Int32)) = (2 : Int32) from by decide]
      refine Go.on (g' := (mkF m 131 _ [])) (fun t_ k_ => XS.goto X0.here hx rfl (pc0 := 234) (pc' := 131) rfl (hb hby d5_234) (by decide) (by decide) k_) ?_
      rw [own_r13, if_neg hJ210, if_neg q1]
      exact nd13_1_2 l Z w0 hw ws aw ab ar p e s m below meth c h0 n0 T0 _ X0 hx hby hml hret hlk hZ _ e0 Z0 N0 EX0 nar mar nwr nbr cw AW y0 y1 y2 HW cb AB b11 b12 b13 HB _ AR SZ  H0 (.val (.int (7 : Int32))) (.val (.int y2)) (One.val rfl) (One.val rfl)
    · have q1 := iNe.2 q
      clear q
      show Go p e below _ _ (mkF m 225 _ [])
      refine Go.on (g' := (mkF m 228 #[.val (.ref aw), .val (.int (1 : Int32)), .val (.int (3 : Int32)), .val (.ref ab), .val (.ref ar), .val (.int ((1 : Int32) + ((-1) : Int32))), .val (.int (3 : Int32)), .val (.int (7 : Int32)), .val (.int y2)] [])) (fun t_ k_ => XS.iinc X0.here hx rfl (hb hby d5_225) rfl (l' := #[.val (.ref aw), .val (.int (1 : Int32)), .val (.int (3 : Int32)), .val (.ref ab), .val (.ref ar), .val (.int ((1 : Int32) + ((-1) : Int32))), .val (.int (3 : Int32)), .val (.int (7 : Int32)), .val (.int y2)]) rfl k_) ?_
      rw [show ((1 : Int32) + ((-1) : Int32)) = (0 : Int32) from by decide]
      refine Go.on (g' := (mkF m 234 _ [])) (fun t_ k_ => XS.goto X0.here hx rfl (pc0 := 228) (pc' := 234) rfl (hb hby d5_228) (by decide) (by decide) k_) ?_
      refine Go.on (g' := (mkF m 131 _ [])) (fun t_ k_ => XS.goto X0.here hx rfl (pc0 := 234) (pc' := 131) rfl (hb hby d5_234) (by decide) (by decide) k_) ?_
      refine Go.on (g' := (mkF m 133 _ [(.int (0 : Int32))])) (fun t_ k_ => XS.iload X0.here hx rfl (hb hby d5_131) rfl k_) ?_
      refine Go.ifc X0 hx hby d5_133 (pcT := 237) (pcF := 136) (by decide) (by decide) rfl (fun q => ?_) (fun q => absurd q (by decide))
      clear q
      show Go p e below _ _ (mkF m 237 _ [])
      refine Go.on (g' := (mkF m 239 _ [(.ref ar)])) (fun t_ k_ => XS.aload X0.here hx rfl (hb hby d5_237) rfl rfl k_) ?_
      exact Go.retA X0 hx hlk hret hby d5_239 rfl rfl (by decide) (by decide) (by rw [e0, own_r13, if_neg hJ210, if_pos q1]; exact ⟨ar, _, rfl, N0, EX0, mar, AR, SZ, H0⟩)
  · show Go p e below _ _ (mkF m 169 _ [(.int y2)])
    refine Go.ifc X0 hx hby d5_169 (pcT := 210) (pcF := 172) (by decide) (by decide) rfl (fun q => ?_) (fun q => ?_)
    · have q2 := iLe.1 q
      clear q
      show Go p e below _ _ (mkF m 210 _ [])
      exact J210 () (fun z => q2 z.1)
    · have q2 := iLe.2 q
      clear q
      show Go p e below _ _ (mkF m 172 _ [])
      refine Go.on (g' := (mkF m 173 _ [(.ref ab)])) (fun t_ k_ => XS.aloadN X0.here hx rfl (hb hby d5_172) rfl rfl k_) ?_
      refine Go.on (g' := (mkF m 175 _ [(.int (7 : Int32)), (.ref ab)])) (fun t_ k_ => XS.iload X0.here hx rfl (hb hby d5_173) rfl k_) ?_
      refine Go.on (g' := (mkF m 176 _ [(.int b13)])) (X0.iaload hx (j := (7 : Int32)) (v := (.int b13)) (by rw [e0]; exact AB.1) (State.isArrayOf_alike hZ.alike AB.2.1) AB.2.2 (by rw [HB.1]; decide) HB.2.2.2.2.2.2.2.2 (g := (mkF m 175 #[.val (.ref aw), .val (.int (1 : Int32)), .val (.int (3 : Int32)), .val (.ref ab), .val (.ref ar), .val (.int (1 : Int32)), .val (.int (3 : Int32)), .val (.int (7 : Int32)), .val (.int y2)] [(.int (7 : Int32)), (.ref ab)])) rfl rfl (hb hby d5_175)) ?_
      refine Go.on (g' := (mkF m 177 _ [(.ref ab), (.int b13)])) (fun t_ k_ => XS.aloadN X0.here hx rfl (hb hby d5_176) rfl rfl k_) ?_
      refine Go.on (g' := (mkF m 179 _ [(.int (7 : Int32)), (.ref ab), (.int b13)])) (fun t_ k_ => XS.iload X0.here hx rfl (hb hby d5_177) rfl k_) ?_
      refine Go.on (g' := (mkF m 180 _ [(.int (3 : Int32)), (.int (7 : Int32)), (.ref ab), (.int b13)])) (fun t_ k_ => XS.iloadN X0.here hx rfl (hb hby d5_179) rfl k_) ?_
      refine Go.on (g' := (mkF m 181 _ [(.int ((7 : Int32) - (3 : Int32))), (.ref ab), (.int b13)])) (fun t_ k_ => XS.isub X0.here hx rfl (hb hby d5_180) rfl k_) ?_
      rw [show ((7 : Int32) - (3 : Int32)) = (4 : Int32) from by decide]
      refine Go.on (g' := (mkF m 182 _ [(.int (2 : Int32)), (.int (4 : Int32)), (.ref ab), (.int b13)])) (fun t_ k_ => XS.iconst X0.here hx rfl (hb hby d5_181) k_) ?_
      refine Go.on (g' := (mkF m 183 _ [(.int ((4 : Int32) - (2 : Int32))), (.ref ab), (.int b13)])) (fun t_ k_ => XS.isub X0.here hx rfl (hb hby d5_182) rfl k_) ?_
      rw [show ((4 : Int32) - (2 : Int32)) = (2 : Int32) from by decide]
      refine Go.on (g' := (mkF m 184 _ [(.int (0 : Int32)), (.int b13)])) (X0.iaload hx (j := (2 : Int32)) (v := (.int (0 : Int32))) (by rw [e0]; exact AB.1) (State.isArrayOf_alike hZ.alike AB.2.1) AB.2.2 (by rw [HB.1]; decide) HB.2.2.2.1 (g := (mkF m 183 #[.val (.ref aw), .val (.int (1 : Int32)), .val (.int (3 : Int32)), .val (.ref ab), .val (.ref ar), .val (.int (1 : Int32)), .val (.int (3 : Int32)), .val (.int (7 : Int32)), .val (.int y2)] [(.int (2 : Int32)), (.ref ab), (.int b13)])) rfl rfl (hb hby d5_183)) ?_
      refine Go.on (g' := (mkF m 186 _ [(.int y2), (.int (0 : Int32)), (.int b13)])) (fun t_ k_ => XS.iload X0.here hx rfl (hb hby d5_184) rfl k_) ?_
      refine Go.on (g' := (mkF m 187 _ [(.int ((0 : Int32) + y2)), (.int b13)])) (fun t_ k_ => XS.iadd X0.here hx rfl (hb hby d5_186) rfl k_) ?_
      refine Go.icmp X0 hx hby d5_187 (pcT := 210) (pcF := 190) (by decide) (by decide) rfl (fun q => ?_) (fun q => ?_)
      · have q3 := iNe.1 q
        clear q
        show Go p e below _ _ (mkF m 210 _ [])
        exact J210 () (fun z => q3 z.2)
      · have q3 := iNe.2 q
        clear q
        show Go p e below _ _ (mkF m 190 _ [])
        refine Go.on (g' := (mkF m 192 _ [(.ref ar)])) (fun t_ k_ => XS.aload X0.here hx rfl (hb hby d5_190) rfl rfl k_) ?_
        refine Go.on (g' := (mkF m 194 _ [(.int (1 : Int32)), (.ref ar)])) (fun t_ k_ => XS.iload X0.here hx rfl (hb hby d5_192) rfl k_) ?_
        refine Go.on (g' := (mkF m 195 _ [(.int (1 : Int32)), (.int (1 : Int32)), (.ref ar)])) (fun t_ k_ => XS.iconst X0.here hx rfl (hb hby d5_194) k_) ?_
        refine Go.on (g' := (mkF m 196 _ [(.int ((1 : Int32) - (1 : Int32))), (.ref ar)])) (fun t_ k_ => XS.isub X0.here hx rfl (hb hby d5_195) rfl k_) ?_
        rw [show ((1 : Int32) - (1 : Int32)) = (0 : Int32) from by decide]
        refine Go.on (g' := (mkF m 198 _ [(.int (3 : Int32)), (.int (0 : Int32)), (.ref ar)])) (fun t_ k_ => XS.iload X0.here hx rfl (hb hby d5_196) rfl k_) ?_
        refine Go.on (g' := (mkF m 199 _ [(.int (1 : Int32)), (.int (3 : Int32)), (.int (0 : Int32)), (.ref ar)])) (fun t_ k_ => XS.iconst X0.here hx rfl (hb hby d5_198) k_) ?_
        refine Go.on (g' := (mkF m 200 _ [(.int ((3 : Int32) - (1 : Int32))), (.int (0 : Int32)), (.ref ar)])) (fun t_ k_ => XS.isub X0.here hx rfl (hb hby d5_199) rfl k_) ?_
        rw [show ((3 : Int32) - (1 : Int32)) = (2 : Int32) from by decide]
        have hi_200 : ¬ ((0 : Int32) < 0 ∨ cr.slots.size ≤ ((0 : Int32)).toNatClampNeg) := by rw [SZ]; decide
        obtain ⟨T1, h1, X1, e1, W1, st1⟩ := stI X0 hx hZ e0 AR (j := (0 : Int32)) hi_200 (g := (mkF m 200 #[.val (.ref aw), .val (.int (1 : Int32)), .val (.int (3 : Int32)), .val (.ref ab), .val (.ref ar), .val (.int (1 : Int32)), .val (.int (3 : Int32)), .val (.int (7 : Int32)), .val (.int y2)] [(.int (2 : Int32)), (.int (0 : Int32)), (.ref ar)])) rfl rfl (hb hby d5_200)
        have N1 := Fr.snoc X1 N0 nar
        have Z1 : n0 ≤ h1.size := by rw [W1.size]; exact Z0
        have arr_aw_1 := AW.other W1 nwr
        have arr_ab_1 := AB.other W1 nbr
        have EX_1 := extWr EX0 W1 mar
        have A1 := AR.same W1
        refine Go.on (g' := (mkF m 201 _ [])) (st1) ?_
        have sz1 := (sz_set cr ((0 : Int32)).toNatClampNeg (.int (2 : Int32))).trans SZ
        have hr0_1 := get_hit (v := .int (2 : Int32)) hi_200 (rfl : (0 : Int32) = (0 : Int32))
        refine Go.on (g' := (mkF m 204 #[.val (.ref aw), .val (.int (1 : Int32)), .val (.int (3 : Int32)), .val (.ref ab), .val (.ref ar), .val (.int ((1 : Int32) + ((-1) : Int32))), .val (.int (3 : Int32)), .val (.int (7 : Int32)), .val (.int y2)] [])) (fun t_ k_ => XS.iinc X1.here hx rfl (hb hby d5_201) rfl (l' := #[.val (.ref aw), .val (.int (1 : Int32)), .val (.int (3 : Int32)), .val (.ref ab), .val (.ref ar), .val (.int ((1 : Int32) + ((-1) : Int32))), .val (.int (3 : Int32)), .val (.int (7 : Int32)), .val (.int y2)]) rfl k_) ?_
        rw [show ((1 : Int32) + ((-1) : Int32)) = (0 : Int32) from by decide]
        refine Go.on (g' := (mkF m 207 #[.val (.ref aw), .val (.int (1 : Int32)), .val (.int (3 : Int32)), .val (.ref ab), .val (.ref ar), .val (.int (0 : Int32)), .val (.int ((3 : Int32) + ((-1) : Int32))), .val (.int (7 : Int32)), .val (.int y2)] [])) (fun t_ k_ => XS.iinc X1.here hx rfl (hb hby d5_204) rfl (l' := #[.val (.ref aw), .val (.int (1 : Int32)), .val (.int (3 : Int32)), .val (.ref ab), .val (.ref ar), .val (.int (0 : Int32)), .val (.int ((3 : Int32) + ((-1) : Int32))), .val (.int (7 : Int32)), .val (.int y2)]) rfl k_) ?_
        rw [show ((3 : Int32) + ((-1) : Int32)) = (2 : Int32) from by decide]
        refine Go.on (g' := (mkF m 234 _ [])) (fun t_ k_ => XS.goto X1.here hx rfl (pc0 := 207) (pc' := 234) rfl (hb hby d5_207) (by decide) (by decide) k_) ?_
        refine Go.on (g' := (mkF m 131 _ [])) (fun t_ k_ => XS.goto X1.here hx rfl (pc0 := 234) (pc' := 131) rfl (hb hby d5_234) (by decide) (by decide) k_) ?_
        refine Go.on (g' := (mkF m 133 _ [(.int (0 : Int32))])) (fun t_ k_ => XS.iload X1.here hx rfl (hb hby d5_131) rfl k_) ?_
        refine Go.ifc X1 hx hby d5_133 (pcT := 237) (pcF := 136) (by decide) (by decide) rfl (fun q => ?_) (fun q => absurd q (by decide))
        clear q
        show Go p e below _ _ (mkF m 237 _ [])
        refine Go.on (g' := (mkF m 239 _ [(.ref ar)])) (fun t_ k_ => XS.aload X1.here hx rfl (hb hby d5_237) rfl rfl k_) ?_
        exact Go.retA X1 hx hlk hret hby d5_239 rfl rfl (by decide) (by decide) (by rw [e1, own_r13, if_pos ⟨q2, q3⟩]; exact ⟨ar, _, rfl, N1, EX_1, mar, A1, sz1, hr0_1⟩)
set_option maxRecDepth 65536 in
set_option maxHeartbeats 40000000 in
theorem rmPr13 (l : Launch) (Z : State) (w0 : Array Value) (hw : ∀ d ∈ tables_1, d.before w0 Z = true) (ws : List Jvm.Cond) (aw : Addr) (h0 : Heap) (n0 : Nat) (Z0 : n0 ≤ h0.size) (cw : Cell) (AW : Arr Z h0 aw cw .int) (y0 y1 y2 : Int32) (HW : own_W13 cw y0 y1 y2) : Pact l Z (⟨"com/example/same_shape/sameshape/service/OrderedPairing", "pair", "([III)[I"⟩ : MethodName) prog_7_method_2_code 9 (some (.array .int)) ws ({ frames := 1, cells := 2, slots := 9, locals := 15 } : Room) #[.ref aw, .int (1 : Int32), .int (3 : Int32)] h0 (own_Q1 Z (own_p13 y0 y1 y2) h0 n0) := by
  refine Pact.intro (plainFor_of_name pnP) ?_
  intro p e s m below meth c T0 X0 hx hby hml hret hlk hown hnm hZ e0
  refine Go.at (efPr m aw (1 : Int32) (3 : Int32)) ?_
  have N0 := Fr.nil n0
  have EX0 : Ext h0 h0 := ⟨Nat.le_refl _, fun _ _ q => q⟩
  refine Go.on (g' := (mkF m 1 _ [(.int (1 : Int32))])) (fun t_ k_ => XS.iloadN X0.here hx rfl (hb hby d5_0) rfl k_) ?_
  refine Go.on (g' := (mkF m 2 _ [(.int (1 : Int32)), (.int (1 : Int32))])) (fun t_ k_ => XS.iconst X0.here hx rfl (hb hby d5_1) k_) ?_
  refine Go.on (g' := (mkF m 3 _ [(.int ((1 : Int32) + (1 : Int32)))])) (fun t_ k_ => XS.iadd X0.here hx rfl (hb hby d5_2) rfl k_) ?_
  rw [show ((1 : Int32) + (1 : Int32)) = (2 : Int32) from by decide]
  refine Go.on (g' := (mkF m 4 _ [(.int (3 : Int32)), (.int (2 : Int32))])) (fun t_ k_ => XS.iloadN X0.here hx rfl (hb hby d5_3) rfl k_) ?_
  refine Go.on (g' := (mkF m 5 _ [(.int (1 : Int32)), (.int (3 : Int32)), (.int (2 : Int32))])) (fun t_ k_ => XS.iconst X0.here hx rfl (hb hby d5_4) k_) ?_
  refine Go.on (g' := (mkF m 6 _ [(.int ((3 : Int32) + (1 : Int32))), (.int (2 : Int32))])) (fun t_ k_ => XS.iadd X0.here hx rfl (hb hby d5_5) rfl k_) ?_
  rw [show ((3 : Int32) + (1 : Int32)) = (4 : Int32) from by decide]
  refine Go.on (g' := (mkF m 7 _ [(.int ((2 : Int32) * (4 : Int32)))])) (fun t_ k_ => XS.imul X0.here hx rfl (hb hby d5_6) rfl k_) ?_
  rw [show ((2 : Int32) * (4 : Int32)) = (8 : Int32) from by decide]
  obtain ⟨T1, h1, cA1, X1, e1, E1, A1, st1⟩ := newP X0 hx hZ (hw _ (List.mem_of_getElem? (i := 0) rfl)) e0 (g := (mkF m 7 #[.val (.ref aw), .val (.int (1 : Int32)), .val (.int (3 : Int32)), .unset, .unset, .unset, .unset, .unset, .unset] [(.int (8 : Int32))])) rfl (hb hby d5_7) (n := (8 : Int32)) rfl (by decide) (cap := 8) (by decide) (by decide) (by decide) (by decide)
  obtain ⟨o1, go1⟩ : ∃ z, z = (h0).size := ⟨_, rfl⟩
  rw [← go1] at A1 st1
  have no1 : n0 ≤ o1 := Nat.le_trans Z0 (Nat.le_of_eq go1.symm)
  have Z1 : n0 ≤ h1.size := Nat.le_trans Z0 E1.1
  have EX_1 := extTrans EX0 E1
  have arr_aw_1 := AW.ext E1
  have mo1 : h0.size ≤ o1 := Nat.le_trans EX0.1 (Nat.le_of_eq go1.symm)
  have ne_aw_o1 : aw ≠ o1 := Nat.ne_of_lt (by rw [go1]; exact AW.lt)
  refine Go.on (g' := (mkF m 9 _ [(.ref o1)])) (st1) ?_
  refine Go.on (g' := (mkF m 10 #[.val (.ref aw), .val (.int (1 : Int32)), .val (.int (3 : Int32)), .val (.ref o1), .unset, .unset, .unset, .unset, .unset] [])) (fun t_ k_ => XS.astoreN X1.here hx rfl (hb hby d5_9) rfl rfl (l' := #[.val (.ref aw), .val (.int (1 : Int32)), .val (.int (3 : Int32)), .val (.ref o1), .unset, .unset, .unset, .unset, .unset]) rfl k_) ?_
  refine Go.on (g' := (mkF m 11 _ [(.int (1 : Int32))])) (fun t_ k_ => XS.iconst X1.here hx rfl (hb hby d5_10) k_) ?_
  refine Go.on (g' := (mkF m 13 #[.val (.ref aw), .val (.int (1 : Int32)), .val (.int (3 : Int32)), .val (.ref o1), .val (.int (1 : Int32)), .unset, .unset, .unset, .unset] [])) (fun t_ k_ => XS.istore X1.here hx rfl (hb hby d5_11) rfl (l' := #[.val (.ref aw), .val (.int (1 : Int32)), .val (.int (3 : Int32)), .val (.ref o1), .val (.int (1 : Int32)), .unset, .unset, .unset, .unset]) rfl k_) ?_
  refine Go.on (g' := (mkF m 15 _ [(.int (1 : Int32))])) (fun t_ k_ => XS.iload X1.here hx rfl (hb hby d5_13) rfl k_) ?_
  refine Go.on (g' := (mkF m 16 _ [(.int (1 : Int32)), (.int (1 : Int32))])) (fun t_ k_ => XS.iloadN X1.here hx rfl (hb hby d5_15) rfl k_) ?_
  refine Go.icmp X1 hx hby d5_16 (pcT := 114) (pcF := 19) (by decide) (by decide) rfl (fun q => absurd q (by decide)) (fun q => ?_)
  clear q
  show Go p e below _ _ (mkF m 19 _ [])
  refine Go.on (g' := (mkF m 20 _ [(.int (1 : Int32))])) (fun t_ k_ => XS.iconst X1.here hx rfl (hb hby d5_19) k_) ?_
  refine Go.on (g' := (mkF m 22 #[.val (.ref aw), .val (.int (1 : Int32)), .val (.int (3 : Int32)), .val (.ref o1), .val (.int (1 : Int32)), .val (.int (1 : Int32)), .unset, .unset, .unset] [])) (fun t_ k_ => XS.istore X1.here hx rfl (hb hby d5_20) rfl (l' := #[.val (.ref aw), .val (.int (1 : Int32)), .val (.int (3 : Int32)), .val (.ref o1), .val (.int (1 : Int32)), .val (.int (1 : Int32)), .unset, .unset, .unset]) rfl k_) ?_
  refine Go.on (g' := (mkF m 24 _ [(.int (1 : Int32))])) (fun t_ k_ => XS.iload X1.here hx rfl (hb hby d5_22) rfl k_) ?_
  refine Go.on (g' := (mkF m 25 _ [(.int (3 : Int32)), (.int (1 : Int32))])) (fun t_ k_ => XS.iloadN X1.here hx rfl (hb hby d5_24) rfl k_) ?_
  refine Go.icmp X1 hx hby d5_25 (pcT := 108) (pcF := 28) (by decide) (by decide) rfl (fun q => absurd q (by decide)) (fun q => ?_)
  clear q
  show Go p e below _ _ (mkF m 28 _ [])
  refine Go.on (g' := (mkF m 29 _ [(.ref aw)])) (fun t_ k_ => XS.aloadN X1.here hx rfl (hb hby d5_28) rfl rfl k_) ?_
  refine Go.on (g' := (mkF m 31 _ [(.int (1 : Int32)), (.ref aw)])) (fun t_ k_ => XS.iload X1.here hx rfl (hb hby d5_29) rfl k_) ?_
  refine Go.on (g' := (mkF m 32 _ [(.int (1 : Int32)), (.int (1 : Int32)), (.ref aw)])) (fun t_ k_ => XS.iconst X1.here hx rfl (hb hby d5_31) k_) ?_
  refine Go.on (g' := (mkF m 33 _ [(.int ((1 : Int32) - (1 : Int32))), (.ref aw)])) (fun t_ k_ => XS.isub X1.here hx rfl (hb hby d5_32) rfl k_) ?_
  rw [show ((1 : Int32) - (1 : Int32)) = (0 : Int32) from by decide]
  refine Go.on (g' := (mkF m 34 _ [(.int (3 : Int32)), (.int (0 : Int32)), (.ref aw)])) (fun t_ k_ => XS.iloadN X1.here hx rfl (hb hby d5_33) rfl k_) ?_
  refine Go.on (g' := (mkF m 35 _ [(.int ((0 : Int32) * (3 : Int32))), (.ref aw)])) (fun t_ k_ => XS.imul X1.here hx rfl (hb hby d5_34) rfl k_) ?_
  rw [show ((0 : Int32) * (3 : Int32)) = (0 : Int32) from by decide]
  refine Go.on (g' := (mkF m 37 _ [(.int (1 : Int32)), (.int (0 : Int32)), (.ref aw)])) (fun t_ k_ => XS.iload X1.here hx rfl (hb hby d5_35) rfl k_) ?_
  refine Go.on (g' := (mkF m 38 _ [(.int ((0 : Int32) + (1 : Int32))), (.ref aw)])) (fun t_ k_ => XS.iadd X1.here hx rfl (hb hby d5_37) rfl k_) ?_
  rw [show ((0 : Int32) + (1 : Int32)) = (1 : Int32) from by decide]
  refine Go.on (g' := (mkF m 39 _ [(.int (1 : Int32)), (.int (1 : Int32)), (.ref aw)])) (fun t_ k_ => XS.iconst X1.here hx rfl (hb hby d5_38) k_) ?_
  refine Go.on (g' := (mkF m 40 _ [(.int ((1 : Int32) - (1 : Int32))), (.ref aw)])) (fun t_ k_ => XS.isub X1.here hx rfl (hb hby d5_39) rfl k_) ?_
  rw [show ((1 : Int32) - (1 : Int32)) = (0 : Int32) from by decide]
  refine Go.on (g' := (mkF m 41 _ [(.int y0)])) (X1.iaload hx (j := (0 : Int32)) (v := (.int y0)) (by rw [e1]; exact arr_aw_1.1) (State.isArrayOf_alike hZ.alike arr_aw_1.2.1) arr_aw_1.2.2 (by rw [HW.1]; decide) HW.2.1 (g := (mkF m 40 #[.val (.ref aw), .val (.int (1 : Int32)), .val (.int (3 : Int32)), .val (.ref o1), .val (.int (1 : Int32)), .val (.int (1 : Int32)), .unset, .unset, .unset] [(.int (0 : Int32)), (.ref aw)])) rfl rfl (hb hby d5_40)) ?_
  refine Go.on (g' := (mkF m 43 #[.val (.ref aw), .val (.int (1 : Int32)), .val (.int (3 : Int32)), .val (.ref o1), .val (.int (1 : Int32)), .val (.int (1 : Int32)), .val (.int y0), .unset, .unset] [])) (fun t_ k_ => XS.istore X1.here hx rfl (hb hby d5_41) rfl (l' := #[.val (.ref aw), .val (.int (1 : Int32)), .val (.int (3 : Int32)), .val (.ref o1), .val (.int (1 : Int32)), .val (.int (1 : Int32)), .val (.int y0), .unset, .unset]) rfl k_) ?_
  refine Go.on (g' := (mkF m 45 _ [(.int (1 : Int32))])) (fun t_ k_ => XS.iload X1.here hx rfl (hb hby d5_43) rfl k_) ?_
  refine Go.on (g' := (mkF m 46 _ [(.int (3 : Int32)), (.int (1 : Int32))])) (fun t_ k_ => XS.iloadN X1.here hx rfl (hb hby d5_45) rfl k_) ?_
  refine Go.on (g' := (mkF m 47 _ [(.int (1 : Int32)), (.int (3 : Int32)), (.int (1 : Int32))])) (fun t_ k_ => XS.iconst X1.here hx rfl (hb hby d5_46) k_) ?_
  refine Go.on (g' := (mkF m 48 _ [(.int ((3 : Int32) + (1 : Int32))), (.int (1 : Int32))])) (fun t_ k_ => XS.iadd X1.here hx rfl (hb hby d5_47) rfl k_) ?_
  rw [show ((3 : Int32) + (1 : Int32)) = (4 : Int32) from by decide]
  refine Go.on (g' := (mkF m 49 _ [(.int ((1 : Int32) * (4 : Int32)))])) (fun t_ k_ => XS.imul X1.here hx rfl (hb hby d5_48) rfl k_) ?_
  rw [show ((1 : Int32) * (4 : Int32)) = (4 : Int32) from by decide]
  refine Go.on (g' := (mkF m 51 _ [(.int (1 : Int32)), (.int (4 : Int32))])) (fun t_ k_ => XS.iload X1.here hx rfl (hb hby d5_49) rfl k_) ?_
  refine Go.on (g' := (mkF m 52 _ [(.int ((4 : Int32) + (1 : Int32)))])) (fun t_ k_ => XS.iadd X1.here hx rfl (hb hby d5_51) rfl k_) ?_
  rw [show ((4 : Int32) + (1 : Int32)) = (5 : Int32) from by decide]
  refine Go.on (g' := (mkF m 54 #[.val (.ref aw), .val (.int (1 : Int32)), .val (.int (3 : Int32)), .val (.ref o1), .val (.int (1 : Int32)), .val (.int (1 : Int32)), .val (.int y0), .val (.int (5 : Int32)), .unset] [])) (fun t_ k_ => XS.istore X1.here hx rfl (hb hby d5_52) rfl (l' := #[.val (.ref aw), .val (.int (1 : Int32)), .val (.int (3 : Int32)), .val (.ref o1), .val (.int (1 : Int32)), .val (.int (1 : Int32)), .val (.int y0), .val (.int (5 : Int32)), .unset]) rfl k_) ?_
  refine Go.on (g' := (mkF m 55 _ [(.ref o1)])) (fun t_ k_ => XS.aloadN X1.here hx rfl (hb hby d5_54) rfl rfl k_) ?_
  refine Go.on (g' := (mkF m 57 _ [(.int (5 : Int32)), (.ref o1)])) (fun t_ k_ => XS.iload X1.here hx rfl (hb hby d5_55) rfl k_) ?_
  refine Go.on (g' := (mkF m 58 _ [(.int (3 : Int32)), (.int (5 : Int32)), (.ref o1)])) (fun t_ k_ => XS.iloadN X1.here hx rfl (hb hby d5_57) rfl k_) ?_
  refine Go.on (g' := (mkF m 59 _ [(.int ((5 : Int32) - (3 : Int32))), (.ref o1)])) (fun t_ k_ => XS.isub X1.here hx rfl (hb hby d5_58) rfl k_) ?_
  rw [show ((5 : Int32) - (3 : Int32)) = (2 : Int32) from by decide]
  refine Go.on (g' := (mkF m 60 _ [(.int (1 : Int32)), (.int (2 : Int32)), (.ref o1)])) (fun t_ k_ => XS.iconst X1.here hx rfl (hb hby d5_59) k_) ?_
  refine Go.on (g' := (mkF m 61 _ [(.int ((2 : Int32) - (1 : Int32))), (.ref o1)])) (fun t_ k_ => XS.isub X1.here hx rfl (hb hby d5_60) rfl k_) ?_
  rw [show ((2 : Int32) - (1 : Int32)) = (1 : Int32) from by decide]
  refine Go.on (g' := (mkF m 62 _ [(.int (0 : Int32))])) (X1.iaload hx (j := (1 : Int32)) (v := (.int (0 : Int32))) (by rw [e1]; exact A1.1) (State.isArrayOf_alike hZ.alike A1.2.1) A1.2.2 (by simp only [sz_set, sz_new]; decide) rfl (g := (mkF m 61 #[.val (.ref aw), .val (.int (1 : Int32)), .val (.int (3 : Int32)), .val (.ref o1), .val (.int (1 : Int32)), .val (.int (1 : Int32)), .val (.int y0), .val (.int (5 : Int32)), .unset] [(.int (1 : Int32)), (.ref o1)])) rfl rfl (hb hby d5_61)) ?_
  refine Go.on (g' := (mkF m 63 _ [(.ref o1), (.int (0 : Int32))])) (fun t_ k_ => XS.aloadN X1.here hx rfl (hb hby d5_62) rfl rfl k_) ?_
  refine Go.on (g' := (mkF m 65 _ [(.int (5 : Int32)), (.ref o1), (.int (0 : Int32))])) (fun t_ k_ => XS.iload X1.here hx rfl (hb hby d5_63) rfl k_) ?_
  refine Go.on (g' := (mkF m 66 _ [(.int (1 : Int32)), (.int (5 : Int32)), (.ref o1), (.int (0 : Int32))])) (fun t_ k_ => XS.iconst X1.here hx rfl (hb hby d5_65) k_) ?_
  refine Go.on (g' := (mkF m 67 _ [(.int ((5 : Int32) - (1 : Int32))), (.ref o1), (.int (0 : Int32))])) (fun t_ k_ => XS.isub X1.here hx rfl (hb hby d5_66) rfl k_) ?_
  rw [show ((5 : Int32) - (1 : Int32)) = (4 : Int32) from by decide]
  refine Go.on (g' := (mkF m 68 _ [(.int (0 : Int32)), (.int (0 : Int32))])) (X1.iaload hx (j := (4 : Int32)) (v := (.int (0 : Int32))) (by rw [e1]; exact A1.1) (State.isArrayOf_alike hZ.alike A1.2.1) A1.2.2 (by simp only [sz_set, sz_new]; decide) rfl (g := (mkF m 67 #[.val (.ref aw), .val (.int (1 : Int32)), .val (.int (3 : Int32)), .val (.ref o1), .val (.int (1 : Int32)), .val (.int (1 : Int32)), .val (.int y0), .val (.int (5 : Int32)), .unset] [(.int (4 : Int32)), (.ref o1), (.int (0 : Int32))])) rfl rfl (hb hby d5_67)) ?_
  refine Go.callS X1 hx hZ hby (by rw [hml]; rfl) (y := (⟨"java/lang/Math", "max", "(II)I"⟩ : MethodName)) hown (hw _ (List.mem_of_getElem? (i := 19) rfl)) (hw _ (List.mem_of_getElem? (i := 9) rfl)) (hw _ (List.mem_of_getElem? (i := 10) rfl)) (hw _ (List.mem_of_getElem? (i := 11) rfl)) (by decide) (argsL := [(.int (0 : Int32)), (.int (0 : Int32))]) (rest := []) (rmM l Z w0 hw [] (0 : Int32) (0 : Int32) h1) e1 0 (by decide) (by decide) (by decide) (by decide) rfl pdM rfl (Nat.le_of_eq rfl) d5_68 (pcF := 71) rfl ?_
  intro v2 T2 L2 X2 hQ2
  obtain ⟨rfl, rfl, e2⟩ := hQ2
  rw [List.append_nil] at X2
  show Go p e below _ _ (mkF m 71 _ [(.int (own_max (0 : Int32) (0 : Int32)))])
  refine Go.on (g' := (mkF m 73 #[.val (.ref aw), .val (.int (1 : Int32)), .val (.int (3 : Int32)), .val (.ref o1), .val (.int (1 : Int32)), .val (.int (1 : Int32)), .val (.int y0), .val (.int (5 : Int32)), .val (.int (own_max (0 : Int32) (0 : Int32)))] [])) (fun t_ k_ => XS.istore X2.here hx rfl (hb hby d5_71) rfl (l' := #[.val (.ref aw), .val (.int (1 : Int32)), .val (.int (3 : Int32)), .val (.ref o1), .val (.int (1 : Int32)), .val (.int (1 : Int32)), .val (.int y0), .val (.int (5 : Int32)), .val (.int (own_max (0 : Int32) (0 : Int32)))]) rfl k_) ?_
  refine Go.joinV (P := fun b11 : Int32 => b11 = own_cell y0 (own_max (0 : Int32) (0 : Int32)) (0 : Int32)) (g := fun b11 => (mkF m 96 #[.val (.ref aw), .val (.int (1 : Int32)), .val (.int (3 : Int32)), .val (.ref o1), .val (.int (1 : Int32)), .val (.int (1 : Int32)), .val (.int y0), .val (.int (5 : Int32)), .val (.int b11)] [])) X2 e2 (fun T3 b11 X3 e3 hb11 => ?_) (fun J => ?_)
  · have hc11 : own_c11 y0 = b11 := by rw [hb11, own_c11]
    show Go p e below _ _ (mkF m 96 _ [])
    refine Go.on (g' := (mkF m 97 _ [(.ref o1)])) (fun t_ k_ => XS.aloadN X3.here hx rfl (hb hby d5_96) rfl rfl k_) ?_
    refine Go.on (g' := (mkF m 99 _ [(.int (5 : Int32)), (.ref o1)])) (fun t_ k_ => XS.iload X3.here hx rfl (hb hby d5_97) rfl k_) ?_
    refine Go.on (g' := (mkF m 101 _ [(.int b11), (.int (5 : Int32)), (.ref o1)])) (fun t_ k_ => XS.iload X3.here hx rfl (hb hby d5_99) rfl k_) ?_
    obtain ⟨T4, h4, X4, e4, W4, st4⟩ := stI X3 hx hZ e3 A1 (j := (5 : Int32)) (by simp only [sz_set, sz_new]; decide) (g := (mkF m 101 #[.val (.ref aw), .val (.int (1 : Int32)), .val (.int (3 : Int32)), .val (.ref o1), .val (.int (1 : Int32)), .val (.int (1 : Int32)), .val (.int y0), .val (.int (5 : Int32)), .val (.int b11)] [(.int b11), (.int (5 : Int32)), (.ref o1)])) rfl rfl (hb hby d5_101)
    have N4 := Fr.snoc X4 N0 no1
    have Z4 : n0 ≤ h4.size := by rw [W4.size]; exact Z1
    have EX_4 := extWr EX_1 W4 mo1
    have arr_aw_4 := arr_aw_1.other W4 ne_aw_o1
    have A4 := A1.same W4
    refine Go.on (g' := (mkF m 102 _ [])) (st4) ?_
    refine Go.on (g' := (mkF m 105 #[.val (.ref aw), .val (.int (1 : Int32)), .val (.int (3 : Int32)), .val (.ref o1), .val (.int (1 : Int32)), .val (.int ((1 : Int32) + (1 : Int32))), .val (.int y0), .val (.int (5 : Int32)), .val (.int b11)] [])) (fun t_ k_ => XS.iinc X4.here hx rfl (hb hby d5_102) rfl (l' := #[.val (.ref aw), .val (.int (1 : Int32)), .val (.int (3 : Int32)), .val (.ref o1), .val (.int (1 : Int32)), .val (.int ((1 : Int32) + (1 : Int32))), .val (.int y0), .val (.int (5 : Int32)), .val (.int b11)]) rfl k_) ?_
    rw [show ((1 : Int32) + (1 : Int32)) = (2 : Int32) from by decide]
    refine Go.on (g' := (mkF m 22 _ [])) (fun t_ k_ => XS.goto X4.here hx rfl (pc0 := 105) (pc' := 22) rfl (hb hby d5_105) (by decide) (by decide) k_) ?_
    refine Go.on (g' := (mkF m 24 _ [(.int (2 : Int32))])) (fun t_ k_ => XS.iload X4.here hx rfl (hb hby d5_22) rfl k_) ?_
    refine Go.on (g' := (mkF m 25 _ [(.int (3 : Int32)), (.int (2 : Int32))])) (fun t_ k_ => XS.iloadN X4.here hx rfl (hb hby d5_24) rfl k_) ?_
    refine Go.icmp X4 hx hby d5_25 (pcT := 108) (pcF := 28) (by decide) (by decide) rfl (fun q => absurd q (by decide)) (fun q => ?_)
    clear q
    show Go p e below _ _ (mkF m 28 _ [])
    refine Go.on (g' := (mkF m 29 _ [(.ref aw)])) (fun t_ k_ => XS.aloadN X4.here hx rfl (hb hby d5_28) rfl rfl k_) ?_
    refine Go.on (g' := (mkF m 31 _ [(.int (1 : Int32)), (.ref aw)])) (fun t_ k_ => XS.iload X4.here hx rfl (hb hby d5_29) rfl k_) ?_
    refine Go.on (g' := (mkF m 32 _ [(.int (1 : Int32)), (.int (1 : Int32)), (.ref aw)])) (fun t_ k_ => XS.iconst X4.here hx rfl (hb hby d5_31) k_) ?_
    refine Go.on (g' := (mkF m 33 _ [(.int ((1 : Int32) - (1 : Int32))), (.ref aw)])) (fun t_ k_ => XS.isub X4.here hx rfl (hb hby d5_32) rfl k_) ?_
    rw [show ((1 : Int32) - (1 : Int32)) = (0 : Int32) from by decide]
    refine Go.on (g' := (mkF m 34 _ [(.int (3 : Int32)), (.int (0 : Int32)), (.ref aw)])) (fun t_ k_ => XS.iloadN X4.here hx rfl (hb hby d5_33) rfl k_) ?_
    refine Go.on (g' := (mkF m 35 _ [(.int ((0 : Int32) * (3 : Int32))), (.ref aw)])) (fun t_ k_ => XS.imul X4.here hx rfl (hb hby d5_34) rfl k_) ?_
    rw [show ((0 : Int32) * (3 : Int32)) = (0 : Int32) from by decide]
    refine Go.on (g' := (mkF m 37 _ [(.int (2 : Int32)), (.int (0 : Int32)), (.ref aw)])) (fun t_ k_ => XS.iload X4.here hx rfl (hb hby d5_35) rfl k_) ?_
    refine Go.on (g' := (mkF m 38 _ [(.int ((0 : Int32) + (2 : Int32))), (.ref aw)])) (fun t_ k_ => XS.iadd X4.here hx rfl (hb hby d5_37) rfl k_) ?_
    rw [show ((0 : Int32) + (2 : Int32)) = (2 : Int32) from by decide]
    refine Go.on (g' := (mkF m 39 _ [(.int (1 : Int32)), (.int (2 : Int32)), (.ref aw)])) (fun t_ k_ => XS.iconst X4.here hx rfl (hb hby d5_38) k_) ?_
    refine Go.on (g' := (mkF m 40 _ [(.int ((2 : Int32) - (1 : Int32))), (.ref aw)])) (fun t_ k_ => XS.isub X4.here hx rfl (hb hby d5_39) rfl k_) ?_
    rw [show ((2 : Int32) - (1 : Int32)) = (1 : Int32) from by decide]
    refine Go.on (g' := (mkF m 41 _ [(.int y1)])) (X4.iaload hx (j := (1 : Int32)) (v := (.int y1)) (by rw [e4]; exact arr_aw_4.1) (State.isArrayOf_alike hZ.alike arr_aw_4.2.1) arr_aw_4.2.2 (by rw [HW.1]; decide) HW.2.2.1 (g := (mkF m 40 #[.val (.ref aw), .val (.int (1 : Int32)), .val (.int (3 : Int32)), .val (.ref o1), .val (.int (1 : Int32)), .val (.int (2 : Int32)), .val (.int y0), .val (.int (5 : Int32)), .val (.int b11)] [(.int (1 : Int32)), (.ref aw)])) rfl rfl (hb hby d5_40)) ?_
    refine Go.on (g' := (mkF m 43 #[.val (.ref aw), .val (.int (1 : Int32)), .val (.int (3 : Int32)), .val (.ref o1), .val (.int (1 : Int32)), .val (.int (2 : Int32)), .val (.int y1), .val (.int (5 : Int32)), .val (.int b11)] [])) (fun t_ k_ => XS.istore X4.here hx rfl (hb hby d5_41) rfl (l' := #[.val (.ref aw), .val (.int (1 : Int32)), .val (.int (3 : Int32)), .val (.ref o1), .val (.int (1 : Int32)), .val (.int (2 : Int32)), .val (.int y1), .val (.int (5 : Int32)), .val (.int b11)]) rfl k_) ?_
    refine Go.on (g' := (mkF m 45 _ [(.int (1 : Int32))])) (fun t_ k_ => XS.iload X4.here hx rfl (hb hby d5_43) rfl k_) ?_
    refine Go.on (g' := (mkF m 46 _ [(.int (3 : Int32)), (.int (1 : Int32))])) (fun t_ k_ => XS.iloadN X4.here hx rfl (hb hby d5_45) rfl k_) ?_
    refine Go.on (g' := (mkF m 47 _ [(.int (1 : Int32)), (.int (3 : Int32)), (.int (1 : Int32))])) (fun t_ k_ => XS.iconst X4.here hx rfl (hb hby d5_46) k_) ?_
    refine Go.on (g' := (mkF m 48 _ [(.int ((3 : Int32) + (1 : Int32))), (.int (1 : Int32))])) (fun t_ k_ => XS.iadd X4.here hx rfl (hb hby d5_47) rfl k_) ?_
    rw [show ((3 : Int32) + (1 : Int32)) = (4 : Int32) from by decide]
    refine Go.on (g' := (mkF m 49 _ [(.int ((1 : Int32) * (4 : Int32)))])) (fun t_ k_ => XS.imul X4.here hx rfl (hb hby d5_48) rfl k_) ?_
    rw [show ((1 : Int32) * (4 : Int32)) = (4 : Int32) from by decide]
    refine Go.on (g' := (mkF m 51 _ [(.int (2 : Int32)), (.int (4 : Int32))])) (fun t_ k_ => XS.iload X4.here hx rfl (hb hby d5_49) rfl k_) ?_
    refine Go.on (g' := (mkF m 52 _ [(.int ((4 : Int32) + (2 : Int32)))])) (fun t_ k_ => XS.iadd X4.here hx rfl (hb hby d5_51) rfl k_) ?_
    rw [show ((4 : Int32) + (2 : Int32)) = (6 : Int32) from by decide]
    refine Go.on (g' := (mkF m 54 #[.val (.ref aw), .val (.int (1 : Int32)), .val (.int (3 : Int32)), .val (.ref o1), .val (.int (1 : Int32)), .val (.int (2 : Int32)), .val (.int y1), .val (.int (6 : Int32)), .val (.int b11)] [])) (fun t_ k_ => XS.istore X4.here hx rfl (hb hby d5_52) rfl (l' := #[.val (.ref aw), .val (.int (1 : Int32)), .val (.int (3 : Int32)), .val (.ref o1), .val (.int (1 : Int32)), .val (.int (2 : Int32)), .val (.int y1), .val (.int (6 : Int32)), .val (.int b11)]) rfl k_) ?_
    refine Go.on (g' := (mkF m 55 _ [(.ref o1)])) (fun t_ k_ => XS.aloadN X4.here hx rfl (hb hby d5_54) rfl rfl k_) ?_
    refine Go.on (g' := (mkF m 57 _ [(.int (6 : Int32)), (.ref o1)])) (fun t_ k_ => XS.iload X4.here hx rfl (hb hby d5_55) rfl k_) ?_
    refine Go.on (g' := (mkF m 58 _ [(.int (3 : Int32)), (.int (6 : Int32)), (.ref o1)])) (fun t_ k_ => XS.iloadN X4.here hx rfl (hb hby d5_57) rfl k_) ?_
    refine Go.on (g' := (mkF m 59 _ [(.int ((6 : Int32) - (3 : Int32))), (.ref o1)])) (fun t_ k_ => XS.isub X4.here hx rfl (hb hby d5_58) rfl k_) ?_
    rw [show ((6 : Int32) - (3 : Int32)) = (3 : Int32) from by decide]
    refine Go.on (g' := (mkF m 60 _ [(.int (1 : Int32)), (.int (3 : Int32)), (.ref o1)])) (fun t_ k_ => XS.iconst X4.here hx rfl (hb hby d5_59) k_) ?_
    refine Go.on (g' := (mkF m 61 _ [(.int ((3 : Int32) - (1 : Int32))), (.ref o1)])) (fun t_ k_ => XS.isub X4.here hx rfl (hb hby d5_60) rfl k_) ?_
    rw [show ((3 : Int32) - (1 : Int32)) = (2 : Int32) from by decide]
    refine Go.on (g' := (mkF m 62 _ [(.int (0 : Int32))])) (X4.iaload hx (j := (2 : Int32)) (v := (.int (0 : Int32))) (by rw [e4]; exact A4.1) (State.isArrayOf_alike hZ.alike A4.2.1) A4.2.2 (by simp only [sz_set, sz_new]; decide) rfl (g := (mkF m 61 #[.val (.ref aw), .val (.int (1 : Int32)), .val (.int (3 : Int32)), .val (.ref o1), .val (.int (1 : Int32)), .val (.int (2 : Int32)), .val (.int y1), .val (.int (6 : Int32)), .val (.int b11)] [(.int (2 : Int32)), (.ref o1)])) rfl rfl (hb hby d5_61)) ?_
    refine Go.on (g' := (mkF m 63 _ [(.ref o1), (.int (0 : Int32))])) (fun t_ k_ => XS.aloadN X4.here hx rfl (hb hby d5_62) rfl rfl k_) ?_
    refine Go.on (g' := (mkF m 65 _ [(.int (6 : Int32)), (.ref o1), (.int (0 : Int32))])) (fun t_ k_ => XS.iload X4.here hx rfl (hb hby d5_63) rfl k_) ?_
    refine Go.on (g' := (mkF m 66 _ [(.int (1 : Int32)), (.int (6 : Int32)), (.ref o1), (.int (0 : Int32))])) (fun t_ k_ => XS.iconst X4.here hx rfl (hb hby d5_65) k_) ?_
    refine Go.on (g' := (mkF m 67 _ [(.int ((6 : Int32) - (1 : Int32))), (.ref o1), (.int (0 : Int32))])) (fun t_ k_ => XS.isub X4.here hx rfl (hb hby d5_66) rfl k_) ?_
    rw [show ((6 : Int32) - (1 : Int32)) = (5 : Int32) from by decide]
    refine Go.on (g' := (mkF m 68 _ [(.int b11), (.int (0 : Int32))])) (X4.iaload hx (j := (5 : Int32)) (v := (.int b11)) (by rw [e4]; exact A4.1) (State.isArrayOf_alike hZ.alike A4.2.1) A4.2.2 (by simp only [sz_set, sz_new]; decide) rfl (g := (mkF m 67 #[.val (.ref aw), .val (.int (1 : Int32)), .val (.int (3 : Int32)), .val (.ref o1), .val (.int (1 : Int32)), .val (.int (2 : Int32)), .val (.int y1), .val (.int (6 : Int32)), .val (.int b11)] [(.int (5 : Int32)), (.ref o1), (.int (0 : Int32))])) rfl rfl (hb hby d5_67)) ?_
    refine Go.callS X4 hx hZ hby (by rw [hml]; rfl) (y := (⟨"java/lang/Math", "max", "(II)I"⟩ : MethodName)) hown (hw _ (List.mem_of_getElem? (i := 19) rfl)) (hw _ (List.mem_of_getElem? (i := 9) rfl)) (hw _ (List.mem_of_getElem? (i := 10) rfl)) (hw _ (List.mem_of_getElem? (i := 11) rfl)) (by decide) (argsL := [(.int (0 : Int32)), (.int b11)]) (rest := []) (rmM l Z w0 hw [] (0 : Int32) b11 h4) e4 0 (by decide) (by decide) (by decide) (by decide) rfl pdM rfl (Nat.le_of_eq rfl) d5_68 (pcF := 71) rfl ?_
    intro v5 T5 L5 X5 hQ5
    obtain ⟨rfl, rfl, e5⟩ := hQ5
    rw [List.append_nil] at X5
    show Go p e below _ _ (mkF m 71 _ [(.int (own_max (0 : Int32) b11))])
    refine Go.on (g' := (mkF m 73 #[.val (.ref aw), .val (.int (1 : Int32)), .val (.int (3 : Int32)), .val (.ref o1), .val (.int (1 : Int32)), .val (.int (2 : Int32)), .val (.int y1), .val (.int (6 : Int32)), .val (.int (own_max (0 : Int32) b11))] [])) (fun t_ k_ => XS.istore X5.here hx rfl (hb hby d5_71) rfl (l' := #[.val (.ref aw), .val (.int (1 : Int32)), .val (.int (3 : Int32)), .val (.ref o1), .val (.int (1 : Int32)), .val (.int (2 : Int32)), .val (.int y1), .val (.int (6 : Int32)), .val (.int (own_max (0 : Int32) b11))]) rfl k_) ?_
    refine Go.joinV (P := fun b12 : Int32 => b12 = own_cell y1 (own_max (0 : Int32) b11) (0 : Int32)) (g := fun b12 => (mkF m 96 #[.val (.ref aw), .val (.int (1 : Int32)), .val (.int (3 : Int32)), .val (.ref o1), .val (.int (1 : Int32)), .val (.int (2 : Int32)), .val (.int y1), .val (.int (6 : Int32)), .val (.int b12)] [])) X5 e5 (fun T6 b12 X6 e6 hb12 => ?_) (fun J => ?_)
    · have hc12 : own_c12 y0 y1 = b12 := by rw [hb12, own_c12, hc11]
      show Go p e below _ _ (mkF m 96 _ [])
      refine Go.on (g' := (mkF m 97 _ [(.ref o1)])) (fun t_ k_ => XS.aloadN X6.here hx rfl (hb hby d5_96) rfl rfl k_) ?_
      refine Go.on (g' := (mkF m 99 _ [(.int (6 : Int32)), (.ref o1)])) (fun t_ k_ => XS.iload X6.here hx rfl (hb hby d5_97) rfl k_) ?_
      refine Go.on (g' := (mkF m 101 _ [(.int b12), (.int (6 : Int32)), (.ref o1)])) (fun t_ k_ => XS.iload X6.here hx rfl (hb hby d5_99) rfl k_) ?_
      obtain ⟨T7, h7, X7, e7, W7, st7⟩ := stI X6 hx hZ e6 A4 (j := (6 : Int32)) (by simp only [sz_set, sz_new]; decide) (g := (mkF m 101 #[.val (.ref aw), .val (.int (1 : Int32)), .val (.int (3 : Int32)), .val (.ref o1), .val (.int (1 : Int32)), .val (.int (2 : Int32)), .val (.int y1), .val (.int (6 : Int32)), .val (.int b12)] [(.int b12), (.int (6 : Int32)), (.ref o1)])) rfl rfl (hb hby d5_101)
      have N7 := Fr.snoc X7 N4 no1
      have Z7 : n0 ≤ h7.size := by rw [W7.size]; exact Z4
      have EX_7 := extWr EX_4 W7 mo1
      have arr_aw_7 := arr_aw_4.other W7 ne_aw_o1
      have A7 := A4.same W7
      refine Go.on (g' := (mkF m 102 _ [])) (st7) ?_
      refine Go.on (g' := (mkF m 105 #[.val (.ref aw), .val (.int (1 : Int32)), .val (.int (3 : Int32)), .val (.ref o1), .val (.int (1 : Int32)), .val (.int ((2 : Int32) + (1 : Int32))), .val (.int y1), .val (.int (6 : Int32)), .val (.int b12)] [])) (fun t_ k_ => XS.iinc X7.here hx rfl (hb hby d5_102) rfl (l' := #[.val (.ref aw), .val (.int (1 : Int32)), .val (.int (3 : Int32)), .val (.ref o1), .val (.int (1 : Int32)), .val (.int ((2 : Int32) + (1 : Int32))), .val (.int y1), .val (.int (6 : Int32)), .val (.int b12)]) rfl k_) ?_
      rw [show ((2 : Int32) + (1 : Int32)) = (3 : Int32) from by decide]
      refine Go.on (g' := (mkF m 22 _ [])) (fun t_ k_ => XS.goto X7.here hx rfl (pc0 := 105) (pc' := 22) rfl (hb hby d5_105) (by decide) (by decide) k_) ?_
      refine Go.on (g' := (mkF m 24 _ [(.int (3 : Int32))])) (fun t_ k_ => XS.iload X7.here hx rfl (hb hby d5_22) rfl k_) ?_
      refine Go.on (g' := (mkF m 25 _ [(.int (3 : Int32)), (.int (3 : Int32))])) (fun t_ k_ => XS.iloadN X7.here hx rfl (hb hby d5_24) rfl k_) ?_
      refine Go.icmp X7 hx hby d5_25 (pcT := 108) (pcF := 28) (by decide) (by decide) rfl (fun q => absurd q (by decide)) (fun q => ?_)
      clear q
      show Go p e below _ _ (mkF m 28 _ [])
      refine Go.on (g' := (mkF m 29 _ [(.ref aw)])) (fun t_ k_ => XS.aloadN X7.here hx rfl (hb hby d5_28) rfl rfl k_) ?_
      refine Go.on (g' := (mkF m 31 _ [(.int (1 : Int32)), (.ref aw)])) (fun t_ k_ => XS.iload X7.here hx rfl (hb hby d5_29) rfl k_) ?_
      refine Go.on (g' := (mkF m 32 _ [(.int (1 : Int32)), (.int (1 : Int32)), (.ref aw)])) (fun t_ k_ => XS.iconst X7.here hx rfl (hb hby d5_31) k_) ?_
      refine Go.on (g' := (mkF m 33 _ [(.int ((1 : Int32) - (1 : Int32))), (.ref aw)])) (fun t_ k_ => XS.isub X7.here hx rfl (hb hby d5_32) rfl k_) ?_
      rw [show ((1 : Int32) - (1 : Int32)) = (0 : Int32) from by decide]
      refine Go.on (g' := (mkF m 34 _ [(.int (3 : Int32)), (.int (0 : Int32)), (.ref aw)])) (fun t_ k_ => XS.iloadN X7.here hx rfl (hb hby d5_33) rfl k_) ?_
      refine Go.on (g' := (mkF m 35 _ [(.int ((0 : Int32) * (3 : Int32))), (.ref aw)])) (fun t_ k_ => XS.imul X7.here hx rfl (hb hby d5_34) rfl k_) ?_
      rw [show ((0 : Int32) * (3 : Int32)) = (0 : Int32) from by decide]
      refine Go.on (g' := (mkF m 37 _ [(.int (3 : Int32)), (.int (0 : Int32)), (.ref aw)])) (fun t_ k_ => XS.iload X7.here hx rfl (hb hby d5_35) rfl k_) ?_
      refine Go.on (g' := (mkF m 38 _ [(.int ((0 : Int32) + (3 : Int32))), (.ref aw)])) (fun t_ k_ => XS.iadd X7.here hx rfl (hb hby d5_37) rfl k_) ?_
      rw [show ((0 : Int32) + (3 : Int32)) = (3 : Int32) from by decide]
      refine Go.on (g' := (mkF m 39 _ [(.int (1 : Int32)), (.int (3 : Int32)), (.ref aw)])) (fun t_ k_ => XS.iconst X7.here hx rfl (hb hby d5_38) k_) ?_
      refine Go.on (g' := (mkF m 40 _ [(.int ((3 : Int32) - (1 : Int32))), (.ref aw)])) (fun t_ k_ => XS.isub X7.here hx rfl (hb hby d5_39) rfl k_) ?_
      rw [show ((3 : Int32) - (1 : Int32)) = (2 : Int32) from by decide]
      refine Go.on (g' := (mkF m 41 _ [(.int y2)])) (X7.iaload hx (j := (2 : Int32)) (v := (.int y2)) (by rw [e7]; exact arr_aw_7.1) (State.isArrayOf_alike hZ.alike arr_aw_7.2.1) arr_aw_7.2.2 (by rw [HW.1]; decide) HW.2.2.2 (g := (mkF m 40 #[.val (.ref aw), .val (.int (1 : Int32)), .val (.int (3 : Int32)), .val (.ref o1), .val (.int (1 : Int32)), .val (.int (3 : Int32)), .val (.int y1), .val (.int (6 : Int32)), .val (.int b12)] [(.int (2 : Int32)), (.ref aw)])) rfl rfl (hb hby d5_40)) ?_
      refine Go.on (g' := (mkF m 43 #[.val (.ref aw), .val (.int (1 : Int32)), .val (.int (3 : Int32)), .val (.ref o1), .val (.int (1 : Int32)), .val (.int (3 : Int32)), .val (.int y2), .val (.int (6 : Int32)), .val (.int b12)] [])) (fun t_ k_ => XS.istore X7.here hx rfl (hb hby d5_41) rfl (l' := #[.val (.ref aw), .val (.int (1 : Int32)), .val (.int (3 : Int32)), .val (.ref o1), .val (.int (1 : Int32)), .val (.int (3 : Int32)), .val (.int y2), .val (.int (6 : Int32)), .val (.int b12)]) rfl k_) ?_
      refine Go.on (g' := (mkF m 45 _ [(.int (1 : Int32))])) (fun t_ k_ => XS.iload X7.here hx rfl (hb hby d5_43) rfl k_) ?_
      refine Go.on (g' := (mkF m 46 _ [(.int (3 : Int32)), (.int (1 : Int32))])) (fun t_ k_ => XS.iloadN X7.here hx rfl (hb hby d5_45) rfl k_) ?_
      refine Go.on (g' := (mkF m 47 _ [(.int (1 : Int32)), (.int (3 : Int32)), (.int (1 : Int32))])) (fun t_ k_ => XS.iconst X7.here hx rfl (hb hby d5_46) k_) ?_
      refine Go.on (g' := (mkF m 48 _ [(.int ((3 : Int32) + (1 : Int32))), (.int (1 : Int32))])) (fun t_ k_ => XS.iadd X7.here hx rfl (hb hby d5_47) rfl k_) ?_
      rw [show ((3 : Int32) + (1 : Int32)) = (4 : Int32) from by decide]
      refine Go.on (g' := (mkF m 49 _ [(.int ((1 : Int32) * (4 : Int32)))])) (fun t_ k_ => XS.imul X7.here hx rfl (hb hby d5_48) rfl k_) ?_
      rw [show ((1 : Int32) * (4 : Int32)) = (4 : Int32) from by decide]
      refine Go.on (g' := (mkF m 51 _ [(.int (3 : Int32)), (.int (4 : Int32))])) (fun t_ k_ => XS.iload X7.here hx rfl (hb hby d5_49) rfl k_) ?_
      refine Go.on (g' := (mkF m 52 _ [(.int ((4 : Int32) + (3 : Int32)))])) (fun t_ k_ => XS.iadd X7.here hx rfl (hb hby d5_51) rfl k_) ?_
      rw [show ((4 : Int32) + (3 : Int32)) = (7 : Int32) from by decide]
      refine Go.on (g' := (mkF m 54 #[.val (.ref aw), .val (.int (1 : Int32)), .val (.int (3 : Int32)), .val (.ref o1), .val (.int (1 : Int32)), .val (.int (3 : Int32)), .val (.int y2), .val (.int (7 : Int32)), .val (.int b12)] [])) (fun t_ k_ => XS.istore X7.here hx rfl (hb hby d5_52) rfl (l' := #[.val (.ref aw), .val (.int (1 : Int32)), .val (.int (3 : Int32)), .val (.ref o1), .val (.int (1 : Int32)), .val (.int (3 : Int32)), .val (.int y2), .val (.int (7 : Int32)), .val (.int b12)]) rfl k_) ?_
      refine Go.on (g' := (mkF m 55 _ [(.ref o1)])) (fun t_ k_ => XS.aloadN X7.here hx rfl (hb hby d5_54) rfl rfl k_) ?_
      refine Go.on (g' := (mkF m 57 _ [(.int (7 : Int32)), (.ref o1)])) (fun t_ k_ => XS.iload X7.here hx rfl (hb hby d5_55) rfl k_) ?_
      refine Go.on (g' := (mkF m 58 _ [(.int (3 : Int32)), (.int (7 : Int32)), (.ref o1)])) (fun t_ k_ => XS.iloadN X7.here hx rfl (hb hby d5_57) rfl k_) ?_
      refine Go.on (g' := (mkF m 59 _ [(.int ((7 : Int32) - (3 : Int32))), (.ref o1)])) (fun t_ k_ => XS.isub X7.here hx rfl (hb hby d5_58) rfl k_) ?_
      rw [show ((7 : Int32) - (3 : Int32)) = (4 : Int32) from by decide]
      refine Go.on (g' := (mkF m 60 _ [(.int (1 : Int32)), (.int (4 : Int32)), (.ref o1)])) (fun t_ k_ => XS.iconst X7.here hx rfl (hb hby d5_59) k_) ?_
      refine Go.on (g' := (mkF m 61 _ [(.int ((4 : Int32) - (1 : Int32))), (.ref o1)])) (fun t_ k_ => XS.isub X7.here hx rfl (hb hby d5_60) rfl k_) ?_
      rw [show ((4 : Int32) - (1 : Int32)) = (3 : Int32) from by decide]
      refine Go.on (g' := (mkF m 62 _ [(.int (0 : Int32))])) (X7.iaload hx (j := (3 : Int32)) (v := (.int (0 : Int32))) (by rw [e7]; exact A7.1) (State.isArrayOf_alike hZ.alike A7.2.1) A7.2.2 (by simp only [sz_set, sz_new]; decide) rfl (g := (mkF m 61 #[.val (.ref aw), .val (.int (1 : Int32)), .val (.int (3 : Int32)), .val (.ref o1), .val (.int (1 : Int32)), .val (.int (3 : Int32)), .val (.int y2), .val (.int (7 : Int32)), .val (.int b12)] [(.int (3 : Int32)), (.ref o1)])) rfl rfl (hb hby d5_61)) ?_
      refine Go.on (g' := (mkF m 63 _ [(.ref o1), (.int (0 : Int32))])) (fun t_ k_ => XS.aloadN X7.here hx rfl (hb hby d5_62) rfl rfl k_) ?_
      refine Go.on (g' := (mkF m 65 _ [(.int (7 : Int32)), (.ref o1), (.int (0 : Int32))])) (fun t_ k_ => XS.iload X7.here hx rfl (hb hby d5_63) rfl k_) ?_
      refine Go.on (g' := (mkF m 66 _ [(.int (1 : Int32)), (.int (7 : Int32)), (.ref o1), (.int (0 : Int32))])) (fun t_ k_ => XS.iconst X7.here hx rfl (hb hby d5_65) k_) ?_
      refine Go.on (g' := (mkF m 67 _ [(.int ((7 : Int32) - (1 : Int32))), (.ref o1), (.int (0 : Int32))])) (fun t_ k_ => XS.isub X7.here hx rfl (hb hby d5_66) rfl k_) ?_
      rw [show ((7 : Int32) - (1 : Int32)) = (6 : Int32) from by decide]
      refine Go.on (g' := (mkF m 68 _ [(.int b12), (.int (0 : Int32))])) (X7.iaload hx (j := (6 : Int32)) (v := (.int b12)) (by rw [e7]; exact A7.1) (State.isArrayOf_alike hZ.alike A7.2.1) A7.2.2 (by simp only [sz_set, sz_new]; decide) rfl (g := (mkF m 67 #[.val (.ref aw), .val (.int (1 : Int32)), .val (.int (3 : Int32)), .val (.ref o1), .val (.int (1 : Int32)), .val (.int (3 : Int32)), .val (.int y2), .val (.int (7 : Int32)), .val (.int b12)] [(.int (6 : Int32)), (.ref o1), (.int (0 : Int32))])) rfl rfl (hb hby d5_67)) ?_
      refine Go.callS X7 hx hZ hby (by rw [hml]; rfl) (y := (⟨"java/lang/Math", "max", "(II)I"⟩ : MethodName)) hown (hw _ (List.mem_of_getElem? (i := 19) rfl)) (hw _ (List.mem_of_getElem? (i := 9) rfl)) (hw _ (List.mem_of_getElem? (i := 10) rfl)) (hw _ (List.mem_of_getElem? (i := 11) rfl)) (by decide) (argsL := [(.int (0 : Int32)), (.int b12)]) (rest := []) (rmM l Z w0 hw [] (0 : Int32) b12 h7) e7 0 (by decide) (by decide) (by decide) (by decide) rfl pdM rfl (Nat.le_of_eq rfl) d5_68 (pcF := 71) rfl ?_
      intro v8 T8 L8 X8 hQ8
      obtain ⟨rfl, rfl, e8⟩ := hQ8
      rw [List.append_nil] at X8
      show Go p e below _ _ (mkF m 71 _ [(.int (own_max (0 : Int32) b12))])
      refine Go.on (g' := (mkF m 73 #[.val (.ref aw), .val (.int (1 : Int32)), .val (.int (3 : Int32)), .val (.ref o1), .val (.int (1 : Int32)), .val (.int (3 : Int32)), .val (.int y2), .val (.int (7 : Int32)), .val (.int (own_max (0 : Int32) b12))] [])) (fun t_ k_ => XS.istore X8.here hx rfl (hb hby d5_71) rfl (l' := #[.val (.ref aw), .val (.int (1 : Int32)), .val (.int (3 : Int32)), .val (.ref o1), .val (.int (1 : Int32)), .val (.int (3 : Int32)), .val (.int y2), .val (.int (7 : Int32)), .val (.int (own_max (0 : Int32) b12))]) rfl k_) ?_
      refine Go.joinV (P := fun b13 : Int32 => b13 = own_cell y2 (own_max (0 : Int32) b12) (0 : Int32)) (g := fun b13 => (mkF m 96 #[.val (.ref aw), .val (.int (1 : Int32)), .val (.int (3 : Int32)), .val (.ref o1), .val (.int (1 : Int32)), .val (.int (3 : Int32)), .val (.int y2), .val (.int (7 : Int32)), .val (.int b13)] [])) X8 e8 (fun T9 b13 X9 e9 hb13 => ?_) (fun J => ?_)
      · have hc13 : own_c13 y0 y1 y2 = b13 := by rw [hb13, own_c13, hc12]
        show Go p e below _ _ (mkF m 96 _ [])
        refine Go.on (g' := (mkF m 97 _ [(.ref o1)])) (fun t_ k_ => XS.aloadN X9.here hx rfl (hb hby d5_96) rfl rfl k_) ?_
        refine Go.on (g' := (mkF m 99 _ [(.int (7 : Int32)), (.ref o1)])) (fun t_ k_ => XS.iload X9.here hx rfl (hb hby d5_97) rfl k_) ?_
        refine Go.on (g' := (mkF m 101 _ [(.int b13), (.int (7 : Int32)), (.ref o1)])) (fun t_ k_ => XS.iload X9.here hx rfl (hb hby d5_99) rfl k_) ?_
        obtain ⟨T10, h10, X10, e10, W10, st10⟩ := stI X9 hx hZ e9 A7 (j := (7 : Int32)) (by simp only [sz_set, sz_new]; decide) (g := (mkF m 101 #[.val (.ref aw), .val (.int (1 : Int32)), .val (.int (3 : Int32)), .val (.ref o1), .val (.int (1 : Int32)), .val (.int (3 : Int32)), .val (.int y2), .val (.int (7 : Int32)), .val (.int b13)] [(.int b13), (.int (7 : Int32)), (.ref o1)])) rfl rfl (hb hby d5_101)
        have N10 := Fr.snoc X10 N7 no1
        have Z10 : n0 ≤ h10.size := by rw [W10.size]; exact Z7
        have EX_10 := extWr EX_7 W10 mo1
        have arr_aw_10 := arr_aw_7.other W10 ne_aw_o1
        have A10 := A7.same W10
        refine Go.on (g' := (mkF m 102 _ [])) (st10) ?_
        refine Go.on (g' := (mkF m 105 #[.val (.ref aw), .val (.int (1 : Int32)), .val (.int (3 : Int32)), .val (.ref o1), .val (.int (1 : Int32)), .val (.int ((3 : Int32) + (1 : Int32))), .val (.int y2), .val (.int (7 : Int32)), .val (.int b13)] [])) (fun t_ k_ => XS.iinc X10.here hx rfl (hb hby d5_102) rfl (l' := #[.val (.ref aw), .val (.int (1 : Int32)), .val (.int (3 : Int32)), .val (.ref o1), .val (.int (1 : Int32)), .val (.int ((3 : Int32) + (1 : Int32))), .val (.int y2), .val (.int (7 : Int32)), .val (.int b13)]) rfl k_) ?_
        rw [show ((3 : Int32) + (1 : Int32)) = (4 : Int32) from by decide]
        refine Go.on (g' := (mkF m 22 _ [])) (fun t_ k_ => XS.goto X10.here hx rfl (pc0 := 105) (pc' := 22) rfl (hb hby d5_105) (by decide) (by decide) k_) ?_
        refine Go.on (g' := (mkF m 24 _ [(.int (4 : Int32))])) (fun t_ k_ => XS.iload X10.here hx rfl (hb hby d5_22) rfl k_) ?_
        refine Go.on (g' := (mkF m 25 _ [(.int (3 : Int32)), (.int (4 : Int32))])) (fun t_ k_ => XS.iloadN X10.here hx rfl (hb hby d5_24) rfl k_) ?_
        refine Go.icmp X10 hx hby d5_25 (pcT := 108) (pcF := 28) (by decide) (by decide) rfl (fun q => ?_) (fun q => absurd q (by decide))
        clear q
        show Go p e below _ _ (mkF m 108 _ [])
        refine Go.on (g' := (mkF m 111 #[.val (.ref aw), .val (.int (1 : Int32)), .val (.int (3 : Int32)), .val (.ref o1), .val (.int ((1 : Int32) + (1 : Int32))), .val (.int (4 : Int32)), .val (.int y2), .val (.int (7 : Int32)), .val (.int b13)] [])) (fun t_ k_ => XS.iinc X10.here hx rfl (hb hby d5_108) rfl (l' := #[.val (.ref aw), .val (.int (1 : Int32)), .val (.int (3 : Int32)), .val (.ref o1), .val (.int ((1 : Int32) + (1 : Int32))), .val (.int (4 : Int32)), .val (.int y2), .val (.int (7 : Int32)), .val (.int b13)]) rfl k_) ?_
        rw [show ((1 : Int32) + (1 : Int32)) = (2 : Int32) from by decide]
        refine Go.on (g' := (mkF m 13 _ [])) (fun t_ k_ => XS.goto X10.here hx rfl (pc0 := 111) (pc' := 13) rfl (hb hby d5_111) (by decide) (by decide) k_) ?_
        refine Go.on (g' := (mkF m 15 _ [(.int (2 : Int32))])) (fun t_ k_ => XS.iload X10.here hx rfl (hb hby d5_13) rfl k_) ?_
        refine Go.on (g' := (mkF m 16 _ [(.int (1 : Int32)), (.int (2 : Int32))])) (fun t_ k_ => XS.iloadN X10.here hx rfl (hb hby d5_15) rfl k_) ?_
        refine Go.icmp X10 hx hby d5_16 (pcT := 114) (pcF := 19) (by decide) (by decide) rfl (fun q => ?_) (fun q => absurd q (by decide))
        clear q
        show Go p e below _ _ (mkF m 114 _ [])
        refine Go.on (g' := (mkF m 115 _ [(.int (1 : Int32))])) (fun t_ k_ => XS.iloadN X10.here hx rfl (hb hby d5_114) rfl k_) ?_
        obtain ⟨T11, h11, cA11, X11, e11, E11, A11, st11⟩ := newP X10 hx hZ (hw _ (List.mem_of_getElem? (i := 0) rfl)) e10 (g := (mkF m 115 #[.val (.ref aw), .val (.int (1 : Int32)), .val (.int (3 : Int32)), .val (.ref o1), .val (.int (2 : Int32)), .val (.int (4 : Int32)), .val (.int y2), .val (.int (7 : Int32)), .val (.int b13)] [(.int (1 : Int32))])) rfl (hb hby d5_115) (n := (1 : Int32)) rfl (by decide) (cap := 1) (by decide) (by decide) (by decide) (by decide)
        obtain ⟨o11, go11⟩ : ∃ z, z = (h10).size := ⟨_, rfl⟩
        rw [← go11] at A11 st11
        have no11 : n0 ≤ o11 := Nat.le_trans Z10 (Nat.le_of_eq go11.symm)
        have Z11 : n0 ≤ h11.size := Nat.le_trans Z10 E11.1
        have EX_11 := extTrans EX_10 E11
        have arr_aw_11 := arr_aw_10.ext E11
        have arr_o1_11 := A10.ext E11
        have mo11 : h0.size ≤ o11 := Nat.le_trans EX_10.1 (Nat.le_of_eq go11.symm)
        have ne_aw_o11 : aw ≠ o11 := Nat.ne_of_lt (by rw [go11]; exact arr_aw_10.lt)
        have ne_o1_o11 : o1 ≠ o11 := Nat.ne_of_lt (by rw [go11]; exact A10.lt)
        refine Go.on (g' := (mkF m 117 _ [(.ref o11)])) (st11) ?_
        refine Go.on (g' := (mkF m 119 #[.val (.ref aw), .val (.int (1 : Int32)), .val (.int (3 : Int32)), .val (.ref o1), .val (.ref o11), .val (.int (4 : Int32)), .val (.int y2), .val (.int (7 : Int32)), .val (.int b13)] [])) (fun t_ k_ => XS.astore X11.here hx rfl (hb hby d5_117) rfl rfl (l' := #[.val (.ref aw), .val (.int (1 : Int32)), .val (.int (3 : Int32)), .val (.ref o1), .val (.ref o11), .val (.int (4 : Int32)), .val (.int y2), .val (.int (7 : Int32)), .val (.int b13)]) rfl k_) ?_
        refine Go.on (g' := (mkF m 121 _ [(.ref o11)])) (fun t_ k_ => XS.aload X11.here hx rfl (hb hby d5_119) rfl rfl k_) ?_
        refine Go.on (g' := (mkF m 122 _ [(.int ((-1) : Int32)), (.ref o11)])) (fun t_ k_ => XS.iconst X11.here hx rfl (hb hby d5_121) k_) ?_
        refine Go.callS X11 hx hZ hby (by rw [hml]; rfl) (y := (⟨"java/util/Arrays", "fill", "([II)V"⟩ : MethodName)) hown (hw _ (List.mem_of_getElem? (i := 20) rfl)) (hw _ (List.mem_of_getElem? (i := 21) rfl)) (hw _ (List.mem_of_getElem? (i := 22) rfl)) (hw _ (List.mem_of_getElem? (i := 23) rfl)) (by decide) (argsL := [(.ref o11), (.int ((-1) : Int32))]) (rest := []) (rmFi1 l Z w0 hw [] o11 ((-1) : Int32) h11 n0 Z11 no11 _ A11 (sz_new _ _ _)) e11 0 (by decide) (by decide) (by decide) (by decide) rfl pdFi rfl (Nat.le_of_eq rfl) d5_122 (pcF := 125) rfl ?_
        intro v12 T12 L12 X12 hQ12
        obtain ⟨rfl, M12, K12, AR12⟩ := hQ12
        have N12 := Fr.app N10 M12
        have Z12 : n0 ≤ T12.heap.size := Nat.le_trans Z11 K12.1
        have EX12 := extKeep EX_11 K12 mo11
        have AW12 := arrKeep arr_aw_11 K12 ne_aw_o11
        have AB12 := arrKeep arr_o1_11 K12 ne_o1_o11
        have e12 : T12.heap = T12.heap := rfl
        show Go p e below _ _ (mkF m 125 _ [])
        refine Go.on (g' := (mkF m 126 _ [(.int (1 : Int32))])) (fun t_ k_ => XS.iloadN X12.here hx rfl (hb hby d5_125) rfl k_) ?_
        refine Go.on (g' := (mkF m 128 #[.val (.ref aw), .val (.int (1 : Int32)), .val (.int (3 : Int32)), .val (.ref o1), .val (.ref o11), .val (.int (1 : Int32)), .val (.int y2), .val (.int (7 : Int32)), .val (.int b13)] [])) (fun t_ k_ => XS.istore X12.here hx rfl (hb hby d5_126) rfl (l' := #[.val (.ref aw), .val (.int (1 : Int32)), .val (.int (3 : Int32)), .val (.ref o1), .val (.ref o11), .val (.int (1 : Int32)), .val (.int y2), .val (.int (7 : Int32)), .val (.int b13)]) rfl k_) ?_
        refine Go.on (g' := (mkF m 129 _ [(.int (3 : Int32))])) (fun t_ k_ => XS.iloadN X12.here hx rfl (hb hby d5_128) rfl k_) ?_
        refine Go.on (g' := (mkF m 131 #[.val (.ref aw), .val (.int (1 : Int32)), .val (.int (3 : Int32)), .val (.ref o1), .val (.ref o11), .val (.int (1 : Int32)), .val (.int (3 : Int32)), .val (.int (7 : Int32)), .val (.int b13)] [])) (fun t_ k_ => XS.istore X12.here hx rfl (hb hby d5_129) rfl (l' := #[.val (.ref aw), .val (.int (1 : Int32)), .val (.int (3 : Int32)), .val (.ref o1), .val (.ref o11), .val (.int (1 : Int32)), .val (.int (3 : Int32)), .val (.int (7 : Int32)), .val (.int b13)]) rfl k_) ?_
        rw [own_p13, hc11, hc12, hc13]
        exact nd13_1_3 l Z w0 hw ws aw o1 o11 p e s m below meth c h0 n0 T12 _ X12 hx hby hml hret hlk hZ _ e12 Z12 N12 EX12 no11 mo11 ne_aw_o11 ne_o1_o11 cw AW12 y0 y1 y2 HW _ AB12 b11 b12 b13 ⟨by simp only [sz_set, sz_new]; decide, rfl, rfl, rfl, rfl, rfl, rfl, rfl, rfl⟩ _ AR12 (by simp only [sz_set, sz_new]; decide) rfl (.val (.int (7 : Int32))) (.val (.int b13)) (One.val rfl) (One.val rfl)
      · show Go p e below _ _ (mkF m 73 _ [])
        refine Go.on (g' := (mkF m 75 _ [(.int y2)])) (fun t_ k_ => XS.iload X8.here hx rfl (hb hby d5_73) rfl k_) ?_
        refine Go.ifc X8 hx hby d5_75 (pcT := 96) (pcF := 78) (by decide) (by decide) rfl (fun q => ?_) (fun q => ?_)
        · have q1 := iLe.1 q
          clear q
          show Go p e below _ _ (mkF m 96 _ [])
          exact J T8 (own_max (0 : Int32) b12) X8 e8 (by rw [own_cell, if_neg q1])
        · have q1 := iLe.2 q
          clear q
          show Go p e below _ _ (mkF m 78 _ [])
          refine Go.on (g' := (mkF m 80 _ [(.int (own_max (0 : Int32) b12))])) (fun t_ k_ => XS.iload X8.here hx rfl (hb hby d5_78) rfl k_) ?_
          refine Go.on (g' := (mkF m 81 _ [(.ref o1), (.int (own_max (0 : Int32) b12))])) (fun t_ k_ => XS.aloadN X8.here hx rfl (hb hby d5_80) rfl rfl k_) ?_
          refine Go.on (g' := (mkF m 83 _ [(.int (7 : Int32)), (.ref o1), (.int (own_max (0 : Int32) b12))])) (fun t_ k_ => XS.iload X8.here hx rfl (hb hby d5_81) rfl k_) ?_
          refine Go.on (g' := (mkF m 84 _ [(.int (3 : Int32)), (.int (7 : Int32)), (.ref o1), (.int (own_max (0 : Int32) b12))])) (fun t_ k_ => XS.iloadN X8.here hx rfl (hb hby d5_83) rfl k_) ?_
          refine Go.on (g' := (mkF m 85 _ [(.int ((7 : Int32) - (3 : Int32))), (.ref o1), (.int (own_max (0 : Int32) b12))])) (fun t_ k_ => XS.isub X8.here hx rfl (hb hby d5_84) rfl k_) ?_
          rw [show ((7 : Int32) - (3 : Int32)) = (4 : Int32) from by decide]
          refine Go.on (g' := (mkF m 86 _ [(.int (2 : Int32)), (.int (4 : Int32)), (.ref o1), (.int (own_max (0 : Int32) b12))])) (fun t_ k_ => XS.iconst X8.here hx rfl (hb hby d5_85) k_) ?_
          refine Go.on (g' := (mkF m 87 _ [(.int ((4 : Int32) - (2 : Int32))), (.ref o1), (.int (own_max (0 : Int32) b12))])) (fun t_ k_ => XS.isub X8.here hx rfl (hb hby d5_86) rfl k_) ?_
          rw [show ((4 : Int32) - (2 : Int32)) = (2 : Int32) from by decide]
          refine Go.on (g' := (mkF m 88 _ [(.int (0 : Int32)), (.int (own_max (0 : Int32) b12))])) (X8.iaload hx (j := (2 : Int32)) (v := (.int (0 : Int32))) (by rw [e8]; exact A7.1) (State.isArrayOf_alike hZ.alike A7.2.1) A7.2.2 (by simp only [sz_set, sz_new]; decide) rfl (g := (mkF m 87 #[.val (.ref aw), .val (.int (1 : Int32)), .val (.int (3 : Int32)), .val (.ref o1), .val (.int (1 : Int32)), .val (.int (3 : Int32)), .val (.int y2), .val (.int (7 : Int32)), .val (.int (own_max (0 : Int32) b12))] [(.int (2 : Int32)), (.ref o1), (.int (own_max (0 : Int32) b12))])) rfl rfl (hb hby d5_87)) ?_
          refine Go.on (g' := (mkF m 90 _ [(.int y2), (.int (0 : Int32)), (.int (own_max (0 : Int32) b12))])) (fun t_ k_ => XS.iload X8.here hx rfl (hb hby d5_88) rfl k_) ?_
          refine Go.on (g' := (mkF m 91 _ [(.int ((0 : Int32) + y2)), (.int (own_max (0 : Int32) b12))])) (fun t_ k_ => XS.iadd X8.here hx rfl (hb hby d5_90) rfl k_) ?_
          refine Go.callS X8 hx hZ hby (by rw [hml]; rfl) (y := (⟨"java/lang/Math", "max", "(II)I"⟩ : MethodName)) hown (hw _ (List.mem_of_getElem? (i := 19) rfl)) (hw _ (List.mem_of_getElem? (i := 9) rfl)) (hw _ (List.mem_of_getElem? (i := 10) rfl)) (hw _ (List.mem_of_getElem? (i := 11) rfl)) (by decide) (argsL := [(.int (own_max (0 : Int32) b12)), (.int ((0 : Int32) + y2))]) (rest := []) (rmM l Z w0 hw [] (own_max (0 : Int32) b12) ((0 : Int32) + y2) h7) e8 0 (by decide) (by decide) (by decide) (by decide) rfl pdM rfl (Nat.le_of_eq rfl) d5_91 (pcF := 94) rfl ?_
          intro v13 T13 L13 X13 hQ13
          obtain ⟨rfl, rfl, e13⟩ := hQ13
          rw [List.append_nil] at X13
          show Go p e below _ _ (mkF m 94 _ [(.int (own_max (own_max (0 : Int32) b12) ((0 : Int32) + y2)))])
          refine Go.on (g' := (mkF m 96 #[.val (.ref aw), .val (.int (1 : Int32)), .val (.int (3 : Int32)), .val (.ref o1), .val (.int (1 : Int32)), .val (.int (3 : Int32)), .val (.int y2), .val (.int (7 : Int32)), .val (.int (own_max (own_max (0 : Int32) b12) ((0 : Int32) + y2)))] [])) (fun t_ k_ => XS.istore X13.here hx rfl (hb hby d5_94) rfl (l' := #[.val (.ref aw), .val (.int (1 : Int32)), .val (.int (3 : Int32)), .val (.ref o1), .val (.int (1 : Int32)), .val (.int (3 : Int32)), .val (.int y2), .val (.int (7 : Int32)), .val (.int (own_max (own_max (0 : Int32) b12) ((0 : Int32) + y2)))]) rfl k_) ?_
          exact J T13 (own_max (own_max (0 : Int32) b12) ((0 : Int32) + y2)) X13 e13 (by rw [own_cell, if_pos q1])
    · show Go p e below _ _ (mkF m 73 _ [])
      refine Go.on (g' := (mkF m 75 _ [(.int y1)])) (fun t_ k_ => XS.iload X5.here hx rfl (hb hby d5_73) rfl k_) ?_
      refine Go.ifc X5 hx hby d5_75 (pcT := 96) (pcF := 78) (by decide) (by decide) rfl (fun q => ?_) (fun q => ?_)
      · have q2 := iLe.1 q
        clear q
        show Go p e below _ _ (mkF m 96 _ [])
        exact J T5 (own_max (0 : Int32) b11) X5 e5 (by rw [own_cell, if_neg q2])
      · have q2 := iLe.2 q
        clear q
        show Go p e below _ _ (mkF m 78 _ [])
        refine Go.on (g' := (mkF m 80 _ [(.int (own_max (0 : Int32) b11))])) (fun t_ k_ => XS.iload X5.here hx rfl (hb hby d5_78) rfl k_) ?_
        refine Go.on (g' := (mkF m 81 _ [(.ref o1), (.int (own_max (0 : Int32) b11))])) (fun t_ k_ => XS.aloadN X5.here hx rfl (hb hby d5_80) rfl rfl k_) ?_
        refine Go.on (g' := (mkF m 83 _ [(.int (6 : Int32)), (.ref o1), (.int (own_max (0 : Int32) b11))])) (fun t_ k_ => XS.iload X5.here hx rfl (hb hby d5_81) rfl k_) ?_
        refine Go.on (g' := (mkF m 84 _ [(.int (3 : Int32)), (.int (6 : Int32)), (.ref o1), (.int (own_max (0 : Int32) b11))])) (fun t_ k_ => XS.iloadN X5.here hx rfl (hb hby d5_83) rfl k_) ?_
        refine Go.on (g' := (mkF m 85 _ [(.int ((6 : Int32) - (3 : Int32))), (.ref o1), (.int (own_max (0 : Int32) b11))])) (fun t_ k_ => XS.isub X5.here hx rfl (hb hby d5_84) rfl k_) ?_
        rw [show ((6 : Int32) - (3 : Int32)) = (3 : Int32) from by decide]
        refine Go.on (g' := (mkF m 86 _ [(.int (2 : Int32)), (.int (3 : Int32)), (.ref o1), (.int (own_max (0 : Int32) b11))])) (fun t_ k_ => XS.iconst X5.here hx rfl (hb hby d5_85) k_) ?_
        refine Go.on (g' := (mkF m 87 _ [(.int ((3 : Int32) - (2 : Int32))), (.ref o1), (.int (own_max (0 : Int32) b11))])) (fun t_ k_ => XS.isub X5.here hx rfl (hb hby d5_86) rfl k_) ?_
        rw [show ((3 : Int32) - (2 : Int32)) = (1 : Int32) from by decide]
        refine Go.on (g' := (mkF m 88 _ [(.int (0 : Int32)), (.int (own_max (0 : Int32) b11))])) (X5.iaload hx (j := (1 : Int32)) (v := (.int (0 : Int32))) (by rw [e5]; exact A4.1) (State.isArrayOf_alike hZ.alike A4.2.1) A4.2.2 (by simp only [sz_set, sz_new]; decide) rfl (g := (mkF m 87 #[.val (.ref aw), .val (.int (1 : Int32)), .val (.int (3 : Int32)), .val (.ref o1), .val (.int (1 : Int32)), .val (.int (2 : Int32)), .val (.int y1), .val (.int (6 : Int32)), .val (.int (own_max (0 : Int32) b11))] [(.int (1 : Int32)), (.ref o1), (.int (own_max (0 : Int32) b11))])) rfl rfl (hb hby d5_87)) ?_
        refine Go.on (g' := (mkF m 90 _ [(.int y1), (.int (0 : Int32)), (.int (own_max (0 : Int32) b11))])) (fun t_ k_ => XS.iload X5.here hx rfl (hb hby d5_88) rfl k_) ?_
        refine Go.on (g' := (mkF m 91 _ [(.int ((0 : Int32) + y1)), (.int (own_max (0 : Int32) b11))])) (fun t_ k_ => XS.iadd X5.here hx rfl (hb hby d5_90) rfl k_) ?_
        refine Go.callS X5 hx hZ hby (by rw [hml]; rfl) (y := (⟨"java/lang/Math", "max", "(II)I"⟩ : MethodName)) hown (hw _ (List.mem_of_getElem? (i := 19) rfl)) (hw _ (List.mem_of_getElem? (i := 9) rfl)) (hw _ (List.mem_of_getElem? (i := 10) rfl)) (hw _ (List.mem_of_getElem? (i := 11) rfl)) (by decide) (argsL := [(.int (own_max (0 : Int32) b11)), (.int ((0 : Int32) + y1))]) (rest := []) (rmM l Z w0 hw [] (own_max (0 : Int32) b11) ((0 : Int32) + y1) h4) e5 0 (by decide) (by decide) (by decide) (by decide) rfl pdM rfl (Nat.le_of_eq rfl) d5_91 (pcF := 94) rfl ?_
        intro v14 T14 L14 X14 hQ14
        obtain ⟨rfl, rfl, e14⟩ := hQ14
        rw [List.append_nil] at X14
        show Go p e below _ _ (mkF m 94 _ [(.int (own_max (own_max (0 : Int32) b11) ((0 : Int32) + y1)))])
        refine Go.on (g' := (mkF m 96 #[.val (.ref aw), .val (.int (1 : Int32)), .val (.int (3 : Int32)), .val (.ref o1), .val (.int (1 : Int32)), .val (.int (2 : Int32)), .val (.int y1), .val (.int (6 : Int32)), .val (.int (own_max (own_max (0 : Int32) b11) ((0 : Int32) + y1)))] [])) (fun t_ k_ => XS.istore X14.here hx rfl (hb hby d5_94) rfl (l' := #[.val (.ref aw), .val (.int (1 : Int32)), .val (.int (3 : Int32)), .val (.ref o1), .val (.int (1 : Int32)), .val (.int (2 : Int32)), .val (.int y1), .val (.int (6 : Int32)), .val (.int (own_max (own_max (0 : Int32) b11) ((0 : Int32) + y1)))]) rfl k_) ?_
        exact J T14 (own_max (own_max (0 : Int32) b11) ((0 : Int32) + y1)) X14 e14 (by rw [own_cell, if_pos q2])
  · show Go p e below _ _ (mkF m 73 _ [])
    refine Go.on (g' := (mkF m 75 _ [(.int y0)])) (fun t_ k_ => XS.iload X2.here hx rfl (hb hby d5_73) rfl k_) ?_
    refine Go.ifc X2 hx hby d5_75 (pcT := 96) (pcF := 78) (by decide) (by decide) rfl (fun q => ?_) (fun q => ?_)
    · have q3 := iLe.1 q
      clear q
      show Go p e below _ _ (mkF m 96 _ [])
      exact J T2 (own_max (0 : Int32) (0 : Int32)) X2 e2 (by rw [own_cell, if_neg q3])
    · have q3 := iLe.2 q
      clear q
      show Go p e below _ _ (mkF m 78 _ [])
      refine Go.on (g' := (mkF m 80 _ [(.int (own_max (0 : Int32) (0 : Int32)))])) (fun t_ k_ => XS.iload X2.here hx rfl (hb hby d5_78) rfl k_) ?_
      refine Go.on (g' := (mkF m 81 _ [(.ref o1), (.int (own_max (0 : Int32) (0 : Int32)))])) (fun t_ k_ => XS.aloadN X2.here hx rfl (hb hby d5_80) rfl rfl k_) ?_
      refine Go.on (g' := (mkF m 83 _ [(.int (5 : Int32)), (.ref o1), (.int (own_max (0 : Int32) (0 : Int32)))])) (fun t_ k_ => XS.iload X2.here hx rfl (hb hby d5_81) rfl k_) ?_
      refine Go.on (g' := (mkF m 84 _ [(.int (3 : Int32)), (.int (5 : Int32)), (.ref o1), (.int (own_max (0 : Int32) (0 : Int32)))])) (fun t_ k_ => XS.iloadN X2.here hx rfl (hb hby d5_83) rfl k_) ?_
      refine Go.on (g' := (mkF m 85 _ [(.int ((5 : Int32) - (3 : Int32))), (.ref o1), (.int (own_max (0 : Int32) (0 : Int32)))])) (fun t_ k_ => XS.isub X2.here hx rfl (hb hby d5_84) rfl k_) ?_
      rw [show ((5 : Int32) - (3 : Int32)) = (2 : Int32) from by decide]
      refine Go.on (g' := (mkF m 86 _ [(.int (2 : Int32)), (.int (2 : Int32)), (.ref o1), (.int (own_max (0 : Int32) (0 : Int32)))])) (fun t_ k_ => XS.iconst X2.here hx rfl (hb hby d5_85) k_) ?_
      refine Go.on (g' := (mkF m 87 _ [(.int ((2 : Int32) - (2 : Int32))), (.ref o1), (.int (own_max (0 : Int32) (0 : Int32)))])) (fun t_ k_ => XS.isub X2.here hx rfl (hb hby d5_86) rfl k_) ?_
      rw [show ((2 : Int32) - (2 : Int32)) = (0 : Int32) from by decide]
      refine Go.on (g' := (mkF m 88 _ [(.int (0 : Int32)), (.int (own_max (0 : Int32) (0 : Int32)))])) (X2.iaload hx (j := (0 : Int32)) (v := (.int (0 : Int32))) (by rw [e2]; exact A1.1) (State.isArrayOf_alike hZ.alike A1.2.1) A1.2.2 (by simp only [sz_set, sz_new]; decide) rfl (g := (mkF m 87 #[.val (.ref aw), .val (.int (1 : Int32)), .val (.int (3 : Int32)), .val (.ref o1), .val (.int (1 : Int32)), .val (.int (1 : Int32)), .val (.int y0), .val (.int (5 : Int32)), .val (.int (own_max (0 : Int32) (0 : Int32)))] [(.int (0 : Int32)), (.ref o1), (.int (own_max (0 : Int32) (0 : Int32)))])) rfl rfl (hb hby d5_87)) ?_
      refine Go.on (g' := (mkF m 90 _ [(.int y0), (.int (0 : Int32)), (.int (own_max (0 : Int32) (0 : Int32)))])) (fun t_ k_ => XS.iload X2.here hx rfl (hb hby d5_88) rfl k_) ?_
      refine Go.on (g' := (mkF m 91 _ [(.int ((0 : Int32) + y0)), (.int (own_max (0 : Int32) (0 : Int32)))])) (fun t_ k_ => XS.iadd X2.here hx rfl (hb hby d5_90) rfl k_) ?_
      refine Go.callS X2 hx hZ hby (by rw [hml]; rfl) (y := (⟨"java/lang/Math", "max", "(II)I"⟩ : MethodName)) hown (hw _ (List.mem_of_getElem? (i := 19) rfl)) (hw _ (List.mem_of_getElem? (i := 9) rfl)) (hw _ (List.mem_of_getElem? (i := 10) rfl)) (hw _ (List.mem_of_getElem? (i := 11) rfl)) (by decide) (argsL := [(.int (own_max (0 : Int32) (0 : Int32))), (.int ((0 : Int32) + y0))]) (rest := []) (rmM l Z w0 hw [] (own_max (0 : Int32) (0 : Int32)) ((0 : Int32) + y0) h1) e2 0 (by decide) (by decide) (by decide) (by decide) rfl pdM rfl (Nat.le_of_eq rfl) d5_91 (pcF := 94) rfl ?_
      intro v15 T15 L15 X15 hQ15
      obtain ⟨rfl, rfl, e15⟩ := hQ15
      rw [List.append_nil] at X15
      show Go p e below _ _ (mkF m 94 _ [(.int (own_max (own_max (0 : Int32) (0 : Int32)) ((0 : Int32) + y0)))])
      refine Go.on (g' := (mkF m 96 #[.val (.ref aw), .val (.int (1 : Int32)), .val (.int (3 : Int32)), .val (.ref o1), .val (.int (1 : Int32)), .val (.int (1 : Int32)), .val (.int y0), .val (.int (5 : Int32)), .val (.int (own_max (own_max (0 : Int32) (0 : Int32)) ((0 : Int32) + y0)))] [])) (fun t_ k_ => XS.istore X15.here hx rfl (hb hby d5_94) rfl (l' := #[.val (.ref aw), .val (.int (1 : Int32)), .val (.int (3 : Int32)), .val (.ref o1), .val (.int (1 : Int32)), .val (.int (1 : Int32)), .val (.int y0), .val (.int (5 : Int32)), .val (.int (own_max (own_max (0 : Int32) (0 : Int32)) ((0 : Int32) + y0)))]) rfl k_) ?_
      exact J T15 (own_max (own_max (0 : Int32) (0 : Int32)) ((0 : Int32) + y0)) X15 e15 (by rw [own_cell, if_pos q3])
def own_W21 (c : Cell) (y0 y1 : Int32) : Prop := c.slots.size = 2 ∧ c.slots[(0 : Int32).toNatClampNeg]? = some (.int y0) ∧ c.slots[(1 : Int32).toNatClampNeg]? = some (.int y1)
def own_B21 (c : Cell) (b11 b21 : Int32) : Prop := c.slots.size = 6 ∧ c.slots[(0 : Int32).toNatClampNeg]? = some (.int (0 : Int32)) ∧ c.slots[(1 : Int32).toNatClampNeg]? = some (.int (0 : Int32)) ∧ c.slots[(2 : Int32).toNatClampNeg]? = some (.int (0 : Int32)) ∧ c.slots[(3 : Int32).toNatClampNeg]? = some (.int b11) ∧ c.slots[(4 : Int32).toNatClampNeg]? = some (.int (0 : Int32)) ∧ c.slots[(5 : Int32).toNatClampNeg]? = some (.int b21)
set_option maxRecDepth 65536 in
set_option maxHeartbeats 40000000 in
theorem nd21_1_1 (l : Launch) (Z : State) (w0 : Array Value) (hw : ∀ d ∈ tables_1, d.before w0 Z = true) (ws : List Jvm.Cond) (aw ab ar : Addr) (p : Program) (e : Env) (s : State) (m : MethodId) (below : List Frame) (meth : Method) (c : Code) (h0 : Heap) (n0 : Nat) (T0 : State) (locs : List Loc) (X0 : Stand p l e ({ frames := 1, cells := 2, slots := 8, locals := 15 } : Room) s m #[.ref aw, .int (2 : Int32), .int (1 : Int32)] below meth c T0 locs 2 8) (hx : p.tables.exec = Jvm.exec) (hby : c.code = prog_7_method_2_code) (hml : c.maxLocals = 9) (hret : meth.sig.returnType = (some (.array .int))) (hlk : meth.locks = false) (hZ : Z.Warmed39 s.vm) (hh : Heap) (e0 : T0.heap = hh) (Z0 : n0 ≤ hh.size) (N0 : Fr n0 locs) (EX0 : Ext h0 hh) (nar : n0 ≤ ar) (mar : h0.size ≤ ar) (nwr : aw ≠ ar) (nbr : ab ≠ ar) (cw : Cell) (AW : Arr Z hh aw cw .int) (y0 y1 : Int32) (HW : own_W21 cw y0 y1) (cb : Cell) (AB : Arr Z hh ab cb .int) (b11 b21 : Int32) (HB : own_B21 cb b11 b21) (cr : Cell) (AR : Arr Z hh ar cr .int) (SZ : cr.slots.size = 2) (x1 : Int32) (H0 : cr.slots[(0 : Int32).toNatClampNeg]? = some (.int ((-1) : Int32))) (H1 : cr.slots[(1 : Int32).toNatClampNeg]? = some (.int x1)) (x7 x8 : Slot) (O7 : One x7) (O8 : One x8) : Go p e below (EndK s (own_Q2 Z (own_r11 y0 b11, x1) h0 n0) 2 8) T0 (mkF m 131 #[.val (.ref aw), .val (.int (2 : Int32)), .val (.int (1 : Int32)), .val (.ref ab), .val (.ref ar), .val (.int (1 : Int32)), .val (.int (1 : Int32)), x7, x8] []) := by
  refine Go.on (g' := (mkF m 133 _ [(.int (1 : Int32))])) (fun t_ k_ => XS.iload X0.here hx rfl (hb hby d5_131) rfl k_) ?_
  refine Go.ifc X0 hx hby d5_133 (pcT := 237) (pcF := 136) (by decide) (by decide) rfl (fun q => absurd q (by decide)) (fun q => ?_)
  clear q
  show Go p e below _ _ (mkF m 136 _ [])
  refine Go.on (g' := (mkF m 138 _ [(.int (1 : Int32))])) (fun t_ k_ => XS.iload X0.here hx rfl (hb hby d5_136) rfl k_) ?_
  refine Go.ifc X0 hx hby d5_138 (pcT := 237) (pcF := 141) (by decide) (by decide) rfl (fun q => absurd q (by decide)) (fun q => ?_)
  clear q
  show Go p e below _ _ (mkF m 141 _ [])
  refine Go.on (g' := (mkF m 143 _ [(.int (1 : Int32))])) (fun t_ k_ => XS.iload X0.here hx rfl (hb hby d5_141) rfl k_) ?_
  refine Go.on (g' := (mkF m 144 _ [(.int (1 : Int32)), (.int (1 : Int32))])) (fun t_ k_ => XS.iloadN X0.here hx rfl (hb hby d5_143) rfl k_) ?_
  refine Go.on (g' := (mkF m 145 _ [(.int (1 : Int32)), (.int (1 : Int32)), (.int (1 : Int32))])) (fun t_ k_ => XS.iconst X0.here hx rfl (hb hby d5_144) k_) ?_
  refine Go.on (g' := (mkF m 146 _ [(.int ((1 : Int32) + (1 : Int32))), (.int (1 : Int32))])) (fun t_ k_ => XS.iadd X0.here hx rfl (hb hby d5_145) rfl k_) ?_
  rw [show ((1 : Int32) + (1 : Int32)) = (2 : Int32) from by decide]
  refine Go.on (g' := (mkF m 147 _ [(.int ((1 : Int32) * (2 : Int32)))])) (fun t_ k_ => XS.imul X0.here hx rfl (hb hby d5_146) rfl k_) ?_
  rw [show ((1 : Int32) * (2 : Int32)) = (2 : Int32) from by decide]
  refine Go.on (g' := (mkF m 149 _ [(.int (1 : Int32)), (.int (2 : Int32))])) (fun t_ k_ => XS.iload X0.here hx rfl (hb hby d5_147) rfl k_) ?_
  refine Go.on (g' := (mkF m 150 _ [(.int ((2 : Int32) + (1 : Int32)))])) (fun t_ k_ => XS.iadd X0.here hx rfl (hb hby d5_149) rfl k_) ?_
  rw [show ((2 : Int32) + (1 : Int32)) = (3 : Int32) from by decide]
  refine Go.on (g' := (mkF m 152 #[.val (.ref aw), .val (.int (2 : Int32)), .val (.int (1 : Int32)), .val (.ref ab), .val (.ref ar), .val (.int (1 : Int32)), .val (.int (1 : Int32)), .val (.int (3 : Int32)), x8] [])) (fun t_ k_ => XS.istore X0.here hx rfl (hb hby d5_150) rfl (l' := #[.val (.ref aw), .val (.int (2 : Int32)), .val (.int (1 : Int32)), .val (.ref ab), .val (.ref ar), .val (.int (1 : Int32)), .val (.int (1 : Int32)), .val (.int (3 : Int32)), x8]) (XS.store1 (o := x7) rfl O7 rfl) k_) ?_
  refine Go.on (g' := (mkF m 153 _ [(.ref aw)])) (fun t_ k_ => XS.aloadN X0.here hx rfl (hb hby d5_152) rfl rfl k_) ?_
  refine Go.on (g' := (mkF m 155 _ [(.int (1 : Int32)), (.ref aw)])) (fun t_ k_ => XS.iload X0.here hx rfl (hb hby d5_153) rfl k_) ?_
  refine Go.on (g' := (mkF m 156 _ [(.int (1 : Int32)), (.int (1 : Int32)), (.ref aw)])) (fun t_ k_ => XS.iconst X0.here hx rfl (hb hby d5_155) k_) ?_
  refine Go.on (g' := (mkF m 157 _ [(.int ((1 : Int32) - (1 : Int32))), (.ref aw)])) (fun t_ k_ => XS.isub X0.here hx rfl (hb hby d5_156) rfl k_) ?_
  rw [show ((1 : Int32) - (1 : Int32)) = (0 : Int32) from by decide]
  refine Go.on (g' := (mkF m 158 _ [(.int (1 : Int32)), (.int (0 : Int32)), (.ref aw)])) (fun t_ k_ => XS.iloadN X0.here hx rfl (hb hby d5_157) rfl k_) ?_
  refine Go.on (g' := (mkF m 159 _ [(.int ((0 : Int32) * (1 : Int32))), (.ref aw)])) (fun t_ k_ => XS.imul X0.here hx rfl (hb hby d5_158) rfl k_) ?_
  rw [show ((0 : Int32) * (1 : Int32)) = (0 : Int32) from by decide]
  refine Go.on (g' := (mkF m 161 _ [(.int (1 : Int32)), (.int (0 : Int32)), (.ref aw)])) (fun t_ k_ => XS.iload X0.here hx rfl (hb hby d5_159) rfl k_) ?_
  refine Go.on (g' := (mkF m 162 _ [(.int ((0 : Int32) + (1 : Int32))), (.ref aw)])) (fun t_ k_ => XS.iadd X0.here hx rfl (hb hby d5_161) rfl k_) ?_
  rw [show ((0 : Int32) + (1 : Int32)) = (1 : Int32) from by decide]
  refine Go.on (g' := (mkF m 163 _ [(.int (1 : Int32)), (.int (1 : Int32)), (.ref aw)])) (fun t_ k_ => XS.iconst X0.here hx rfl (hb hby d5_162) k_) ?_
  refine Go.on (g' := (mkF m 164 _ [(.int ((1 : Int32) - (1 : Int32))), (.ref aw)])) (fun t_ k_ => XS.isub X0.here hx rfl (hb hby d5_163) rfl k_) ?_
  rw [show ((1 : Int32) - (1 : Int32)) = (0 : Int32) from by decide]
  refine Go.on (g' := (mkF m 165 _ [(.int y0)])) (X0.iaload hx (j := (0 : Int32)) (v := (.int y0)) (by rw [e0]; exact AW.1) (State.isArrayOf_alike hZ.alike AW.2.1) AW.2.2 (by rw [HW.1]; decide) HW.2.1 (g := (mkF m 164 #[.val (.ref aw), .val (.int (2 : Int32)), .val (.int (1 : Int32)), .val (.ref ab), .val (.ref ar), .val (.int (1 : Int32)), .val (.int (1 : Int32)), .val (.int (3 : Int32)), x8] [(.int (0 : Int32)), (.ref aw)])) rfl rfl (hb hby d5_164)) ?_
  refine Go.on (g' := (mkF m 167 #[.val (.ref aw), .val (.int (2 : Int32)), .val (.int (1 : Int32)), .val (.ref ab), .val (.ref ar), .val (.int (1 : Int32)), .val (.int (1 : Int32)), .val (.int (3 : Int32)), .val (.int y0)] [])) (fun t_ k_ => XS.istore X0.here hx rfl (hb hby d5_165) rfl (l' := #[.val (.ref aw), .val (.int (2 : Int32)), .val (.int (1 : Int32)), .val (.ref ab), .val (.ref ar), .val (.int (1 : Int32)), .val (.int (1 : Int32)), .val (.int (3 : Int32)), .val (.int y0)]) (XS.store1 (o := x8) rfl O8 rfl) k_) ?_
  refine Go.on (g' := (mkF m 169 _ [(.int y0)])) (fun t_ k_ => XS.iload X0.here hx rfl (hb hby d5_167) rfl k_) ?_
  refine Go.join (P := fun _ : Unit => ¬ (0 < y0 ∧ b11 = (0 : Int32) + y0)) (g := fun _ => (mkF m 210 #[.val (.ref aw), .val (.int (2 : Int32)), .val (.int (1 : Int32)), .val (.ref ab), .val (.ref ar), .val (.int (1 : Int32)), .val (.int (1 : Int32)), .val (.int (3 : Int32)), .val (.int y0)] [])) (fun _ hJ210 => ?_) (fun J210 => ?_)
  · show Go p e below _ _ (mkF m 210 _ [])
    refine Go.on (g' := (mkF m 211 _ [(.ref ab)])) (fun t_ k_ => XS.aloadN X0.here hx rfl (hb hby d5_210) rfl rfl k_) ?_
    refine Go.on (g' := (mkF m 213 _ [(.int (3 : Int32)), (.ref ab)])) (fun t_ k_ => XS.iload X0.here hx rfl (hb hby d5_211) rfl k_) ?_
    refine Go.on (g' := (mkF m 214 _ [(.int b11)])) (X0.iaload hx (j := (3 : Int32)) (v := (.int b11)) (by rw [e0]; exact AB.1) (State.isArrayOf_alike hZ.alike AB.2.1) AB.2.2 (by rw [HB.1]; decide) HB.2.2.2.2.1 (g := (mkF m 213 #[.val (.ref aw), .val (.int (2 : Int32)), .val (.int (1 : Int32)), .val (.ref ab), .val (.ref ar), .val (.int (1 : Int32)), .val (.int (1 : Int32)), .val (.int (3 : Int32)), .val (.int y0)] [(.int (3 : Int32)), (.ref ab)])) rfl rfl (hb hby d5_213)) ?_
    refine Go.on (g' := (mkF m 215 _ [(.ref ab), (.int b11)])) (fun t_ k_ => XS.aloadN X0.here hx rfl (hb hby d5_214) rfl rfl k_) ?_
    refine Go.on (g' := (mkF m 217 _ [(.int (3 : Int32)), (.ref ab), (.int b11)])) (fun t_ k_ => XS.iload X0.here hx rfl (hb hby d5_215) rfl k_) ?_
    refine Go.on (g' := (mkF m 218 _ [(.int (1 : Int32)), (.int (3 : Int32)), (.ref ab), (.int b11)])) (fun t_ k_ => XS.iloadN X0.here hx rfl (hb hby d5_217) rfl k_) ?_
    refine Go.on (g' := (mkF m 219 _ [(.int ((3 : Int32) - (1 : Int32))), (.ref ab), (.int b11)])) (fun t_ k_ => XS.isub X0.here hx rfl (hb hby d5_218) rfl k_) ?_
    rw [show ((3 : Int32) - (1 : Int32)) = (2 : Int32) from by decide]
    refine Go.on (g' := (mkF m 220 _ [(.int (1 : Int32)), (.int (2 : Int32)), (.ref ab), (.int b11)])) (fun t_ k_ => XS.iconst X0.here hx rfl (hb hby d5_219) k_) ?_
    refine Go.on (g' := (mkF m 221 _ [(.int ((2 : Int32) - (1 : Int32))), (.ref ab), (.int b11)])) (fun t_ k_ => XS.isub X0.here hx rfl (hb hby d5_220) rfl k_) ?_
    rw [show ((2 : Int32) - (1 : Int32)) = (1 : Int32) from by decide]
    refine Go.on (g' := (mkF m 222 _ [(.int (0 : Int32)), (.int b11)])) (X0.iaload hx (j := (1 : Int32)) (v := (.int (0 : Int32))) (by rw [e0]; exact AB.1) (State.isArrayOf_alike hZ.alike AB.2.1) AB.2.2 (by rw [HB.1]; decide) HB.2.2.1 (g := (mkF m 221 #[.val (.ref aw), .val (.int (2 : Int32)), .val (.int (1 : Int32)), .val (.ref ab), .val (.ref ar), .val (.int (1 : Int32)), .val (.int (1 : Int32)), .val (.int (3 : Int32)), .val (.int y0)] [(.int (1 : Int32)), (.ref ab), (.int b11)])) rfl rfl (hb hby d5_221)) ?_
    refine Go.icmp X0 hx hby d5_222 (pcT := 231) (pcF := 225) (by decide) (by decide) rfl (fun q => ?_) (fun q => ?_)
    · have q1 := iNe.1 q
      clear q
      show Go p e below _ _ (mkF m 231 _ [])
      refine Go.on (g' := (mkF m 234 #[.val (.ref aw), .val (.int (2 : Int32)), .val (.int (1 : Int32)), .val (.ref ab), .val (.ref ar), .val (.int (1 : Int32)), .val (.int ((1 : Int32) + ((-1) : Int32))), .val (.int (3 : Int32)), .val (.int y0)] [])) (fun t_ k_ => XS.iinc X0.here hx rfl (hb hby d5_231) rfl (l' := #[.val (.ref aw), .val (.int (2 : Int32)), .val (.int (1 : Int32)), .val (.ref ab), .val (.ref ar), .val (.int (1 : Int32)), .val (.int ((1 : Int32) + ((-1) : Int32))), .val (.int (3 : Int32)), .val (.int y0)]) rfl k_) ?_
      rw [show ((1 : Int32) + ((-1) : Int32)) = (0 : Int32) from by decide]
      refine Go.on (g' := (mkF m 131 _ [])) (fun t_ k_ => XS.goto X0.here hx rfl (pc0 := 234) (pc' := 131) rfl (hb hby d5_234) (by decide) (by decide) k_) ?_
      refine Go.on (g' := (mkF m 133 _ [(.int (1 : Int32))])) (fun t_ k_ => XS.iload X0.here hx rfl (hb hby d5_131) rfl k_) ?_
      refine Go.ifc X0 hx hby d5_133 (pcT := 237) (pcF := 136) (by decide) (by decide) rfl (fun q => absurd q (by decide)) (fun q => ?_)
      clear q
      show Go p e below _ _ (mkF m 136 _ [])
      refine Go.on (g' := (mkF m 138 _ [(.int (0 : Int32))])) (fun t_ k_ => XS.iload X0.here hx rfl (hb hby d5_136) rfl k_) ?_
      refine Go.ifc X0 hx hby d5_138 (pcT := 237) (pcF := 141) (by decide) (by decide) rfl (fun q => ?_) (fun q => absurd q (by decide))
      clear q
      show Go p e below _ _ (mkF m 237 _ [])
      refine Go.on (g' := (mkF m 239 _ [(.ref ar)])) (fun t_ k_ => XS.aload X0.here hx rfl (hb hby d5_237) rfl rfl k_) ?_
      exact Go.retA X0 hx hlk hret hby d5_239 rfl rfl (by decide) (by decide) (by rw [e0, own_r11, if_neg hJ210]; exact ⟨ar, _, rfl, N0, EX0, mar, AR, SZ, H0, H1⟩)
    · have q1 := iNe.2 q
      clear q
      show Go p e below _ _ (mkF m 225 _ [])
      refine Go.on (g' := (mkF m 228 #[.val (.ref aw), .val (.int (2 : Int32)), .val (.int (1 : Int32)), .val (.ref ab), .val (.ref ar), .val (.int ((1 : Int32) + ((-1) : Int32))), .val (.int (1 : Int32)), .val (.int (3 : Int32)), .val (.int y0)] [])) (fun t_ k_ => XS.iinc X0.here hx rfl (hb hby d5_225) rfl (l' := #[.val (.ref aw), .val (.int (2 : Int32)), .val (.int (1 : Int32)), .val (.ref ab), .val (.ref ar), .val (.int ((1 : Int32) + ((-1) : Int32))), .val (.int (1 : Int32)), .val (.int (3 : Int32)), .val (.int y0)]) rfl k_) ?_
      rw [show ((1 : Int32) + ((-1) : Int32)) = (0 : Int32) from by decide]
      refine Go.on (g' := (mkF m 234 _ [])) (fun t_ k_ => XS.goto X0.here hx rfl (pc0 := 228) (pc' := 234) rfl (hb hby d5_228) (by decide) (by decide) k_) ?_
      refine Go.on (g' := (mkF m 131 _ [])) (fun t_ k_ => XS.goto X0.here hx rfl (pc0 := 234) (pc' := 131) rfl (hb hby d5_234) (by decide) (by decide) k_) ?_
      refine Go.on (g' := (mkF m 133 _ [(.int (0 : Int32))])) (fun t_ k_ => XS.iload X0.here hx rfl (hb hby d5_131) rfl k_) ?_
      refine Go.ifc X0 hx hby d5_133 (pcT := 237) (pcF := 136) (by decide) (by decide) rfl (fun q => ?_) (fun q => absurd q (by decide))
      clear q
      show Go p e below _ _ (mkF m 237 _ [])
      refine Go.on (g' := (mkF m 239 _ [(.ref ar)])) (fun t_ k_ => XS.aload X0.here hx rfl (hb hby d5_237) rfl rfl k_) ?_
      exact Go.retA X0 hx hlk hret hby d5_239 rfl rfl (by decide) (by decide) (by rw [e0, own_r11, if_neg hJ210]; exact ⟨ar, _, rfl, N0, EX0, mar, AR, SZ, H0, H1⟩)
  · show Go p e below _ _ (mkF m 169 _ [(.int y0)])
    refine Go.ifc X0 hx hby d5_169 (pcT := 210) (pcF := 172) (by decide) (by decide) rfl (fun q => ?_) (fun q => ?_)
    · have q2 := iLe.1 q
      clear q
      show Go p e below _ _ (mkF m 210 _ [])
      exact J210 () (fun z => q2 z.1)
    · have q2 := iLe.2 q
      clear q
      show Go p e below _ _ (mkF m 172 _ [])
      refine Go.on (g' := (mkF m 173 _ [(.ref ab)])) (fun t_ k_ => XS.aloadN X0.here hx rfl (hb hby d5_172) rfl rfl k_) ?_
      refine Go.on (g' := (mkF m 175 _ [(.int (3 : Int32)), (.ref ab)])) (fun t_ k_ => XS.iload X0.here hx rfl (hb hby d5_173) rfl k_) ?_
      refine Go.on (g' := (mkF m 176 _ [(.int b11)])) (X0.iaload hx (j := (3 : Int32)) (v := (.int b11)) (by rw [e0]; exact AB.1) (State.isArrayOf_alike hZ.alike AB.2.1) AB.2.2 (by rw [HB.1]; decide) HB.2.2.2.2.1 (g := (mkF m 175 #[.val (.ref aw), .val (.int (2 : Int32)), .val (.int (1 : Int32)), .val (.ref ab), .val (.ref ar), .val (.int (1 : Int32)), .val (.int (1 : Int32)), .val (.int (3 : Int32)), .val (.int y0)] [(.int (3 : Int32)), (.ref ab)])) rfl rfl (hb hby d5_175)) ?_
      refine Go.on (g' := (mkF m 177 _ [(.ref ab), (.int b11)])) (fun t_ k_ => XS.aloadN X0.here hx rfl (hb hby d5_176) rfl rfl k_) ?_
      refine Go.on (g' := (mkF m 179 _ [(.int (3 : Int32)), (.ref ab), (.int b11)])) (fun t_ k_ => XS.iload X0.here hx rfl (hb hby d5_177) rfl k_) ?_
      refine Go.on (g' := (mkF m 180 _ [(.int (1 : Int32)), (.int (3 : Int32)), (.ref ab), (.int b11)])) (fun t_ k_ => XS.iloadN X0.here hx rfl (hb hby d5_179) rfl k_) ?_
      refine Go.on (g' := (mkF m 181 _ [(.int ((3 : Int32) - (1 : Int32))), (.ref ab), (.int b11)])) (fun t_ k_ => XS.isub X0.here hx rfl (hb hby d5_180) rfl k_) ?_
      rw [show ((3 : Int32) - (1 : Int32)) = (2 : Int32) from by decide]
      refine Go.on (g' := (mkF m 182 _ [(.int (2 : Int32)), (.int (2 : Int32)), (.ref ab), (.int b11)])) (fun t_ k_ => XS.iconst X0.here hx rfl (hb hby d5_181) k_) ?_
      refine Go.on (g' := (mkF m 183 _ [(.int ((2 : Int32) - (2 : Int32))), (.ref ab), (.int b11)])) (fun t_ k_ => XS.isub X0.here hx rfl (hb hby d5_182) rfl k_) ?_
      rw [show ((2 : Int32) - (2 : Int32)) = (0 : Int32) from by decide]
      refine Go.on (g' := (mkF m 184 _ [(.int (0 : Int32)), (.int b11)])) (X0.iaload hx (j := (0 : Int32)) (v := (.int (0 : Int32))) (by rw [e0]; exact AB.1) (State.isArrayOf_alike hZ.alike AB.2.1) AB.2.2 (by rw [HB.1]; decide) HB.2.1 (g := (mkF m 183 #[.val (.ref aw), .val (.int (2 : Int32)), .val (.int (1 : Int32)), .val (.ref ab), .val (.ref ar), .val (.int (1 : Int32)), .val (.int (1 : Int32)), .val (.int (3 : Int32)), .val (.int y0)] [(.int (0 : Int32)), (.ref ab), (.int b11)])) rfl rfl (hb hby d5_183)) ?_
      refine Go.on (g' := (mkF m 186 _ [(.int y0), (.int (0 : Int32)), (.int b11)])) (fun t_ k_ => XS.iload X0.here hx rfl (hb hby d5_184) rfl k_) ?_
      refine Go.on (g' := (mkF m 187 _ [(.int ((0 : Int32) + y0)), (.int b11)])) (fun t_ k_ => XS.iadd X0.here hx rfl (hb hby d5_186) rfl k_) ?_
      refine Go.icmp X0 hx hby d5_187 (pcT := 210) (pcF := 190) (by decide) (by decide) rfl (fun q => ?_) (fun q => ?_)
      · have q3 := iNe.1 q
        clear q
        show Go p e below _ _ (mkF m 210 _ [])
        exact J210 () (fun z => q3 z.2)
      · have q3 := iNe.2 q
        clear q
        show Go p e below _ _ (mkF m 190 _ [])
        refine Go.on (g' := (mkF m 192 _ [(.ref ar)])) (fun t_ k_ => XS.aload X0.here hx rfl (hb hby d5_190) rfl rfl k_) ?_
        refine Go.on (g' := (mkF m 194 _ [(.int (1 : Int32)), (.ref ar)])) (fun t_ k_ => XS.iload X0.here hx rfl (hb hby d5_192) rfl k_) ?_
        refine Go.on (g' := (mkF m 195 _ [(.int (1 : Int32)), (.int (1 : Int32)), (.ref ar)])) (fun t_ k_ => XS.iconst X0.here hx rfl (hb hby d5_194) k_) ?_
        refine Go.on (g' := (mkF m 196 _ [(.int ((1 : Int32) - (1 : Int32))), (.ref ar)])) (fun t_ k_ => XS.isub X0.here hx rfl (hb hby d5_195) rfl k_) ?_
        rw [show ((1 : Int32) - (1 : Int32)) = (0 : Int32) from by decide]
        refine Go.on (g' := (mkF m 198 _ [(.int (1 : Int32)), (.int (0 : Int32)), (.ref ar)])) (fun t_ k_ => XS.iload X0.here hx rfl (hb hby d5_196) rfl k_) ?_
        refine Go.on (g' := (mkF m 199 _ [(.int (1 : Int32)), (.int (1 : Int32)), (.int (0 : Int32)), (.ref ar)])) (fun t_ k_ => XS.iconst X0.here hx rfl (hb hby d5_198) k_) ?_
        refine Go.on (g' := (mkF m 200 _ [(.int ((1 : Int32) - (1 : Int32))), (.int (0 : Int32)), (.ref ar)])) (fun t_ k_ => XS.isub X0.here hx rfl (hb hby d5_199) rfl k_) ?_
        rw [show ((1 : Int32) - (1 : Int32)) = (0 : Int32) from by decide]
        have hi_200 : ¬ ((0 : Int32) < 0 ∨ cr.slots.size ≤ ((0 : Int32)).toNatClampNeg) := by rw [SZ]; decide
        obtain ⟨T1, h1, X1, e1, W1, st1⟩ := stI X0 hx hZ e0 AR (j := (0 : Int32)) hi_200 (g := (mkF m 200 #[.val (.ref aw), .val (.int (2 : Int32)), .val (.int (1 : Int32)), .val (.ref ab), .val (.ref ar), .val (.int (1 : Int32)), .val (.int (1 : Int32)), .val (.int (3 : Int32)), .val (.int y0)] [(.int (0 : Int32)), (.int (0 : Int32)), (.ref ar)])) rfl rfl (hb hby d5_200)
        have N1 := Fr.snoc X1 N0 nar
        have Z1 : n0 ≤ h1.size := by rw [W1.size]; exact Z0
        have arr_aw_1 := AW.other W1 nwr
        have arr_ab_1 := AB.other W1 nbr
        have EX_1 := extWr EX0 W1 mar
        have A1 := AR.same W1
        refine Go.on (g' := (mkF m 201 _ [])) (st1) ?_
        have sz1 := (sz_set cr ((0 : Int32)).toNatClampNeg (.int (0 : Int32))).trans SZ
        have hr0_1 := get_hit (v := .int (0 : Int32)) hi_200 (rfl : (0 : Int32) = (0 : Int32))
        have hr1_1 := (get_miss (c := cr) (j := (0 : Int32)) (k := (1 : Int32)) (v := .int (0 : Int32)) (by decide) (by decide) (by decide)).trans H1
        refine Go.on (g' := (mkF m 204 #[.val (.ref aw), .val (.int (2 : Int32)), .val (.int (1 : Int32)), .val (.ref ab), .val (.ref ar), .val (.int ((1 : Int32) + ((-1) : Int32))), .val (.int (1 : Int32)), .val (.int (3 : Int32)), .val (.int y0)] [])) (fun t_ k_ => XS.iinc X1.here hx rfl (hb hby d5_201) rfl (l' := #[.val (.ref aw), .val (.int (2 : Int32)), .val (.int (1 : Int32)), .val (.ref ab), .val (.ref ar), .val (.int ((1 : Int32) + ((-1) : Int32))), .val (.int (1 : Int32)), .val (.int (3 : Int32)), .val (.int y0)]) rfl k_) ?_
        rw [show ((1 : Int32) + ((-1) : Int32)) = (0 : Int32) from by decide]
        refine Go.on (g' := (mkF m 207 #[.val (.ref aw), .val (.int (2 : Int32)), .val (.int (1 : Int32)), .val (.ref ab), .val (.ref ar), .val (.int (0 : Int32)), .val (.int ((1 : Int32) + ((-1) : Int32))), .val (.int (3 : Int32)), .val (.int y0)] [])) (fun t_ k_ => XS.iinc X1.here hx rfl (hb hby d5_204) rfl (l' := #[.val (.ref aw), .val (.int (2 : Int32)), .val (.int (1 : Int32)), .val (.ref ab), .val (.ref ar), .val (.int (0 : Int32)), .val (.int ((1 : Int32) + ((-1) : Int32))), .val (.int (3 : Int32)), .val (.int y0)]) rfl k_) ?_
        rw [show ((1 : Int32) + ((-1) : Int32)) = (0 : Int32) from by decide]
        refine Go.on (g' := (mkF m 234 _ [])) (fun t_ k_ => XS.goto X1.here hx rfl (pc0 := 207) (pc' := 234) rfl (hb hby d5_207) (by decide) (by decide) k_) ?_
        refine Go.on (g' := (mkF m 131 _ [])) (fun t_ k_ => XS.goto X1.here hx rfl (pc0 := 234) (pc' := 131) rfl (hb hby d5_234) (by decide) (by decide) k_) ?_
        refine Go.on (g' := (mkF m 133 _ [(.int (0 : Int32))])) (fun t_ k_ => XS.iload X1.here hx rfl (hb hby d5_131) rfl k_) ?_
        refine Go.ifc X1 hx hby d5_133 (pcT := 237) (pcF := 136) (by decide) (by decide) rfl (fun q => ?_) (fun q => absurd q (by decide))
        clear q
        show Go p e below _ _ (mkF m 237 _ [])
        refine Go.on (g' := (mkF m 239 _ [(.ref ar)])) (fun t_ k_ => XS.aload X1.here hx rfl (hb hby d5_237) rfl rfl k_) ?_
        exact Go.retA X1 hx hlk hret hby d5_239 rfl rfl (by decide) (by decide) (by rw [e1, own_r11, if_pos ⟨q2, q3⟩]; exact ⟨ar, _, rfl, N1, EX_1, mar, A1, sz1, hr0_1, hr1_1⟩)
set_option maxRecDepth 65536 in
set_option maxHeartbeats 40000000 in
theorem nd21_2_1 (l : Launch) (Z : State) (w0 : Array Value) (hw : ∀ d ∈ tables_1, d.before w0 Z = true) (ws : List Jvm.Cond) (aw ab ar : Addr) (p : Program) (e : Env) (s : State) (m : MethodId) (below : List Frame) (meth : Method) (c : Code) (h0 : Heap) (n0 : Nat) (T0 : State) (locs : List Loc) (X0 : Stand p l e ({ frames := 1, cells := 2, slots := 8, locals := 15 } : Room) s m #[.ref aw, .int (2 : Int32), .int (1 : Int32)] below meth c T0 locs 2 8) (hx : p.tables.exec = Jvm.exec) (hby : c.code = prog_7_method_2_code) (hml : c.maxLocals = 9) (hret : meth.sig.returnType = (some (.array .int))) (hlk : meth.locks = false) (hZ : Z.Warmed39 s.vm) (hh : Heap) (e0 : T0.heap = hh) (Z0 : n0 ≤ hh.size) (N0 : Fr n0 locs) (EX0 : Ext h0 hh) (nar : n0 ≤ ar) (mar : h0.size ≤ ar) (nwr : aw ≠ ar) (nbr : ab ≠ ar) (cw : Cell) (AW : Arr Z hh aw cw .int) (y0 y1 : Int32) (HW : own_W21 cw y0 y1) (cb : Cell) (AB : Arr Z hh ab cb .int) (b11 b21 : Int32) (HB : own_B21 cb b11 b21) (cr : Cell) (AR : Arr Z hh ar cr .int) (SZ : cr.slots.size = 2)  (H0 : cr.slots[(0 : Int32).toNatClampNeg]? = some (.int ((-1) : Int32))) (H1 : cr.slots[(1 : Int32).toNatClampNeg]? = some (.int ((-1) : Int32))) (x7 x8 : Slot) (O7 : One x7) (O8 : One x8) : Go p e below (EndK s (own_Q2 Z (own_21 y0 y1 b11 b21) h0 n0) 2 8) T0 (mkF m 131 #[.val (.ref aw), .val (.int (2 : Int32)), .val (.int (1 : Int32)), .val (.ref ab), .val (.ref ar), .val (.int (2 : Int32)), .val (.int (1 : Int32)), x7, x8] []) := by
  refine Go.on (g' := (mkF m 133 _ [(.int (2 : Int32))])) (fun t_ k_ => XS.iload X0.here hx rfl (hb hby d5_131) rfl k_) ?_
  refine Go.ifc X0 hx hby d5_133 (pcT := 237) (pcF := 136) (by decide) (by decide) rfl (fun q => absurd q (by decide)) (fun q => ?_)
  clear q
  show Go p e below _ _ (mkF m 136 _ [])
  refine Go.on (g' := (mkF m 138 _ [(.int (1 : Int32))])) (fun t_ k_ => XS.iload X0.here hx rfl (hb hby d5_136) rfl k_) ?_
  refine Go.ifc X0 hx hby d5_138 (pcT := 237) (pcF := 141) (by decide) (by decide) rfl (fun q => absurd q (by decide)) (fun q => ?_)
  clear q
  show Go p e below _ _ (mkF m 141 _ [])
  refine Go.on (g' := (mkF m 143 _ [(.int (2 : Int32))])) (fun t_ k_ => XS.iload X0.here hx rfl (hb hby d5_141) rfl k_) ?_
  refine Go.on (g' := (mkF m 144 _ [(.int (1 : Int32)), (.int (2 : Int32))])) (fun t_ k_ => XS.iloadN X0.here hx rfl (hb hby d5_143) rfl k_) ?_
  refine Go.on (g' := (mkF m 145 _ [(.int (1 : Int32)), (.int (1 : Int32)), (.int (2 : Int32))])) (fun t_ k_ => XS.iconst X0.here hx rfl (hb hby d5_144) k_) ?_
  refine Go.on (g' := (mkF m 146 _ [(.int ((1 : Int32) + (1 : Int32))), (.int (2 : Int32))])) (fun t_ k_ => XS.iadd X0.here hx rfl (hb hby d5_145) rfl k_) ?_
  rw [show ((1 : Int32) + (1 : Int32)) = (2 : Int32) from by decide]
  refine Go.on (g' := (mkF m 147 _ [(.int ((2 : Int32) * (2 : Int32)))])) (fun t_ k_ => XS.imul X0.here hx rfl (hb hby d5_146) rfl k_) ?_
  rw [show ((2 : Int32) * (2 : Int32)) = (4 : Int32) from by decide]
  refine Go.on (g' := (mkF m 149 _ [(.int (1 : Int32)), (.int (4 : Int32))])) (fun t_ k_ => XS.iload X0.here hx rfl (hb hby d5_147) rfl k_) ?_
  refine Go.on (g' := (mkF m 150 _ [(.int ((4 : Int32) + (1 : Int32)))])) (fun t_ k_ => XS.iadd X0.here hx rfl (hb hby d5_149) rfl k_) ?_
  rw [show ((4 : Int32) + (1 : Int32)) = (5 : Int32) from by decide]
  refine Go.on (g' := (mkF m 152 #[.val (.ref aw), .val (.int (2 : Int32)), .val (.int (1 : Int32)), .val (.ref ab), .val (.ref ar), .val (.int (2 : Int32)), .val (.int (1 : Int32)), .val (.int (5 : Int32)), x8] [])) (fun t_ k_ => XS.istore X0.here hx rfl (hb hby d5_150) rfl (l' := #[.val (.ref aw), .val (.int (2 : Int32)), .val (.int (1 : Int32)), .val (.ref ab), .val (.ref ar), .val (.int (2 : Int32)), .val (.int (1 : Int32)), .val (.int (5 : Int32)), x8]) (XS.store1 (o := x7) rfl O7 rfl) k_) ?_
  refine Go.on (g' := (mkF m 153 _ [(.ref aw)])) (fun t_ k_ => XS.aloadN X0.here hx rfl (hb hby d5_152) rfl rfl k_) ?_
  refine Go.on (g' := (mkF m 155 _ [(.int (2 : Int32)), (.ref aw)])) (fun t_ k_ => XS.iload X0.here hx rfl (hb hby d5_153) rfl k_) ?_
  refine Go.on (g' := (mkF m 156 _ [(.int (1 : Int32)), (.int (2 : Int32)), (.ref aw)])) (fun t_ k_ => XS.iconst X0.here hx rfl (hb hby d5_155) k_) ?_
  refine Go.on (g' := (mkF m 157 _ [(.int ((2 : Int32) - (1 : Int32))), (.ref aw)])) (fun t_ k_ => XS.isub X0.here hx rfl (hb hby d5_156) rfl k_) ?_
  rw [show ((2 : Int32) - (1 : Int32)) = (1 : Int32) from by decide]
  refine Go.on (g' := (mkF m 158 _ [(.int (1 : Int32)), (.int (1 : Int32)), (.ref aw)])) (fun t_ k_ => XS.iloadN X0.here hx rfl (hb hby d5_157) rfl k_) ?_
  refine Go.on (g' := (mkF m 159 _ [(.int ((1 : Int32) * (1 : Int32))), (.ref aw)])) (fun t_ k_ => XS.imul X0.here hx rfl (hb hby d5_158) rfl k_) ?_
  rw [show ((1 : Int32) * (1 : Int32)) = (1 : Int32) from by decide]
  refine Go.on (g' := (mkF m 161 _ [(.int (1 : Int32)), (.int (1 : Int32)), (.ref aw)])) (fun t_ k_ => XS.iload X0.here hx rfl (hb hby d5_159) rfl k_) ?_
  refine Go.on (g' := (mkF m 162 _ [(.int ((1 : Int32) + (1 : Int32))), (.ref aw)])) (fun t_ k_ => XS.iadd X0.here hx rfl (hb hby d5_161) rfl k_) ?_
  rw [show ((1 : Int32) + (1 : Int32)) = (2 : Int32) from by decide]
  refine Go.on (g' := (mkF m 163 _ [(.int (1 : Int32)), (.int (2 : Int32)), (.ref aw)])) (fun t_ k_ => XS.iconst X0.here hx rfl (hb hby d5_162) k_) ?_
  refine Go.on (g' := (mkF m 164 _ [(.int ((2 : Int32) - (1 : Int32))), (.ref aw)])) (fun t_ k_ => XS.isub X0.here hx rfl (hb hby d5_163) rfl k_) ?_
  rw [show ((2 : Int32) - (1 : Int32)) = (1 : Int32) from by decide]
  refine Go.on (g' := (mkF m 165 _ [(.int y1)])) (X0.iaload hx (j := (1 : Int32)) (v := (.int y1)) (by rw [e0]; exact AW.1) (State.isArrayOf_alike hZ.alike AW.2.1) AW.2.2 (by rw [HW.1]; decide) HW.2.2 (g := (mkF m 164 #[.val (.ref aw), .val (.int (2 : Int32)), .val (.int (1 : Int32)), .val (.ref ab), .val (.ref ar), .val (.int (2 : Int32)), .val (.int (1 : Int32)), .val (.int (5 : Int32)), x8] [(.int (1 : Int32)), (.ref aw)])) rfl rfl (hb hby d5_164)) ?_
  refine Go.on (g' := (mkF m 167 #[.val (.ref aw), .val (.int (2 : Int32)), .val (.int (1 : Int32)), .val (.ref ab), .val (.ref ar), .val (.int (2 : Int32)), .val (.int (1 : Int32)), .val (.int (5 : Int32)), .val (.int y1)] [])) (fun t_ k_ => XS.istore X0.here hx rfl (hb hby d5_165) rfl (l' := #[.val (.ref aw), .val (.int (2 : Int32)), .val (.int (1 : Int32)), .val (.ref ab), .val (.ref ar), .val (.int (2 : Int32)), .val (.int (1 : Int32)), .val (.int (5 : Int32)), .val (.int y1)]) (XS.store1 (o := x8) rfl O8 rfl) k_) ?_
  refine Go.on (g' := (mkF m 169 _ [(.int y1)])) (fun t_ k_ => XS.iload X0.here hx rfl (hb hby d5_167) rfl k_) ?_
  refine Go.join (P := fun _ : Unit => ¬ (0 < y1 ∧ b21 = (0 : Int32) + y1)) (g := fun _ => (mkF m 210 #[.val (.ref aw), .val (.int (2 : Int32)), .val (.int (1 : Int32)), .val (.ref ab), .val (.ref ar), .val (.int (2 : Int32)), .val (.int (1 : Int32)), .val (.int (5 : Int32)), .val (.int y1)] [])) (fun _ hJ210 => ?_) (fun J210 => ?_)
  · show Go p e below _ _ (mkF m 210 _ [])
    refine Go.on (g' := (mkF m 211 _ [(.ref ab)])) (fun t_ k_ => XS.aloadN X0.here hx rfl (hb hby d5_210) rfl rfl k_) ?_
    refine Go.on (g' := (mkF m 213 _ [(.int (5 : Int32)), (.ref ab)])) (fun t_ k_ => XS.iload X0.here hx rfl (hb hby d5_211) rfl k_) ?_
    refine Go.on (g' := (mkF m 214 _ [(.int b21)])) (X0.iaload hx (j := (5 : Int32)) (v := (.int b21)) (by rw [e0]; exact AB.1) (State.isArrayOf_alike hZ.alike AB.2.1) AB.2.2 (by rw [HB.1]; decide) HB.2.2.2.2.2.2 (g := (mkF m 213 #[.val (.ref aw), .val (.int (2 : Int32)), .val (.int (1 : Int32)), .val (.ref ab), .val (.ref ar), .val (.int (2 : Int32)), .val (.int (1 : Int32)), .val (.int (5 : Int32)), .val (.int y1)] [(.int (5 : Int32)), (.ref ab)])) rfl rfl (hb hby d5_213)) ?_
    refine Go.on (g' := (mkF m 215 _ [(.ref ab), (.int b21)])) (fun t_ k_ => XS.aloadN X0.here hx rfl (hb hby d5_214) rfl rfl k_) ?_
    refine Go.on (g' := (mkF m 217 _ [(.int (5 : Int32)), (.ref ab), (.int b21)])) (fun t_ k_ => XS.iload X0.here hx rfl (hb hby d5_215) rfl k_) ?_
    refine Go.on (g' := (mkF m 218 _ [(.int (1 : Int32)), (.int (5 : Int32)), (.ref ab), (.int b21)])) (fun t_ k_ => XS.iloadN X0.here hx rfl (hb hby d5_217) rfl k_) ?_
    refine Go.on (g' := (mkF m 219 _ [(.int ((5 : Int32) - (1 : Int32))), (.ref ab), (.int b21)])) (fun t_ k_ => XS.isub X0.here hx rfl (hb hby d5_218) rfl k_) ?_
    rw [show ((5 : Int32) - (1 : Int32)) = (4 : Int32) from by decide]
    refine Go.on (g' := (mkF m 220 _ [(.int (1 : Int32)), (.int (4 : Int32)), (.ref ab), (.int b21)])) (fun t_ k_ => XS.iconst X0.here hx rfl (hb hby d5_219) k_) ?_
    refine Go.on (g' := (mkF m 221 _ [(.int ((4 : Int32) - (1 : Int32))), (.ref ab), (.int b21)])) (fun t_ k_ => XS.isub X0.here hx rfl (hb hby d5_220) rfl k_) ?_
    rw [show ((4 : Int32) - (1 : Int32)) = (3 : Int32) from by decide]
    refine Go.on (g' := (mkF m 222 _ [(.int b11), (.int b21)])) (X0.iaload hx (j := (3 : Int32)) (v := (.int b11)) (by rw [e0]; exact AB.1) (State.isArrayOf_alike hZ.alike AB.2.1) AB.2.2 (by rw [HB.1]; decide) HB.2.2.2.2.1 (g := (mkF m 221 #[.val (.ref aw), .val (.int (2 : Int32)), .val (.int (1 : Int32)), .val (.ref ab), .val (.ref ar), .val (.int (2 : Int32)), .val (.int (1 : Int32)), .val (.int (5 : Int32)), .val (.int y1)] [(.int (3 : Int32)), (.ref ab), (.int b21)])) rfl rfl (hb hby d5_221)) ?_
    refine Go.icmp X0 hx hby d5_222 (pcT := 231) (pcF := 225) (by decide) (by decide) rfl (fun q => ?_) (fun q => ?_)
    · have q1 := iNe.1 q
      clear q
      show Go p e below _ _ (mkF m 231 _ [])
      refine Go.on (g' := (mkF m 234 #[.val (.ref aw), .val (.int (2 : Int32)), .val (.int (1 : Int32)), .val (.ref ab), .val (.ref ar), .val (.int (2 : Int32)), .val (.int ((1 : Int32) + ((-1) : Int32))), .val (.int (5 : Int32)), .val (.int y1)] [])) (fun t_ k_ => XS.iinc X0.here hx rfl (hb hby d5_231) rfl (l' := #[.val (.ref aw), .val (.int (2 : Int32)), .val (.int (1 : Int32)), .val (.ref ab), .val (.ref ar), .val (.int (2 : Int32)), .val (.int ((1 : Int32) + ((-1) : Int32))), .val (.int (5 : Int32)), .val (.int y1)]) rfl k_) ?_
      rw [show ((1 : Int32) + ((-1) : Int32)) = (0 : Int32) from by decide]
      refine Go.on (g' := (mkF m 131 _ [])) (fun t_ k_ => XS.goto X0.here hx rfl (pc0 := 234) (pc' := 131) rfl (hb hby d5_234) (by decide) (by decide) k_) ?_
      refine Go.on (g' := (mkF m 133 _ [(.int (2 : Int32))])) (fun t_ k_ => XS.iload X0.here hx rfl (hb hby d5_131) rfl k_) ?_
      refine Go.ifc X0 hx hby d5_133 (pcT := 237) (pcF := 136) (by decide) (by decide) rfl (fun q => absurd q (by decide)) (fun q => ?_)
      clear q
      show Go p e below _ _ (mkF m 136 _ [])
      refine Go.on (g' := (mkF m 138 _ [(.int (0 : Int32))])) (fun t_ k_ => XS.iload X0.here hx rfl (hb hby d5_136) rfl k_) ?_
      refine Go.ifc X0 hx hby d5_138 (pcT := 237) (pcF := 141) (by decide) (by decide) rfl (fun q => ?_) (fun q => absurd q (by decide))
      clear q
      show Go p e below _ _ (mkF m 237 _ [])
      refine Go.on (g' := (mkF m 239 _ [(.ref ar)])) (fun t_ k_ => XS.aload X0.here hx rfl (hb hby d5_237) rfl rfl k_) ?_
      exact Go.retA X0 hx hlk hret hby d5_239 rfl rfl (by decide) (by decide) (by rw [e0, own_21, if_neg hJ210, if_neg q1]; exact ⟨ar, _, rfl, N0, EX0, mar, AR, SZ, H0, H1⟩)
    · have q1 := iNe.2 q
      clear q
      show Go p e below _ _ (mkF m 225 _ [])
      refine Go.on (g' := (mkF m 228 #[.val (.ref aw), .val (.int (2 : Int32)), .val (.int (1 : Int32)), .val (.ref ab), .val (.ref ar), .val (.int ((2 : Int32) + ((-1) : Int32))), .val (.int (1 : Int32)), .val (.int (5 : Int32)), .val (.int y1)] [])) (fun t_ k_ => XS.iinc X0.here hx rfl (hb hby d5_225) rfl (l' := #[.val (.ref aw), .val (.int (2 : Int32)), .val (.int (1 : Int32)), .val (.ref ab), .val (.ref ar), .val (.int ((2 : Int32) + ((-1) : Int32))), .val (.int (1 : Int32)), .val (.int (5 : Int32)), .val (.int y1)]) rfl k_) ?_
      rw [show ((2 : Int32) + ((-1) : Int32)) = (1 : Int32) from by decide]
      refine Go.on (g' := (mkF m 234 _ [])) (fun t_ k_ => XS.goto X0.here hx rfl (pc0 := 228) (pc' := 234) rfl (hb hby d5_228) (by decide) (by decide) k_) ?_
      refine Go.on (g' := (mkF m 131 _ [])) (fun t_ k_ => XS.goto X0.here hx rfl (pc0 := 234) (pc' := 131) rfl (hb hby d5_234) (by decide) (by decide) k_) ?_
      rw [own_21, if_neg hJ210, if_pos q1]
      exact nd21_1_1 l Z w0 hw ws aw ab ar p e s m below meth c h0 n0 T0 _ X0 hx hby hml hret hlk hZ _ e0 Z0 N0 EX0 nar mar nwr nbr cw AW y0 y1 HW cb AB b11 b21 HB _ AR SZ ((-1) : Int32) H0 H1 (.val (.int (5 : Int32))) (.val (.int y1)) (One.val rfl) (One.val rfl)
  · show Go p e below _ _ (mkF m 169 _ [(.int y1)])
    refine Go.ifc X0 hx hby d5_169 (pcT := 210) (pcF := 172) (by decide) (by decide) rfl (fun q => ?_) (fun q => ?_)
    · have q2 := iLe.1 q
      clear q
      show Go p e below _ _ (mkF m 210 _ [])
      exact J210 () (fun z => q2 z.1)
    · have q2 := iLe.2 q
      clear q
      show Go p e below _ _ (mkF m 172 _ [])
      refine Go.on (g' := (mkF m 173 _ [(.ref ab)])) (fun t_ k_ => XS.aloadN X0.here hx rfl (hb hby d5_172) rfl rfl k_) ?_
      refine Go.on (g' := (mkF m 175 _ [(.int (5 : Int32)), (.ref ab)])) (fun t_ k_ => XS.iload X0.here hx rfl (hb hby d5_173) rfl k_) ?_
      refine Go.on (g' := (mkF m 176 _ [(.int b21)])) (X0.iaload hx (j := (5 : Int32)) (v := (.int b21)) (by rw [e0]; exact AB.1) (State.isArrayOf_alike hZ.alike AB.2.1) AB.2.2 (by rw [HB.1]; decide) HB.2.2.2.2.2.2 (g := (mkF m 175 #[.val (.ref aw), .val (.int (2 : Int32)), .val (.int (1 : Int32)), .val (.ref ab), .val (.ref ar), .val (.int (2 : Int32)), .val (.int (1 : Int32)), .val (.int (5 : Int32)), .val (.int y1)] [(.int (5 : Int32)), (.ref ab)])) rfl rfl (hb hby d5_175)) ?_
      refine Go.on (g' := (mkF m 177 _ [(.ref ab), (.int b21)])) (fun t_ k_ => XS.aloadN X0.here hx rfl (hb hby d5_176) rfl rfl k_) ?_
      refine Go.on (g' := (mkF m 179 _ [(.int (5 : Int32)), (.ref ab), (.int b21)])) (fun t_ k_ => XS.iload X0.here hx rfl (hb hby d5_177) rfl k_) ?_
      refine Go.on (g' := (mkF m 180 _ [(.int (1 : Int32)), (.int (5 : Int32)), (.ref ab), (.int b21)])) (fun t_ k_ => XS.iloadN X0.here hx rfl (hb hby d5_179) rfl k_) ?_
      refine Go.on (g' := (mkF m 181 _ [(.int ((5 : Int32) - (1 : Int32))), (.ref ab), (.int b21)])) (fun t_ k_ => XS.isub X0.here hx rfl (hb hby d5_180) rfl k_) ?_
      rw [show ((5 : Int32) - (1 : Int32)) = (4 : Int32) from by decide]
      refine Go.on (g' := (mkF m 182 _ [(.int (2 : Int32)), (.int (4 : Int32)), (.ref ab), (.int b21)])) (fun t_ k_ => XS.iconst X0.here hx rfl (hb hby d5_181) k_) ?_
      refine Go.on (g' := (mkF m 183 _ [(.int ((4 : Int32) - (2 : Int32))), (.ref ab), (.int b21)])) (fun t_ k_ => XS.isub X0.here hx rfl (hb hby d5_182) rfl k_) ?_
      rw [show ((4 : Int32) - (2 : Int32)) = (2 : Int32) from by decide]
      refine Go.on (g' := (mkF m 184 _ [(.int (0 : Int32)), (.int b21)])) (X0.iaload hx (j := (2 : Int32)) (v := (.int (0 : Int32))) (by rw [e0]; exact AB.1) (State.isArrayOf_alike hZ.alike AB.2.1) AB.2.2 (by rw [HB.1]; decide) HB.2.2.2.1 (g := (mkF m 183 #[.val (.ref aw), .val (.int (2 : Int32)), .val (.int (1 : Int32)), .val (.ref ab), .val (.ref ar), .val (.int (2 : Int32)), .val (.int (1 : Int32)), .val (.int (5 : Int32)), .val (.int y1)] [(.int (2 : Int32)), (.ref ab), (.int b21)])) rfl rfl (hb hby d5_183)) ?_
      refine Go.on (g' := (mkF m 186 _ [(.int y1), (.int (0 : Int32)), (.int b21)])) (fun t_ k_ => XS.iload X0.here hx rfl (hb hby d5_184) rfl k_) ?_
      refine Go.on (g' := (mkF m 187 _ [(.int ((0 : Int32) + y1)), (.int b21)])) (fun t_ k_ => XS.iadd X0.here hx rfl (hb hby d5_186) rfl k_) ?_
      refine Go.icmp X0 hx hby d5_187 (pcT := 210) (pcF := 190) (by decide) (by decide) rfl (fun q => ?_) (fun q => ?_)
      · have q3 := iNe.1 q
        clear q
        show Go p e below _ _ (mkF m 210 _ [])
        exact J210 () (fun z => q3 z.2)
      · have q3 := iNe.2 q
        clear q
        show Go p e below _ _ (mkF m 190 _ [])
        refine Go.on (g' := (mkF m 192 _ [(.ref ar)])) (fun t_ k_ => XS.aload X0.here hx rfl (hb hby d5_190) rfl rfl k_) ?_
        refine Go.on (g' := (mkF m 194 _ [(.int (2 : Int32)), (.ref ar)])) (fun t_ k_ => XS.iload X0.here hx rfl (hb hby d5_192) rfl k_) ?_
        refine Go.on (g' := (mkF m 195 _ [(.int (1 : Int32)), (.int (2 : Int32)), (.ref ar)])) (fun t_ k_ => XS.iconst X0.here hx rfl (hb hby d5_194) k_) ?_
        refine Go.on (g' := (mkF m 196 _ [(.int ((2 : Int32) - (1 : Int32))), (.ref ar)])) (fun t_ k_ => XS.isub X0.here hx rfl (hb hby d5_195) rfl k_) ?_
        rw [show ((2 : Int32) - (1 : Int32)) = (1 : Int32) from by decide]
        refine Go.on (g' := (mkF m 198 _ [(.int (1 : Int32)), (.int (1 : Int32)), (.ref ar)])) (fun t_ k_ => XS.iload X0.here hx rfl (hb hby d5_196) rfl k_) ?_
        refine Go.on (g' := (mkF m 199 _ [(.int (1 : Int32)), (.int (1 : Int32)), (.int (1 : Int32)), (.ref ar)])) (fun t_ k_ => XS.iconst X0.here hx rfl (hb hby d5_198) k_) ?_
        refine Go.on (g' := (mkF m 200 _ [(.int ((1 : Int32) - (1 : Int32))), (.int (1 : Int32)), (.ref ar)])) (fun t_ k_ => XS.isub X0.here hx rfl (hb hby d5_199) rfl k_) ?_
        rw [show ((1 : Int32) - (1 : Int32)) = (0 : Int32) from by decide]
        have hi_200 : ¬ ((1 : Int32) < 0 ∨ cr.slots.size ≤ ((1 : Int32)).toNatClampNeg) := by rw [SZ]; decide
        obtain ⟨T1, h1, X1, e1, W1, st1⟩ := stI X0 hx hZ e0 AR (j := (1 : Int32)) hi_200 (g := (mkF m 200 #[.val (.ref aw), .val (.int (2 : Int32)), .val (.int (1 : Int32)), .val (.ref ab), .val (.ref ar), .val (.int (2 : Int32)), .val (.int (1 : Int32)), .val (.int (5 : Int32)), .val (.int y1)] [(.int (0 : Int32)), (.int (1 : Int32)), (.ref ar)])) rfl rfl (hb hby d5_200)
        have N1 := Fr.snoc X1 N0 nar
        have Z1 : n0 ≤ h1.size := by rw [W1.size]; exact Z0
        have arr_aw_1 := AW.other W1 nwr
        have arr_ab_1 := AB.other W1 nbr
        have EX_1 := extWr EX0 W1 mar
        have A1 := AR.same W1
        refine Go.on (g' := (mkF m 201 _ [])) (st1) ?_
        have sz1 := (sz_set cr ((1 : Int32)).toNatClampNeg (.int (0 : Int32))).trans SZ
        have hr0_1 := (get_miss (c := cr) (j := (1 : Int32)) (k := (0 : Int32)) (v := .int (0 : Int32)) (by decide) (by decide) (by decide)).trans H0
        have hr1_1 := get_hit (v := .int (0 : Int32)) hi_200 (rfl : (1 : Int32) = (1 : Int32))
        refine Go.on (g' := (mkF m 204 #[.val (.ref aw), .val (.int (2 : Int32)), .val (.int (1 : Int32)), .val (.ref ab), .val (.ref ar), .val (.int ((2 : Int32) + ((-1) : Int32))), .val (.int (1 : Int32)), .val (.int (5 : Int32)), .val (.int y1)] [])) (fun t_ k_ => XS.iinc X1.here hx rfl (hb hby d5_201) rfl (l' := #[.val (.ref aw), .val (.int (2 : Int32)), .val (.int (1 : Int32)), .val (.ref ab), .val (.ref ar), .val (.int ((2 : Int32) + ((-1) : Int32))), .val (.int (1 : Int32)), .val (.int (5 : Int32)), .val (.int y1)]) rfl k_) ?_
        rw [show ((2 : Int32) + ((-1) : Int32)) = (1 : Int32) from by decide]
        refine Go.on (g' := (mkF m 207 #[.val (.ref aw), .val (.int (2 : Int32)), .val (.int (1 : Int32)), .val (.ref ab), .val (.ref ar), .val (.int (1 : Int32)), .val (.int ((1 : Int32) + ((-1) : Int32))), .val (.int (5 : Int32)), .val (.int y1)] [])) (fun t_ k_ => XS.iinc X1.here hx rfl (hb hby d5_204) rfl (l' := #[.val (.ref aw), .val (.int (2 : Int32)), .val (.int (1 : Int32)), .val (.ref ab), .val (.ref ar), .val (.int (1 : Int32)), .val (.int ((1 : Int32) + ((-1) : Int32))), .val (.int (5 : Int32)), .val (.int y1)]) rfl k_) ?_
        rw [show ((1 : Int32) + ((-1) : Int32)) = (0 : Int32) from by decide]
        refine Go.on (g' := (mkF m 234 _ [])) (fun t_ k_ => XS.goto X1.here hx rfl (pc0 := 207) (pc' := 234) rfl (hb hby d5_207) (by decide) (by decide) k_) ?_
        refine Go.on (g' := (mkF m 131 _ [])) (fun t_ k_ => XS.goto X1.here hx rfl (pc0 := 234) (pc' := 131) rfl (hb hby d5_234) (by decide) (by decide) k_) ?_
        refine Go.on (g' := (mkF m 133 _ [(.int (1 : Int32))])) (fun t_ k_ => XS.iload X1.here hx rfl (hb hby d5_131) rfl k_) ?_
        refine Go.ifc X1 hx hby d5_133 (pcT := 237) (pcF := 136) (by decide) (by decide) rfl (fun q => absurd q (by decide)) (fun q => ?_)
        clear q
        show Go p e below _ _ (mkF m 136 _ [])
        refine Go.on (g' := (mkF m 138 _ [(.int (0 : Int32))])) (fun t_ k_ => XS.iload X1.here hx rfl (hb hby d5_136) rfl k_) ?_
        refine Go.ifc X1 hx hby d5_138 (pcT := 237) (pcF := 141) (by decide) (by decide) rfl (fun q => ?_) (fun q => absurd q (by decide))
        clear q
        show Go p e below _ _ (mkF m 237 _ [])
        refine Go.on (g' := (mkF m 239 _ [(.ref ar)])) (fun t_ k_ => XS.aload X1.here hx rfl (hb hby d5_237) rfl rfl k_) ?_
        exact Go.retA X1 hx hlk hret hby d5_239 rfl rfl (by decide) (by decide) (by rw [e1, own_21, if_pos ⟨q2, q3⟩]; exact ⟨ar, _, rfl, N1, EX_1, mar, A1, sz1, hr0_1, hr1_1⟩)
set_option maxRecDepth 65536 in
set_option maxHeartbeats 40000000 in
theorem rmPr21 (l : Launch) (Z : State) (w0 : Array Value) (hw : ∀ d ∈ tables_1, d.before w0 Z = true) (ws : List Jvm.Cond) (aw : Addr) (h0 : Heap) (n0 : Nat) (Z0 : n0 ≤ h0.size) (cw : Cell) (AW : Arr Z h0 aw cw .int) (y0 y1 : Int32) (HW : own_W21 cw y0 y1) : Pact l Z (⟨"com/example/same_shape/sameshape/service/OrderedPairing", "pair", "([III)[I"⟩ : MethodName) prog_7_method_2_code 9 (some (.array .int)) ws ({ frames := 1, cells := 2, slots := 8, locals := 15 } : Room) #[.ref aw, .int (2 : Int32), .int (1 : Int32)] h0 (own_Q2 Z (own_p21 y0 y1) h0 n0) := by
  refine Pact.intro (plainFor_of_name pnP) ?_
  intro p e s m below meth c T0 X0 hx hby hml hret hlk hown hnm hZ e0
  refine Go.at (efPr m aw (2 : Int32) (1 : Int32)) ?_
  have N0 := Fr.nil n0
  have EX0 : Ext h0 h0 := ⟨Nat.le_refl _, fun _ _ q => q⟩
  refine Go.on (g' := (mkF m 1 _ [(.int (2 : Int32))])) (fun t_ k_ => XS.iloadN X0.here hx rfl (hb hby d5_0) rfl k_) ?_
  refine Go.on (g' := (mkF m 2 _ [(.int (1 : Int32)), (.int (2 : Int32))])) (fun t_ k_ => XS.iconst X0.here hx rfl (hb hby d5_1) k_) ?_
  refine Go.on (g' := (mkF m 3 _ [(.int ((2 : Int32) + (1 : Int32)))])) (fun t_ k_ => XS.iadd X0.here hx rfl (hb hby d5_2) rfl k_) ?_
  rw [show ((2 : Int32) + (1 : Int32)) = (3 : Int32) from by decide]
  refine Go.on (g' := (mkF m 4 _ [(.int (1 : Int32)), (.int (3 : Int32))])) (fun t_ k_ => XS.iloadN X0.here hx rfl (hb hby d5_3) rfl k_) ?_
  refine Go.on (g' := (mkF m 5 _ [(.int (1 : Int32)), (.int (1 : Int32)), (.int (3 : Int32))])) (fun t_ k_ => XS.iconst X0.here hx rfl (hb hby d5_4) k_) ?_
  refine Go.on (g' := (mkF m 6 _ [(.int ((1 : Int32) + (1 : Int32))), (.int (3 : Int32))])) (fun t_ k_ => XS.iadd X0.here hx rfl (hb hby d5_5) rfl k_) ?_
  rw [show ((1 : Int32) + (1 : Int32)) = (2 : Int32) from by decide]
  refine Go.on (g' := (mkF m 7 _ [(.int ((3 : Int32) * (2 : Int32)))])) (fun t_ k_ => XS.imul X0.here hx rfl (hb hby d5_6) rfl k_) ?_
  rw [show ((3 : Int32) * (2 : Int32)) = (6 : Int32) from by decide]
  obtain ⟨T1, h1, cA1, X1, e1, E1, A1, st1⟩ := newP X0 hx hZ (hw _ (List.mem_of_getElem? (i := 0) rfl)) e0 (g := (mkF m 7 #[.val (.ref aw), .val (.int (2 : Int32)), .val (.int (1 : Int32)), .unset, .unset, .unset, .unset, .unset, .unset] [(.int (6 : Int32))])) rfl (hb hby d5_7) (n := (6 : Int32)) rfl (by decide) (cap := 6) (by decide) (by decide) (by decide) (by decide)
  obtain ⟨o1, go1⟩ : ∃ z, z = (h0).size := ⟨_, rfl⟩
  rw [← go1] at A1 st1
  have no1 : n0 ≤ o1 := Nat.le_trans Z0 (Nat.le_of_eq go1.symm)
  have Z1 : n0 ≤ h1.size := Nat.le_trans Z0 E1.1
  have EX_1 := extTrans EX0 E1
  have arr_aw_1 := AW.ext E1
  have mo1 : h0.size ≤ o1 := Nat.le_trans EX0.1 (Nat.le_of_eq go1.symm)
  have ne_aw_o1 : aw ≠ o1 := Nat.ne_of_lt (by rw [go1]; exact AW.lt)
  refine Go.on (g' := (mkF m 9 _ [(.ref o1)])) (st1) ?_
  refine Go.on (g' := (mkF m 10 #[.val (.ref aw), .val (.int (2 : Int32)), .val (.int (1 : Int32)), .val (.ref o1), .unset, .unset, .unset, .unset, .unset] [])) (fun t_ k_ => XS.astoreN X1.here hx rfl (hb hby d5_9) rfl rfl (l' := #[.val (.ref aw), .val (.int (2 : Int32)), .val (.int (1 : Int32)), .val (.ref o1), .unset, .unset, .unset, .unset, .unset]) rfl k_) ?_
  refine Go.on (g' := (mkF m 11 _ [(.int (1 : Int32))])) (fun t_ k_ => XS.iconst X1.here hx rfl (hb hby d5_10) k_) ?_
  refine Go.on (g' := (mkF m 13 #[.val (.ref aw), .val (.int (2 : Int32)), .val (.int (1 : Int32)), .val (.ref o1), .val (.int (1 : Int32)), .unset, .unset, .unset, .unset] [])) (fun t_ k_ => XS.istore X1.here hx rfl (hb hby d5_11) rfl (l' := #[.val (.ref aw), .val (.int (2 : Int32)), .val (.int (1 : Int32)), .val (.ref o1), .val (.int (1 : Int32)), .unset, .unset, .unset, .unset]) rfl k_) ?_
  refine Go.on (g' := (mkF m 15 _ [(.int (1 : Int32))])) (fun t_ k_ => XS.iload X1.here hx rfl (hb hby d5_13) rfl k_) ?_
  refine Go.on (g' := (mkF m 16 _ [(.int (2 : Int32)), (.int (1 : Int32))])) (fun t_ k_ => XS.iloadN X1.here hx rfl (hb hby d5_15) rfl k_) ?_
  refine Go.icmp X1 hx hby d5_16 (pcT := 114) (pcF := 19) (by decide) (by decide) rfl (fun q => absurd q (by decide)) (fun q => ?_)
  clear q
  show Go p e below _ _ (mkF m 19 _ [])
  refine Go.on (g' := (mkF m 20 _ [(.int (1 : Int32))])) (fun t_ k_ => XS.iconst X1.here hx rfl (hb hby d5_19) k_) ?_
  refine Go.on (g' := (mkF m 22 #[.val (.ref aw), .val (.int (2 : Int32)), .val (.int (1 : Int32)), .val (.ref o1), .val (.int (1 : Int32)), .val (.int (1 : Int32)), .unset, .unset, .unset] [])) (fun t_ k_ => XS.istore X1.here hx rfl (hb hby d5_20) rfl (l' := #[.val (.ref aw), .val (.int (2 : Int32)), .val (.int (1 : Int32)), .val (.ref o1), .val (.int (1 : Int32)), .val (.int (1 : Int32)), .unset, .unset, .unset]) rfl k_) ?_
  refine Go.on (g' := (mkF m 24 _ [(.int (1 : Int32))])) (fun t_ k_ => XS.iload X1.here hx rfl (hb hby d5_22) rfl k_) ?_
  refine Go.on (g' := (mkF m 25 _ [(.int (1 : Int32)), (.int (1 : Int32))])) (fun t_ k_ => XS.iloadN X1.here hx rfl (hb hby d5_24) rfl k_) ?_
  refine Go.icmp X1 hx hby d5_25 (pcT := 108) (pcF := 28) (by decide) (by decide) rfl (fun q => absurd q (by decide)) (fun q => ?_)
  clear q
  show Go p e below _ _ (mkF m 28 _ [])
  refine Go.on (g' := (mkF m 29 _ [(.ref aw)])) (fun t_ k_ => XS.aloadN X1.here hx rfl (hb hby d5_28) rfl rfl k_) ?_
  refine Go.on (g' := (mkF m 31 _ [(.int (1 : Int32)), (.ref aw)])) (fun t_ k_ => XS.iload X1.here hx rfl (hb hby d5_29) rfl k_) ?_
  refine Go.on (g' := (mkF m 32 _ [(.int (1 : Int32)), (.int (1 : Int32)), (.ref aw)])) (fun t_ k_ => XS.iconst X1.here hx rfl (hb hby d5_31) k_) ?_
  refine Go.on (g' := (mkF m 33 _ [(.int ((1 : Int32) - (1 : Int32))), (.ref aw)])) (fun t_ k_ => XS.isub X1.here hx rfl (hb hby d5_32) rfl k_) ?_
  rw [show ((1 : Int32) - (1 : Int32)) = (0 : Int32) from by decide]
  refine Go.on (g' := (mkF m 34 _ [(.int (1 : Int32)), (.int (0 : Int32)), (.ref aw)])) (fun t_ k_ => XS.iloadN X1.here hx rfl (hb hby d5_33) rfl k_) ?_
  refine Go.on (g' := (mkF m 35 _ [(.int ((0 : Int32) * (1 : Int32))), (.ref aw)])) (fun t_ k_ => XS.imul X1.here hx rfl (hb hby d5_34) rfl k_) ?_
  rw [show ((0 : Int32) * (1 : Int32)) = (0 : Int32) from by decide]
  refine Go.on (g' := (mkF m 37 _ [(.int (1 : Int32)), (.int (0 : Int32)), (.ref aw)])) (fun t_ k_ => XS.iload X1.here hx rfl (hb hby d5_35) rfl k_) ?_
  refine Go.on (g' := (mkF m 38 _ [(.int ((0 : Int32) + (1 : Int32))), (.ref aw)])) (fun t_ k_ => XS.iadd X1.here hx rfl (hb hby d5_37) rfl k_) ?_
  rw [show ((0 : Int32) + (1 : Int32)) = (1 : Int32) from by decide]
  refine Go.on (g' := (mkF m 39 _ [(.int (1 : Int32)), (.int (1 : Int32)), (.ref aw)])) (fun t_ k_ => XS.iconst X1.here hx rfl (hb hby d5_38) k_) ?_
  refine Go.on (g' := (mkF m 40 _ [(.int ((1 : Int32) - (1 : Int32))), (.ref aw)])) (fun t_ k_ => XS.isub X1.here hx rfl (hb hby d5_39) rfl k_) ?_
  rw [show ((1 : Int32) - (1 : Int32)) = (0 : Int32) from by decide]
  refine Go.on (g' := (mkF m 41 _ [(.int y0)])) (X1.iaload hx (j := (0 : Int32)) (v := (.int y0)) (by rw [e1]; exact arr_aw_1.1) (State.isArrayOf_alike hZ.alike arr_aw_1.2.1) arr_aw_1.2.2 (by rw [HW.1]; decide) HW.2.1 (g := (mkF m 40 #[.val (.ref aw), .val (.int (2 : Int32)), .val (.int (1 : Int32)), .val (.ref o1), .val (.int (1 : Int32)), .val (.int (1 : Int32)), .unset, .unset, .unset] [(.int (0 : Int32)), (.ref aw)])) rfl rfl (hb hby d5_40)) ?_
  refine Go.on (g' := (mkF m 43 #[.val (.ref aw), .val (.int (2 : Int32)), .val (.int (1 : Int32)), .val (.ref o1), .val (.int (1 : Int32)), .val (.int (1 : Int32)), .val (.int y0), .unset, .unset] [])) (fun t_ k_ => XS.istore X1.here hx rfl (hb hby d5_41) rfl (l' := #[.val (.ref aw), .val (.int (2 : Int32)), .val (.int (1 : Int32)), .val (.ref o1), .val (.int (1 : Int32)), .val (.int (1 : Int32)), .val (.int y0), .unset, .unset]) rfl k_) ?_
  refine Go.on (g' := (mkF m 45 _ [(.int (1 : Int32))])) (fun t_ k_ => XS.iload X1.here hx rfl (hb hby d5_43) rfl k_) ?_
  refine Go.on (g' := (mkF m 46 _ [(.int (1 : Int32)), (.int (1 : Int32))])) (fun t_ k_ => XS.iloadN X1.here hx rfl (hb hby d5_45) rfl k_) ?_
  refine Go.on (g' := (mkF m 47 _ [(.int (1 : Int32)), (.int (1 : Int32)), (.int (1 : Int32))])) (fun t_ k_ => XS.iconst X1.here hx rfl (hb hby d5_46) k_) ?_
  refine Go.on (g' := (mkF m 48 _ [(.int ((1 : Int32) + (1 : Int32))), (.int (1 : Int32))])) (fun t_ k_ => XS.iadd X1.here hx rfl (hb hby d5_47) rfl k_) ?_
  rw [show ((1 : Int32) + (1 : Int32)) = (2 : Int32) from by decide]
  refine Go.on (g' := (mkF m 49 _ [(.int ((1 : Int32) * (2 : Int32)))])) (fun t_ k_ => XS.imul X1.here hx rfl (hb hby d5_48) rfl k_) ?_
  rw [show ((1 : Int32) * (2 : Int32)) = (2 : Int32) from by decide]
  refine Go.on (g' := (mkF m 51 _ [(.int (1 : Int32)), (.int (2 : Int32))])) (fun t_ k_ => XS.iload X1.here hx rfl (hb hby d5_49) rfl k_) ?_
  refine Go.on (g' := (mkF m 52 _ [(.int ((2 : Int32) + (1 : Int32)))])) (fun t_ k_ => XS.iadd X1.here hx rfl (hb hby d5_51) rfl k_) ?_
  rw [show ((2 : Int32) + (1 : Int32)) = (3 : Int32) from by decide]
  refine Go.on (g' := (mkF m 54 #[.val (.ref aw), .val (.int (2 : Int32)), .val (.int (1 : Int32)), .val (.ref o1), .val (.int (1 : Int32)), .val (.int (1 : Int32)), .val (.int y0), .val (.int (3 : Int32)), .unset] [])) (fun t_ k_ => XS.istore X1.here hx rfl (hb hby d5_52) rfl (l' := #[.val (.ref aw), .val (.int (2 : Int32)), .val (.int (1 : Int32)), .val (.ref o1), .val (.int (1 : Int32)), .val (.int (1 : Int32)), .val (.int y0), .val (.int (3 : Int32)), .unset]) rfl k_) ?_
  refine Go.on (g' := (mkF m 55 _ [(.ref o1)])) (fun t_ k_ => XS.aloadN X1.here hx rfl (hb hby d5_54) rfl rfl k_) ?_
  refine Go.on (g' := (mkF m 57 _ [(.int (3 : Int32)), (.ref o1)])) (fun t_ k_ => XS.iload X1.here hx rfl (hb hby d5_55) rfl k_) ?_
  refine Go.on (g' := (mkF m 58 _ [(.int (1 : Int32)), (.int (3 : Int32)), (.ref o1)])) (fun t_ k_ => XS.iloadN X1.here hx rfl (hb hby d5_57) rfl k_) ?_
  refine Go.on (g' := (mkF m 59 _ [(.int ((3 : Int32) - (1 : Int32))), (.ref o1)])) (fun t_ k_ => XS.isub X1.here hx rfl (hb hby d5_58) rfl k_) ?_
  rw [show ((3 : Int32) - (1 : Int32)) = (2 : Int32) from by decide]
  refine Go.on (g' := (mkF m 60 _ [(.int (1 : Int32)), (.int (2 : Int32)), (.ref o1)])) (fun t_ k_ => XS.iconst X1.here hx rfl (hb hby d5_59) k_) ?_
  refine Go.on (g' := (mkF m 61 _ [(.int ((2 : Int32) - (1 : Int32))), (.ref o1)])) (fun t_ k_ => XS.isub X1.here hx rfl (hb hby d5_60) rfl k_) ?_
  rw [show ((2 : Int32) - (1 : Int32)) = (1 : Int32) from by decide]
  refine Go.on (g' := (mkF m 62 _ [(.int (0 : Int32))])) (X1.iaload hx (j := (1 : Int32)) (v := (.int (0 : Int32))) (by rw [e1]; exact A1.1) (State.isArrayOf_alike hZ.alike A1.2.1) A1.2.2 (by simp only [sz_set, sz_new]; decide) rfl (g := (mkF m 61 #[.val (.ref aw), .val (.int (2 : Int32)), .val (.int (1 : Int32)), .val (.ref o1), .val (.int (1 : Int32)), .val (.int (1 : Int32)), .val (.int y0), .val (.int (3 : Int32)), .unset] [(.int (1 : Int32)), (.ref o1)])) rfl rfl (hb hby d5_61)) ?_
  refine Go.on (g' := (mkF m 63 _ [(.ref o1), (.int (0 : Int32))])) (fun t_ k_ => XS.aloadN X1.here hx rfl (hb hby d5_62) rfl rfl k_) ?_
  refine Go.on (g' := (mkF m 65 _ [(.int (3 : Int32)), (.ref o1), (.int (0 : Int32))])) (fun t_ k_ => XS.iload X1.here hx rfl (hb hby d5_63) rfl k_) ?_
  refine Go.on (g' := (mkF m 66 _ [(.int (1 : Int32)), (.int (3 : Int32)), (.ref o1), (.int (0 : Int32))])) (fun t_ k_ => XS.iconst X1.here hx rfl (hb hby d5_65) k_) ?_
  refine Go.on (g' := (mkF m 67 _ [(.int ((3 : Int32) - (1 : Int32))), (.ref o1), (.int (0 : Int32))])) (fun t_ k_ => XS.isub X1.here hx rfl (hb hby d5_66) rfl k_) ?_
  rw [show ((3 : Int32) - (1 : Int32)) = (2 : Int32) from by decide]
  refine Go.on (g' := (mkF m 68 _ [(.int (0 : Int32)), (.int (0 : Int32))])) (X1.iaload hx (j := (2 : Int32)) (v := (.int (0 : Int32))) (by rw [e1]; exact A1.1) (State.isArrayOf_alike hZ.alike A1.2.1) A1.2.2 (by simp only [sz_set, sz_new]; decide) rfl (g := (mkF m 67 #[.val (.ref aw), .val (.int (2 : Int32)), .val (.int (1 : Int32)), .val (.ref o1), .val (.int (1 : Int32)), .val (.int (1 : Int32)), .val (.int y0), .val (.int (3 : Int32)), .unset] [(.int (2 : Int32)), (.ref o1), (.int (0 : Int32))])) rfl rfl (hb hby d5_67)) ?_
  refine Go.callS X1 hx hZ hby (by rw [hml]; rfl) (y := (⟨"java/lang/Math", "max", "(II)I"⟩ : MethodName)) hown (hw _ (List.mem_of_getElem? (i := 19) rfl)) (hw _ (List.mem_of_getElem? (i := 9) rfl)) (hw _ (List.mem_of_getElem? (i := 10) rfl)) (hw _ (List.mem_of_getElem? (i := 11) rfl)) (by decide) (argsL := [(.int (0 : Int32)), (.int (0 : Int32))]) (rest := []) (rmM l Z w0 hw [] (0 : Int32) (0 : Int32) h1) e1 0 (by decide) (by decide) (by decide) (by decide) rfl pdM rfl (Nat.le_of_eq rfl) d5_68 (pcF := 71) rfl ?_
  intro v2 T2 L2 X2 hQ2
  obtain ⟨rfl, rfl, e2⟩ := hQ2
  rw [List.append_nil] at X2
  show Go p e below _ _ (mkF m 71 _ [(.int (own_max (0 : Int32) (0 : Int32)))])
  refine Go.on (g' := (mkF m 73 #[.val (.ref aw), .val (.int (2 : Int32)), .val (.int (1 : Int32)), .val (.ref o1), .val (.int (1 : Int32)), .val (.int (1 : Int32)), .val (.int y0), .val (.int (3 : Int32)), .val (.int (own_max (0 : Int32) (0 : Int32)))] [])) (fun t_ k_ => XS.istore X2.here hx rfl (hb hby d5_71) rfl (l' := #[.val (.ref aw), .val (.int (2 : Int32)), .val (.int (1 : Int32)), .val (.ref o1), .val (.int (1 : Int32)), .val (.int (1 : Int32)), .val (.int y0), .val (.int (3 : Int32)), .val (.int (own_max (0 : Int32) (0 : Int32)))]) rfl k_) ?_
  refine Go.joinV (P := fun b11 : Int32 => b11 = own_cell y0 (own_max (0 : Int32) (0 : Int32)) (0 : Int32)) (g := fun b11 => (mkF m 96 #[.val (.ref aw), .val (.int (2 : Int32)), .val (.int (1 : Int32)), .val (.ref o1), .val (.int (1 : Int32)), .val (.int (1 : Int32)), .val (.int y0), .val (.int (3 : Int32)), .val (.int b11)] [])) X2 e2 (fun T3 b11 X3 e3 hb11 => ?_) (fun J => ?_)
  · have hc11 : own_c11 y0 = b11 := by rw [hb11, own_c11]
    show Go p e below _ _ (mkF m 96 _ [])
    refine Go.on (g' := (mkF m 97 _ [(.ref o1)])) (fun t_ k_ => XS.aloadN X3.here hx rfl (hb hby d5_96) rfl rfl k_) ?_
    refine Go.on (g' := (mkF m 99 _ [(.int (3 : Int32)), (.ref o1)])) (fun t_ k_ => XS.iload X3.here hx rfl (hb hby d5_97) rfl k_) ?_
    refine Go.on (g' := (mkF m 101 _ [(.int b11), (.int (3 : Int32)), (.ref o1)])) (fun t_ k_ => XS.iload X3.here hx rfl (hb hby d5_99) rfl k_) ?_
    obtain ⟨T4, h4, X4, e4, W4, st4⟩ := stI X3 hx hZ e3 A1 (j := (3 : Int32)) (by simp only [sz_set, sz_new]; decide) (g := (mkF m 101 #[.val (.ref aw), .val (.int (2 : Int32)), .val (.int (1 : Int32)), .val (.ref o1), .val (.int (1 : Int32)), .val (.int (1 : Int32)), .val (.int y0), .val (.int (3 : Int32)), .val (.int b11)] [(.int b11), (.int (3 : Int32)), (.ref o1)])) rfl rfl (hb hby d5_101)
    have N4 := Fr.snoc X4 N0 no1
    have Z4 : n0 ≤ h4.size := by rw [W4.size]; exact Z1
    have EX_4 := extWr EX_1 W4 mo1
    have arr_aw_4 := arr_aw_1.other W4 ne_aw_o1
    have A4 := A1.same W4
    refine Go.on (g' := (mkF m 102 _ [])) (st4) ?_
    refine Go.on (g' := (mkF m 105 #[.val (.ref aw), .val (.int (2 : Int32)), .val (.int (1 : Int32)), .val (.ref o1), .val (.int (1 : Int32)), .val (.int ((1 : Int32) + (1 : Int32))), .val (.int y0), .val (.int (3 : Int32)), .val (.int b11)] [])) (fun t_ k_ => XS.iinc X4.here hx rfl (hb hby d5_102) rfl (l' := #[.val (.ref aw), .val (.int (2 : Int32)), .val (.int (1 : Int32)), .val (.ref o1), .val (.int (1 : Int32)), .val (.int ((1 : Int32) + (1 : Int32))), .val (.int y0), .val (.int (3 : Int32)), .val (.int b11)]) rfl k_) ?_
    rw [show ((1 : Int32) + (1 : Int32)) = (2 : Int32) from by decide]
    refine Go.on (g' := (mkF m 22 _ [])) (fun t_ k_ => XS.goto X4.here hx rfl (pc0 := 105) (pc' := 22) rfl (hb hby d5_105) (by decide) (by decide) k_) ?_
    refine Go.on (g' := (mkF m 24 _ [(.int (2 : Int32))])) (fun t_ k_ => XS.iload X4.here hx rfl (hb hby d5_22) rfl k_) ?_
    refine Go.on (g' := (mkF m 25 _ [(.int (1 : Int32)), (.int (2 : Int32))])) (fun t_ k_ => XS.iloadN X4.here hx rfl (hb hby d5_24) rfl k_) ?_
    refine Go.icmp X4 hx hby d5_25 (pcT := 108) (pcF := 28) (by decide) (by decide) rfl (fun q => ?_) (fun q => absurd q (by decide))
    clear q
    show Go p e below _ _ (mkF m 108 _ [])
    refine Go.on (g' := (mkF m 111 #[.val (.ref aw), .val (.int (2 : Int32)), .val (.int (1 : Int32)), .val (.ref o1), .val (.int ((1 : Int32) + (1 : Int32))), .val (.int (2 : Int32)), .val (.int y0), .val (.int (3 : Int32)), .val (.int b11)] [])) (fun t_ k_ => XS.iinc X4.here hx rfl (hb hby d5_108) rfl (l' := #[.val (.ref aw), .val (.int (2 : Int32)), .val (.int (1 : Int32)), .val (.ref o1), .val (.int ((1 : Int32) + (1 : Int32))), .val (.int (2 : Int32)), .val (.int y0), .val (.int (3 : Int32)), .val (.int b11)]) rfl k_) ?_
    rw [show ((1 : Int32) + (1 : Int32)) = (2 : Int32) from by decide]
    refine Go.on (g' := (mkF m 13 _ [])) (fun t_ k_ => XS.goto X4.here hx rfl (pc0 := 111) (pc' := 13) rfl (hb hby d5_111) (by decide) (by decide) k_) ?_
    refine Go.on (g' := (mkF m 15 _ [(.int (2 : Int32))])) (fun t_ k_ => XS.iload X4.here hx rfl (hb hby d5_13) rfl k_) ?_
    refine Go.on (g' := (mkF m 16 _ [(.int (2 : Int32)), (.int (2 : Int32))])) (fun t_ k_ => XS.iloadN X4.here hx rfl (hb hby d5_15) rfl k_) ?_
    refine Go.icmp X4 hx hby d5_16 (pcT := 114) (pcF := 19) (by decide) (by decide) rfl (fun q => absurd q (by decide)) (fun q => ?_)
    clear q
    show Go p e below _ _ (mkF m 19 _ [])
    refine Go.on (g' := (mkF m 20 _ [(.int (1 : Int32))])) (fun t_ k_ => XS.iconst X4.here hx rfl (hb hby d5_19) k_) ?_
    refine Go.on (g' := (mkF m 22 #[.val (.ref aw), .val (.int (2 : Int32)), .val (.int (1 : Int32)), .val (.ref o1), .val (.int (2 : Int32)), .val (.int (1 : Int32)), .val (.int y0), .val (.int (3 : Int32)), .val (.int b11)] [])) (fun t_ k_ => XS.istore X4.here hx rfl (hb hby d5_20) rfl (l' := #[.val (.ref aw), .val (.int (2 : Int32)), .val (.int (1 : Int32)), .val (.ref o1), .val (.int (2 : Int32)), .val (.int (1 : Int32)), .val (.int y0), .val (.int (3 : Int32)), .val (.int b11)]) rfl k_) ?_
    refine Go.on (g' := (mkF m 24 _ [(.int (1 : Int32))])) (fun t_ k_ => XS.iload X4.here hx rfl (hb hby d5_22) rfl k_) ?_
    refine Go.on (g' := (mkF m 25 _ [(.int (1 : Int32)), (.int (1 : Int32))])) (fun t_ k_ => XS.iloadN X4.here hx rfl (hb hby d5_24) rfl k_) ?_
    refine Go.icmp X4 hx hby d5_25 (pcT := 108) (pcF := 28) (by decide) (by decide) rfl (fun q => absurd q (by decide)) (fun q => ?_)
    clear q
    show Go p e below _ _ (mkF m 28 _ [])
    refine Go.on (g' := (mkF m 29 _ [(.ref aw)])) (fun t_ k_ => XS.aloadN X4.here hx rfl (hb hby d5_28) rfl rfl k_) ?_
    refine Go.on (g' := (mkF m 31 _ [(.int (2 : Int32)), (.ref aw)])) (fun t_ k_ => XS.iload X4.here hx rfl (hb hby d5_29) rfl k_) ?_
    refine Go.on (g' := (mkF m 32 _ [(.int (1 : Int32)), (.int (2 : Int32)), (.ref aw)])) (fun t_ k_ => XS.iconst X4.here hx rfl (hb hby d5_31) k_) ?_
    refine Go.on (g' := (mkF m 33 _ [(.int ((2 : Int32) - (1 : Int32))), (.ref aw)])) (fun t_ k_ => XS.isub X4.here hx rfl (hb hby d5_32) rfl k_) ?_
    rw [show ((2 : Int32) - (1 : Int32)) = (1 : Int32) from by decide]
    refine Go.on (g' := (mkF m 34 _ [(.int (1 : Int32)), (.int (1 : Int32)), (.ref aw)])) (fun t_ k_ => XS.iloadN X4.here hx rfl (hb hby d5_33) rfl k_) ?_
    refine Go.on (g' := (mkF m 35 _ [(.int ((1 : Int32) * (1 : Int32))), (.ref aw)])) (fun t_ k_ => XS.imul X4.here hx rfl (hb hby d5_34) rfl k_) ?_
    rw [show ((1 : Int32) * (1 : Int32)) = (1 : Int32) from by decide]
    refine Go.on (g' := (mkF m 37 _ [(.int (1 : Int32)), (.int (1 : Int32)), (.ref aw)])) (fun t_ k_ => XS.iload X4.here hx rfl (hb hby d5_35) rfl k_) ?_
    refine Go.on (g' := (mkF m 38 _ [(.int ((1 : Int32) + (1 : Int32))), (.ref aw)])) (fun t_ k_ => XS.iadd X4.here hx rfl (hb hby d5_37) rfl k_) ?_
    rw [show ((1 : Int32) + (1 : Int32)) = (2 : Int32) from by decide]
    refine Go.on (g' := (mkF m 39 _ [(.int (1 : Int32)), (.int (2 : Int32)), (.ref aw)])) (fun t_ k_ => XS.iconst X4.here hx rfl (hb hby d5_38) k_) ?_
    refine Go.on (g' := (mkF m 40 _ [(.int ((2 : Int32) - (1 : Int32))), (.ref aw)])) (fun t_ k_ => XS.isub X4.here hx rfl (hb hby d5_39) rfl k_) ?_
    rw [show ((2 : Int32) - (1 : Int32)) = (1 : Int32) from by decide]
    refine Go.on (g' := (mkF m 41 _ [(.int y1)])) (X4.iaload hx (j := (1 : Int32)) (v := (.int y1)) (by rw [e4]; exact arr_aw_4.1) (State.isArrayOf_alike hZ.alike arr_aw_4.2.1) arr_aw_4.2.2 (by rw [HW.1]; decide) HW.2.2 (g := (mkF m 40 #[.val (.ref aw), .val (.int (2 : Int32)), .val (.int (1 : Int32)), .val (.ref o1), .val (.int (2 : Int32)), .val (.int (1 : Int32)), .val (.int y0), .val (.int (3 : Int32)), .val (.int b11)] [(.int (1 : Int32)), (.ref aw)])) rfl rfl (hb hby d5_40)) ?_
    refine Go.on (g' := (mkF m 43 #[.val (.ref aw), .val (.int (2 : Int32)), .val (.int (1 : Int32)), .val (.ref o1), .val (.int (2 : Int32)), .val (.int (1 : Int32)), .val (.int y1), .val (.int (3 : Int32)), .val (.int b11)] [])) (fun t_ k_ => XS.istore X4.here hx rfl (hb hby d5_41) rfl (l' := #[.val (.ref aw), .val (.int (2 : Int32)), .val (.int (1 : Int32)), .val (.ref o1), .val (.int (2 : Int32)), .val (.int (1 : Int32)), .val (.int y1), .val (.int (3 : Int32)), .val (.int b11)]) rfl k_) ?_
    refine Go.on (g' := (mkF m 45 _ [(.int (2 : Int32))])) (fun t_ k_ => XS.iload X4.here hx rfl (hb hby d5_43) rfl k_) ?_
    refine Go.on (g' := (mkF m 46 _ [(.int (1 : Int32)), (.int (2 : Int32))])) (fun t_ k_ => XS.iloadN X4.here hx rfl (hb hby d5_45) rfl k_) ?_
    refine Go.on (g' := (mkF m 47 _ [(.int (1 : Int32)), (.int (1 : Int32)), (.int (2 : Int32))])) (fun t_ k_ => XS.iconst X4.here hx rfl (hb hby d5_46) k_) ?_
    refine Go.on (g' := (mkF m 48 _ [(.int ((1 : Int32) + (1 : Int32))), (.int (2 : Int32))])) (fun t_ k_ => XS.iadd X4.here hx rfl (hb hby d5_47) rfl k_) ?_
    rw [show ((1 : Int32) + (1 : Int32)) = (2 : Int32) from by decide]
    refine Go.on (g' := (mkF m 49 _ [(.int ((2 : Int32) * (2 : Int32)))])) (fun t_ k_ => XS.imul X4.here hx rfl (hb hby d5_48) rfl k_) ?_
    rw [show ((2 : Int32) * (2 : Int32)) = (4 : Int32) from by decide]
    refine Go.on (g' := (mkF m 51 _ [(.int (1 : Int32)), (.int (4 : Int32))])) (fun t_ k_ => XS.iload X4.here hx rfl (hb hby d5_49) rfl k_) ?_
    refine Go.on (g' := (mkF m 52 _ [(.int ((4 : Int32) + (1 : Int32)))])) (fun t_ k_ => XS.iadd X4.here hx rfl (hb hby d5_51) rfl k_) ?_
    rw [show ((4 : Int32) + (1 : Int32)) = (5 : Int32) from by decide]
    refine Go.on (g' := (mkF m 54 #[.val (.ref aw), .val (.int (2 : Int32)), .val (.int (1 : Int32)), .val (.ref o1), .val (.int (2 : Int32)), .val (.int (1 : Int32)), .val (.int y1), .val (.int (5 : Int32)), .val (.int b11)] [])) (fun t_ k_ => XS.istore X4.here hx rfl (hb hby d5_52) rfl (l' := #[.val (.ref aw), .val (.int (2 : Int32)), .val (.int (1 : Int32)), .val (.ref o1), .val (.int (2 : Int32)), .val (.int (1 : Int32)), .val (.int y1), .val (.int (5 : Int32)), .val (.int b11)]) rfl k_) ?_
    refine Go.on (g' := (mkF m 55 _ [(.ref o1)])) (fun t_ k_ => XS.aloadN X4.here hx rfl (hb hby d5_54) rfl rfl k_) ?_
    refine Go.on (g' := (mkF m 57 _ [(.int (5 : Int32)), (.ref o1)])) (fun t_ k_ => XS.iload X4.here hx rfl (hb hby d5_55) rfl k_) ?_
    refine Go.on (g' := (mkF m 58 _ [(.int (1 : Int32)), (.int (5 : Int32)), (.ref o1)])) (fun t_ k_ => XS.iloadN X4.here hx rfl (hb hby d5_57) rfl k_) ?_
    refine Go.on (g' := (mkF m 59 _ [(.int ((5 : Int32) - (1 : Int32))), (.ref o1)])) (fun t_ k_ => XS.isub X4.here hx rfl (hb hby d5_58) rfl k_) ?_
    rw [show ((5 : Int32) - (1 : Int32)) = (4 : Int32) from by decide]
    refine Go.on (g' := (mkF m 60 _ [(.int (1 : Int32)), (.int (4 : Int32)), (.ref o1)])) (fun t_ k_ => XS.iconst X4.here hx rfl (hb hby d5_59) k_) ?_
    refine Go.on (g' := (mkF m 61 _ [(.int ((4 : Int32) - (1 : Int32))), (.ref o1)])) (fun t_ k_ => XS.isub X4.here hx rfl (hb hby d5_60) rfl k_) ?_
    rw [show ((4 : Int32) - (1 : Int32)) = (3 : Int32) from by decide]
    refine Go.on (g' := (mkF m 62 _ [(.int b11)])) (X4.iaload hx (j := (3 : Int32)) (v := (.int b11)) (by rw [e4]; exact A4.1) (State.isArrayOf_alike hZ.alike A4.2.1) A4.2.2 (by simp only [sz_set, sz_new]; decide) rfl (g := (mkF m 61 #[.val (.ref aw), .val (.int (2 : Int32)), .val (.int (1 : Int32)), .val (.ref o1), .val (.int (2 : Int32)), .val (.int (1 : Int32)), .val (.int y1), .val (.int (5 : Int32)), .val (.int b11)] [(.int (3 : Int32)), (.ref o1)])) rfl rfl (hb hby d5_61)) ?_
    refine Go.on (g' := (mkF m 63 _ [(.ref o1), (.int b11)])) (fun t_ k_ => XS.aloadN X4.here hx rfl (hb hby d5_62) rfl rfl k_) ?_
    refine Go.on (g' := (mkF m 65 _ [(.int (5 : Int32)), (.ref o1), (.int b11)])) (fun t_ k_ => XS.iload X4.here hx rfl (hb hby d5_63) rfl k_) ?_
    refine Go.on (g' := (mkF m 66 _ [(.int (1 : Int32)), (.int (5 : Int32)), (.ref o1), (.int b11)])) (fun t_ k_ => XS.iconst X4.here hx rfl (hb hby d5_65) k_) ?_
    refine Go.on (g' := (mkF m 67 _ [(.int ((5 : Int32) - (1 : Int32))), (.ref o1), (.int b11)])) (fun t_ k_ => XS.isub X4.here hx rfl (hb hby d5_66) rfl k_) ?_
    rw [show ((5 : Int32) - (1 : Int32)) = (4 : Int32) from by decide]
    refine Go.on (g' := (mkF m 68 _ [(.int (0 : Int32)), (.int b11)])) (X4.iaload hx (j := (4 : Int32)) (v := (.int (0 : Int32))) (by rw [e4]; exact A4.1) (State.isArrayOf_alike hZ.alike A4.2.1) A4.2.2 (by simp only [sz_set, sz_new]; decide) rfl (g := (mkF m 67 #[.val (.ref aw), .val (.int (2 : Int32)), .val (.int (1 : Int32)), .val (.ref o1), .val (.int (2 : Int32)), .val (.int (1 : Int32)), .val (.int y1), .val (.int (5 : Int32)), .val (.int b11)] [(.int (4 : Int32)), (.ref o1), (.int b11)])) rfl rfl (hb hby d5_67)) ?_
    refine Go.callS X4 hx hZ hby (by rw [hml]; rfl) (y := (⟨"java/lang/Math", "max", "(II)I"⟩ : MethodName)) hown (hw _ (List.mem_of_getElem? (i := 19) rfl)) (hw _ (List.mem_of_getElem? (i := 9) rfl)) (hw _ (List.mem_of_getElem? (i := 10) rfl)) (hw _ (List.mem_of_getElem? (i := 11) rfl)) (by decide) (argsL := [(.int b11), (.int (0 : Int32))]) (rest := []) (rmM l Z w0 hw [] b11 (0 : Int32) h4) e4 0 (by decide) (by decide) (by decide) (by decide) rfl pdM rfl (Nat.le_of_eq rfl) d5_68 (pcF := 71) rfl ?_
    intro v5 T5 L5 X5 hQ5
    obtain ⟨rfl, rfl, e5⟩ := hQ5
    rw [List.append_nil] at X5
    show Go p e below _ _ (mkF m 71 _ [(.int (own_max b11 (0 : Int32)))])
    refine Go.on (g' := (mkF m 73 #[.val (.ref aw), .val (.int (2 : Int32)), .val (.int (1 : Int32)), .val (.ref o1), .val (.int (2 : Int32)), .val (.int (1 : Int32)), .val (.int y1), .val (.int (5 : Int32)), .val (.int (own_max b11 (0 : Int32)))] [])) (fun t_ k_ => XS.istore X5.here hx rfl (hb hby d5_71) rfl (l' := #[.val (.ref aw), .val (.int (2 : Int32)), .val (.int (1 : Int32)), .val (.ref o1), .val (.int (2 : Int32)), .val (.int (1 : Int32)), .val (.int y1), .val (.int (5 : Int32)), .val (.int (own_max b11 (0 : Int32)))]) rfl k_) ?_
    refine Go.joinV (P := fun b21 : Int32 => b21 = own_cell y1 (own_max b11 (0 : Int32)) (0 : Int32)) (g := fun b21 => (mkF m 96 #[.val (.ref aw), .val (.int (2 : Int32)), .val (.int (1 : Int32)), .val (.ref o1), .val (.int (2 : Int32)), .val (.int (1 : Int32)), .val (.int y1), .val (.int (5 : Int32)), .val (.int b21)] [])) X5 e5 (fun T6 b21 X6 e6 hb21 => ?_) (fun J => ?_)
    · have hc21 : own_c21 y0 y1 = b21 := by rw [hb21, own_c21, hc11]
      show Go p e below _ _ (mkF m 96 _ [])
      refine Go.on (g' := (mkF m 97 _ [(.ref o1)])) (fun t_ k_ => XS.aloadN X6.here hx rfl (hb hby d5_96) rfl rfl k_) ?_
      refine Go.on (g' := (mkF m 99 _ [(.int (5 : Int32)), (.ref o1)])) (fun t_ k_ => XS.iload X6.here hx rfl (hb hby d5_97) rfl k_) ?_
      refine Go.on (g' := (mkF m 101 _ [(.int b21), (.int (5 : Int32)), (.ref o1)])) (fun t_ k_ => XS.iload X6.here hx rfl (hb hby d5_99) rfl k_) ?_
      obtain ⟨T7, h7, X7, e7, W7, st7⟩ := stI X6 hx hZ e6 A4 (j := (5 : Int32)) (by simp only [sz_set, sz_new]; decide) (g := (mkF m 101 #[.val (.ref aw), .val (.int (2 : Int32)), .val (.int (1 : Int32)), .val (.ref o1), .val (.int (2 : Int32)), .val (.int (1 : Int32)), .val (.int y1), .val (.int (5 : Int32)), .val (.int b21)] [(.int b21), (.int (5 : Int32)), (.ref o1)])) rfl rfl (hb hby d5_101)
      have N7 := Fr.snoc X7 N4 no1
      have Z7 : n0 ≤ h7.size := by rw [W7.size]; exact Z4
      have EX_7 := extWr EX_4 W7 mo1
      have arr_aw_7 := arr_aw_4.other W7 ne_aw_o1
      have A7 := A4.same W7
      refine Go.on (g' := (mkF m 102 _ [])) (st7) ?_
      refine Go.on (g' := (mkF m 105 #[.val (.ref aw), .val (.int (2 : Int32)), .val (.int (1 : Int32)), .val (.ref o1), .val (.int (2 : Int32)), .val (.int ((1 : Int32) + (1 : Int32))), .val (.int y1), .val (.int (5 : Int32)), .val (.int b21)] [])) (fun t_ k_ => XS.iinc X7.here hx rfl (hb hby d5_102) rfl (l' := #[.val (.ref aw), .val (.int (2 : Int32)), .val (.int (1 : Int32)), .val (.ref o1), .val (.int (2 : Int32)), .val (.int ((1 : Int32) + (1 : Int32))), .val (.int y1), .val (.int (5 : Int32)), .val (.int b21)]) rfl k_) ?_
      rw [show ((1 : Int32) + (1 : Int32)) = (2 : Int32) from by decide]
      refine Go.on (g' := (mkF m 22 _ [])) (fun t_ k_ => XS.goto X7.here hx rfl (pc0 := 105) (pc' := 22) rfl (hb hby d5_105) (by decide) (by decide) k_) ?_
      refine Go.on (g' := (mkF m 24 _ [(.int (2 : Int32))])) (fun t_ k_ => XS.iload X7.here hx rfl (hb hby d5_22) rfl k_) ?_
      refine Go.on (g' := (mkF m 25 _ [(.int (1 : Int32)), (.int (2 : Int32))])) (fun t_ k_ => XS.iloadN X7.here hx rfl (hb hby d5_24) rfl k_) ?_
      refine Go.icmp X7 hx hby d5_25 (pcT := 108) (pcF := 28) (by decide) (by decide) rfl (fun q => ?_) (fun q => absurd q (by decide))
      clear q
      show Go p e below _ _ (mkF m 108 _ [])
      refine Go.on (g' := (mkF m 111 #[.val (.ref aw), .val (.int (2 : Int32)), .val (.int (1 : Int32)), .val (.ref o1), .val (.int ((2 : Int32) + (1 : Int32))), .val (.int (2 : Int32)), .val (.int y1), .val (.int (5 : Int32)), .val (.int b21)] [])) (fun t_ k_ => XS.iinc X7.here hx rfl (hb hby d5_108) rfl (l' := #[.val (.ref aw), .val (.int (2 : Int32)), .val (.int (1 : Int32)), .val (.ref o1), .val (.int ((2 : Int32) + (1 : Int32))), .val (.int (2 : Int32)), .val (.int y1), .val (.int (5 : Int32)), .val (.int b21)]) rfl k_) ?_
      rw [show ((2 : Int32) + (1 : Int32)) = (3 : Int32) from by decide]
      refine Go.on (g' := (mkF m 13 _ [])) (fun t_ k_ => XS.goto X7.here hx rfl (pc0 := 111) (pc' := 13) rfl (hb hby d5_111) (by decide) (by decide) k_) ?_
      refine Go.on (g' := (mkF m 15 _ [(.int (3 : Int32))])) (fun t_ k_ => XS.iload X7.here hx rfl (hb hby d5_13) rfl k_) ?_
      refine Go.on (g' := (mkF m 16 _ [(.int (2 : Int32)), (.int (3 : Int32))])) (fun t_ k_ => XS.iloadN X7.here hx rfl (hb hby d5_15) rfl k_) ?_
      refine Go.icmp X7 hx hby d5_16 (pcT := 114) (pcF := 19) (by decide) (by decide) rfl (fun q => ?_) (fun q => absurd q (by decide))
      clear q
      show Go p e below _ _ (mkF m 114 _ [])
      refine Go.on (g' := (mkF m 115 _ [(.int (2 : Int32))])) (fun t_ k_ => XS.iloadN X7.here hx rfl (hb hby d5_114) rfl k_) ?_
      obtain ⟨T8, h8, cA8, X8, e8, E8, A8, st8⟩ := newP X7 hx hZ (hw _ (List.mem_of_getElem? (i := 0) rfl)) e7 (g := (mkF m 115 #[.val (.ref aw), .val (.int (2 : Int32)), .val (.int (1 : Int32)), .val (.ref o1), .val (.int (3 : Int32)), .val (.int (2 : Int32)), .val (.int y1), .val (.int (5 : Int32)), .val (.int b21)] [(.int (2 : Int32))])) rfl (hb hby d5_115) (n := (2 : Int32)) rfl (by decide) (cap := 2) (by decide) (by decide) (by decide) (by decide)
      obtain ⟨o8, go8⟩ : ∃ z, z = (h7).size := ⟨_, rfl⟩
      rw [← go8] at A8 st8
      have no8 : n0 ≤ o8 := Nat.le_trans Z7 (Nat.le_of_eq go8.symm)
      have Z8 : n0 ≤ h8.size := Nat.le_trans Z7 E8.1
      have EX_8 := extTrans EX_7 E8
      have arr_aw_8 := arr_aw_7.ext E8
      have arr_o1_8 := A7.ext E8
      have mo8 : h0.size ≤ o8 := Nat.le_trans EX_7.1 (Nat.le_of_eq go8.symm)
      have ne_aw_o8 : aw ≠ o8 := Nat.ne_of_lt (by rw [go8]; exact arr_aw_7.lt)
      have ne_o1_o8 : o1 ≠ o8 := Nat.ne_of_lt (by rw [go8]; exact A7.lt)
      refine Go.on (g' := (mkF m 117 _ [(.ref o8)])) (st8) ?_
      refine Go.on (g' := (mkF m 119 #[.val (.ref aw), .val (.int (2 : Int32)), .val (.int (1 : Int32)), .val (.ref o1), .val (.ref o8), .val (.int (2 : Int32)), .val (.int y1), .val (.int (5 : Int32)), .val (.int b21)] [])) (fun t_ k_ => XS.astore X8.here hx rfl (hb hby d5_117) rfl rfl (l' := #[.val (.ref aw), .val (.int (2 : Int32)), .val (.int (1 : Int32)), .val (.ref o1), .val (.ref o8), .val (.int (2 : Int32)), .val (.int y1), .val (.int (5 : Int32)), .val (.int b21)]) rfl k_) ?_
      refine Go.on (g' := (mkF m 121 _ [(.ref o8)])) (fun t_ k_ => XS.aload X8.here hx rfl (hb hby d5_119) rfl rfl k_) ?_
      refine Go.on (g' := (mkF m 122 _ [(.int ((-1) : Int32)), (.ref o8)])) (fun t_ k_ => XS.iconst X8.here hx rfl (hb hby d5_121) k_) ?_
      refine Go.callS X8 hx hZ hby (by rw [hml]; rfl) (y := (⟨"java/util/Arrays", "fill", "([II)V"⟩ : MethodName)) hown (hw _ (List.mem_of_getElem? (i := 20) rfl)) (hw _ (List.mem_of_getElem? (i := 21) rfl)) (hw _ (List.mem_of_getElem? (i := 22) rfl)) (hw _ (List.mem_of_getElem? (i := 23) rfl)) (by decide) (argsL := [(.ref o8), (.int ((-1) : Int32))]) (rest := []) (rmFi2 l Z w0 hw [] o8 ((-1) : Int32) h8 n0 Z8 no8 _ A8 (sz_new _ _ _)) e8 0 (by decide) (by decide) (by decide) (by decide) rfl pdFi rfl (Nat.le_of_eq rfl) d5_122 (pcF := 125) rfl ?_
      intro v9 T9 L9 X9 hQ9
      obtain ⟨rfl, M9, K9, AR9⟩ := hQ9
      have N9 := Fr.app N7 M9
      have Z9 : n0 ≤ T9.heap.size := Nat.le_trans Z8 K9.1
      have EX9 := extKeep EX_8 K9 mo8
      have AW9 := arrKeep arr_aw_8 K9 ne_aw_o8
      have AB9 := arrKeep arr_o1_8 K9 ne_o1_o8
      have e9 : T9.heap = T9.heap := rfl
      show Go p e below _ _ (mkF m 125 _ [])
      refine Go.on (g' := (mkF m 126 _ [(.int (2 : Int32))])) (fun t_ k_ => XS.iloadN X9.here hx rfl (hb hby d5_125) rfl k_) ?_
      refine Go.on (g' := (mkF m 128 _ [])) (fun t_ k_ => XS.istore X9.here hx rfl (hb hby d5_126) rfl (l' := #[.val (.ref aw), .val (.int (2 : Int32)), .val (.int (1 : Int32)), .val (.ref o1), .val (.ref o8), .val (.int (2 : Int32)), .val (.int y1), .val (.int (5 : Int32)), .val (.int b21)]) rfl k_) ?_
      refine Go.on (g' := (mkF m 129 _ [(.int (1 : Int32))])) (fun t_ k_ => XS.iloadN X9.here hx rfl (hb hby d5_128) rfl k_) ?_
      refine Go.on (g' := (mkF m 131 #[.val (.ref aw), .val (.int (2 : Int32)), .val (.int (1 : Int32)), .val (.ref o1), .val (.ref o8), .val (.int (2 : Int32)), .val (.int (1 : Int32)), .val (.int (5 : Int32)), .val (.int b21)] [])) (fun t_ k_ => XS.istore X9.here hx rfl (hb hby d5_129) rfl (l' := #[.val (.ref aw), .val (.int (2 : Int32)), .val (.int (1 : Int32)), .val (.ref o1), .val (.ref o8), .val (.int (2 : Int32)), .val (.int (1 : Int32)), .val (.int (5 : Int32)), .val (.int b21)]) rfl k_) ?_
      rw [own_p21, hc11, hc21]
      exact nd21_2_1 l Z w0 hw ws aw o1 o8 p e s m below meth c h0 n0 T9 _ X9 hx hby hml hret hlk hZ _ e9 Z9 N9 EX9 no8 mo8 ne_aw_o8 ne_o1_o8 cw AW9 y0 y1 HW _ AB9 b11 b21 ⟨by simp only [sz_set, sz_new]; decide, rfl, rfl, rfl, rfl, rfl, rfl⟩ _ AR9 (by simp only [sz_set, sz_new]; decide) rfl rfl (.val (.int (5 : Int32))) (.val (.int b21)) (One.val rfl) (One.val rfl)
    · show Go p e below _ _ (mkF m 73 _ [])
      refine Go.on (g' := (mkF m 75 _ [(.int y1)])) (fun t_ k_ => XS.iload X5.here hx rfl (hb hby d5_73) rfl k_) ?_
      refine Go.ifc X5 hx hby d5_75 (pcT := 96) (pcF := 78) (by decide) (by decide) rfl (fun q => ?_) (fun q => ?_)
      · have q1 := iLe.1 q
        clear q
        show Go p e below _ _ (mkF m 96 _ [])
        exact J T5 (own_max b11 (0 : Int32)) X5 e5 (by rw [own_cell, if_neg q1])
      · have q1 := iLe.2 q
        clear q
        show Go p e below _ _ (mkF m 78 _ [])
        refine Go.on (g' := (mkF m 80 _ [(.int (own_max b11 (0 : Int32)))])) (fun t_ k_ => XS.iload X5.here hx rfl (hb hby d5_78) rfl k_) ?_
        refine Go.on (g' := (mkF m 81 _ [(.ref o1), (.int (own_max b11 (0 : Int32)))])) (fun t_ k_ => XS.aloadN X5.here hx rfl (hb hby d5_80) rfl rfl k_) ?_
        refine Go.on (g' := (mkF m 83 _ [(.int (5 : Int32)), (.ref o1), (.int (own_max b11 (0 : Int32)))])) (fun t_ k_ => XS.iload X5.here hx rfl (hb hby d5_81) rfl k_) ?_
        refine Go.on (g' := (mkF m 84 _ [(.int (1 : Int32)), (.int (5 : Int32)), (.ref o1), (.int (own_max b11 (0 : Int32)))])) (fun t_ k_ => XS.iloadN X5.here hx rfl (hb hby d5_83) rfl k_) ?_
        refine Go.on (g' := (mkF m 85 _ [(.int ((5 : Int32) - (1 : Int32))), (.ref o1), (.int (own_max b11 (0 : Int32)))])) (fun t_ k_ => XS.isub X5.here hx rfl (hb hby d5_84) rfl k_) ?_
        rw [show ((5 : Int32) - (1 : Int32)) = (4 : Int32) from by decide]
        refine Go.on (g' := (mkF m 86 _ [(.int (2 : Int32)), (.int (4 : Int32)), (.ref o1), (.int (own_max b11 (0 : Int32)))])) (fun t_ k_ => XS.iconst X5.here hx rfl (hb hby d5_85) k_) ?_
        refine Go.on (g' := (mkF m 87 _ [(.int ((4 : Int32) - (2 : Int32))), (.ref o1), (.int (own_max b11 (0 : Int32)))])) (fun t_ k_ => XS.isub X5.here hx rfl (hb hby d5_86) rfl k_) ?_
        rw [show ((4 : Int32) - (2 : Int32)) = (2 : Int32) from by decide]
        refine Go.on (g' := (mkF m 88 _ [(.int (0 : Int32)), (.int (own_max b11 (0 : Int32)))])) (X5.iaload hx (j := (2 : Int32)) (v := (.int (0 : Int32))) (by rw [e5]; exact A4.1) (State.isArrayOf_alike hZ.alike A4.2.1) A4.2.2 (by simp only [sz_set, sz_new]; decide) rfl (g := (mkF m 87 #[.val (.ref aw), .val (.int (2 : Int32)), .val (.int (1 : Int32)), .val (.ref o1), .val (.int (2 : Int32)), .val (.int (1 : Int32)), .val (.int y1), .val (.int (5 : Int32)), .val (.int (own_max b11 (0 : Int32)))] [(.int (2 : Int32)), (.ref o1), (.int (own_max b11 (0 : Int32)))])) rfl rfl (hb hby d5_87)) ?_
        refine Go.on (g' := (mkF m 90 _ [(.int y1), (.int (0 : Int32)), (.int (own_max b11 (0 : Int32)))])) (fun t_ k_ => XS.iload X5.here hx rfl (hb hby d5_88) rfl k_) ?_
        refine Go.on (g' := (mkF m 91 _ [(.int ((0 : Int32) + y1)), (.int (own_max b11 (0 : Int32)))])) (fun t_ k_ => XS.iadd X5.here hx rfl (hb hby d5_90) rfl k_) ?_
        refine Go.callS X5 hx hZ hby (by rw [hml]; rfl) (y := (⟨"java/lang/Math", "max", "(II)I"⟩ : MethodName)) hown (hw _ (List.mem_of_getElem? (i := 19) rfl)) (hw _ (List.mem_of_getElem? (i := 9) rfl)) (hw _ (List.mem_of_getElem? (i := 10) rfl)) (hw _ (List.mem_of_getElem? (i := 11) rfl)) (by decide) (argsL := [(.int (own_max b11 (0 : Int32))), (.int ((0 : Int32) + y1))]) (rest := []) (rmM l Z w0 hw [] (own_max b11 (0 : Int32)) ((0 : Int32) + y1) h4) e5 0 (by decide) (by decide) (by decide) (by decide) rfl pdM rfl (Nat.le_of_eq rfl) d5_91 (pcF := 94) rfl ?_
        intro v10 T10 L10 X10 hQ10
        obtain ⟨rfl, rfl, e10⟩ := hQ10
        rw [List.append_nil] at X10
        show Go p e below _ _ (mkF m 94 _ [(.int (own_max (own_max b11 (0 : Int32)) ((0 : Int32) + y1)))])
        refine Go.on (g' := (mkF m 96 #[.val (.ref aw), .val (.int (2 : Int32)), .val (.int (1 : Int32)), .val (.ref o1), .val (.int (2 : Int32)), .val (.int (1 : Int32)), .val (.int y1), .val (.int (5 : Int32)), .val (.int (own_max (own_max b11 (0 : Int32)) ((0 : Int32) + y1)))] [])) (fun t_ k_ => XS.istore X10.here hx rfl (hb hby d5_94) rfl (l' := #[.val (.ref aw), .val (.int (2 : Int32)), .val (.int (1 : Int32)), .val (.ref o1), .val (.int (2 : Int32)), .val (.int (1 : Int32)), .val (.int y1), .val (.int (5 : Int32)), .val (.int (own_max (own_max b11 (0 : Int32)) ((0 : Int32) + y1)))]) rfl k_) ?_
        exact J T10 (own_max (own_max b11 (0 : Int32)) ((0 : Int32) + y1)) X10 e10 (by rw [own_cell, if_pos q1])
  · show Go p e below _ _ (mkF m 73 _ [])
    refine Go.on (g' := (mkF m 75 _ [(.int y0)])) (fun t_ k_ => XS.iload X2.here hx rfl (hb hby d5_73) rfl k_) ?_
    refine Go.ifc X2 hx hby d5_75 (pcT := 96) (pcF := 78) (by decide) (by decide) rfl (fun q => ?_) (fun q => ?_)
    · have q2 := iLe.1 q
      clear q
      show Go p e below _ _ (mkF m 96 _ [])
      exact J T2 (own_max (0 : Int32) (0 : Int32)) X2 e2 (by rw [own_cell, if_neg q2])
    · have q2 := iLe.2 q
      clear q
      show Go p e below _ _ (mkF m 78 _ [])
      refine Go.on (g' := (mkF m 80 _ [(.int (own_max (0 : Int32) (0 : Int32)))])) (fun t_ k_ => XS.iload X2.here hx rfl (hb hby d5_78) rfl k_) ?_
      refine Go.on (g' := (mkF m 81 _ [(.ref o1), (.int (own_max (0 : Int32) (0 : Int32)))])) (fun t_ k_ => XS.aloadN X2.here hx rfl (hb hby d5_80) rfl rfl k_) ?_
      refine Go.on (g' := (mkF m 83 _ [(.int (3 : Int32)), (.ref o1), (.int (own_max (0 : Int32) (0 : Int32)))])) (fun t_ k_ => XS.iload X2.here hx rfl (hb hby d5_81) rfl k_) ?_
      refine Go.on (g' := (mkF m 84 _ [(.int (1 : Int32)), (.int (3 : Int32)), (.ref o1), (.int (own_max (0 : Int32) (0 : Int32)))])) (fun t_ k_ => XS.iloadN X2.here hx rfl (hb hby d5_83) rfl k_) ?_
      refine Go.on (g' := (mkF m 85 _ [(.int ((3 : Int32) - (1 : Int32))), (.ref o1), (.int (own_max (0 : Int32) (0 : Int32)))])) (fun t_ k_ => XS.isub X2.here hx rfl (hb hby d5_84) rfl k_) ?_
      rw [show ((3 : Int32) - (1 : Int32)) = (2 : Int32) from by decide]
      refine Go.on (g' := (mkF m 86 _ [(.int (2 : Int32)), (.int (2 : Int32)), (.ref o1), (.int (own_max (0 : Int32) (0 : Int32)))])) (fun t_ k_ => XS.iconst X2.here hx rfl (hb hby d5_85) k_) ?_
      refine Go.on (g' := (mkF m 87 _ [(.int ((2 : Int32) - (2 : Int32))), (.ref o1), (.int (own_max (0 : Int32) (0 : Int32)))])) (fun t_ k_ => XS.isub X2.here hx rfl (hb hby d5_86) rfl k_) ?_
      rw [show ((2 : Int32) - (2 : Int32)) = (0 : Int32) from by decide]
      refine Go.on (g' := (mkF m 88 _ [(.int (0 : Int32)), (.int (own_max (0 : Int32) (0 : Int32)))])) (X2.iaload hx (j := (0 : Int32)) (v := (.int (0 : Int32))) (by rw [e2]; exact A1.1) (State.isArrayOf_alike hZ.alike A1.2.1) A1.2.2 (by simp only [sz_set, sz_new]; decide) rfl (g := (mkF m 87 #[.val (.ref aw), .val (.int (2 : Int32)), .val (.int (1 : Int32)), .val (.ref o1), .val (.int (1 : Int32)), .val (.int (1 : Int32)), .val (.int y0), .val (.int (3 : Int32)), .val (.int (own_max (0 : Int32) (0 : Int32)))] [(.int (0 : Int32)), (.ref o1), (.int (own_max (0 : Int32) (0 : Int32)))])) rfl rfl (hb hby d5_87)) ?_
      refine Go.on (g' := (mkF m 90 _ [(.int y0), (.int (0 : Int32)), (.int (own_max (0 : Int32) (0 : Int32)))])) (fun t_ k_ => XS.iload X2.here hx rfl (hb hby d5_88) rfl k_) ?_
      refine Go.on (g' := (mkF m 91 _ [(.int ((0 : Int32) + y0)), (.int (own_max (0 : Int32) (0 : Int32)))])) (fun t_ k_ => XS.iadd X2.here hx rfl (hb hby d5_90) rfl k_) ?_
      refine Go.callS X2 hx hZ hby (by rw [hml]; rfl) (y := (⟨"java/lang/Math", "max", "(II)I"⟩ : MethodName)) hown (hw _ (List.mem_of_getElem? (i := 19) rfl)) (hw _ (List.mem_of_getElem? (i := 9) rfl)) (hw _ (List.mem_of_getElem? (i := 10) rfl)) (hw _ (List.mem_of_getElem? (i := 11) rfl)) (by decide) (argsL := [(.int (own_max (0 : Int32) (0 : Int32))), (.int ((0 : Int32) + y0))]) (rest := []) (rmM l Z w0 hw [] (own_max (0 : Int32) (0 : Int32)) ((0 : Int32) + y0) h1) e2 0 (by decide) (by decide) (by decide) (by decide) rfl pdM rfl (Nat.le_of_eq rfl) d5_91 (pcF := 94) rfl ?_
      intro v11 T11 L11 X11 hQ11
      obtain ⟨rfl, rfl, e11⟩ := hQ11
      rw [List.append_nil] at X11
      show Go p e below _ _ (mkF m 94 _ [(.int (own_max (own_max (0 : Int32) (0 : Int32)) ((0 : Int32) + y0)))])
      refine Go.on (g' := (mkF m 96 #[.val (.ref aw), .val (.int (2 : Int32)), .val (.int (1 : Int32)), .val (.ref o1), .val (.int (1 : Int32)), .val (.int (1 : Int32)), .val (.int y0), .val (.int (3 : Int32)), .val (.int (own_max (own_max (0 : Int32) (0 : Int32)) ((0 : Int32) + y0)))] [])) (fun t_ k_ => XS.istore X11.here hx rfl (hb hby d5_94) rfl (l' := #[.val (.ref aw), .val (.int (2 : Int32)), .val (.int (1 : Int32)), .val (.ref o1), .val (.int (1 : Int32)), .val (.int (1 : Int32)), .val (.int y0), .val (.int (3 : Int32)), .val (.int (own_max (own_max (0 : Int32) (0 : Int32)) ((0 : Int32) + y0)))]) rfl k_) ?_
      exact J T11 (own_max (own_max (0 : Int32) (0 : Int32)) ((0 : Int32) + y0)) X11 e11 (by rw [own_cell, if_pos q2])
set_option maxRecDepth 65536 in
set_option maxHeartbeats 40000000 in
theorem rmPr20 (l : Launch) (Z : State) (w0 : Array Value) (hw : ∀ d ∈ tables_1, d.before w0 Z = true) (ws : List Jvm.Cond) (aw : Addr) (h0 : Heap) (n0 : Nat) (Z0 : n0 ≤ h0.size) (cw : Cell) (AW : Arr Z h0 aw cw .int)  : Pact l Z (⟨"com/example/same_shape/sameshape/service/OrderedPairing", "pair", "([III)[I"⟩ : MethodName) prog_7_method_2_code 9 (some (.array .int)) ws ({ frames := 1, cells := 2, slots := 5, locals := 15 } : Room) #[.ref aw, .int (2 : Int32), .int (0 : Int32)] h0 (own_Q2 Z ((-1), (-1)) h0 n0) := by
  refine Pact.intro (plainFor_of_name pnP) ?_
  intro p e s m below meth c T0 X0 hx hby hml hret hlk hown hnm hZ e0
  refine Go.at (efPr m aw (2 : Int32) (0 : Int32)) ?_
  have N0 := Fr.nil n0
  have EX0 : Ext h0 h0 := ⟨Nat.le_refl _, fun _ _ q => q⟩
  refine Go.on (g' := (mkF m 1 _ [(.int (2 : Int32))])) (fun t_ k_ => XS.iloadN X0.here hx rfl (hb hby d5_0) rfl k_) ?_
  refine Go.on (g' := (mkF m 2 _ [(.int (1 : Int32)), (.int (2 : Int32))])) (fun t_ k_ => XS.iconst X0.here hx rfl (hb hby d5_1) k_) ?_
  refine Go.on (g' := (mkF m 3 _ [(.int ((2 : Int32) + (1 : Int32)))])) (fun t_ k_ => XS.iadd X0.here hx rfl (hb hby d5_2) rfl k_) ?_
  rw [show ((2 : Int32) + (1 : Int32)) = (3 : Int32) from by decide]
  refine Go.on (g' := (mkF m 4 _ [(.int (0 : Int32)), (.int (3 : Int32))])) (fun t_ k_ => XS.iloadN X0.here hx rfl (hb hby d5_3) rfl k_) ?_
  refine Go.on (g' := (mkF m 5 _ [(.int (1 : Int32)), (.int (0 : Int32)), (.int (3 : Int32))])) (fun t_ k_ => XS.iconst X0.here hx rfl (hb hby d5_4) k_) ?_
  refine Go.on (g' := (mkF m 6 _ [(.int ((0 : Int32) + (1 : Int32))), (.int (3 : Int32))])) (fun t_ k_ => XS.iadd X0.here hx rfl (hb hby d5_5) rfl k_) ?_
  rw [show ((0 : Int32) + (1 : Int32)) = (1 : Int32) from by decide]
  refine Go.on (g' := (mkF m 7 _ [(.int ((3 : Int32) * (1 : Int32)))])) (fun t_ k_ => XS.imul X0.here hx rfl (hb hby d5_6) rfl k_) ?_
  rw [show ((3 : Int32) * (1 : Int32)) = (3 : Int32) from by decide]
  obtain ⟨T1, h1, cA1, X1, e1, E1, A1, st1⟩ := newP X0 hx hZ (hw _ (List.mem_of_getElem? (i := 0) rfl)) e0 (g := (mkF m 7 #[.val (.ref aw), .val (.int (2 : Int32)), .val (.int (0 : Int32)), .unset, .unset, .unset, .unset, .unset, .unset] [(.int (3 : Int32))])) rfl (hb hby d5_7) (n := (3 : Int32)) rfl (by decide) (cap := 3) (by decide) (by decide) (by decide) (by decide)
  obtain ⟨o1, go1⟩ : ∃ z, z = (h0).size := ⟨_, rfl⟩
  rw [← go1] at A1 st1
  have no1 : n0 ≤ o1 := Nat.le_trans Z0 (Nat.le_of_eq go1.symm)
  have Z1 : n0 ≤ h1.size := Nat.le_trans Z0 E1.1
  have EX_1 := extTrans EX0 E1
  have arr_aw_1 := AW.ext E1
  have mo1 : h0.size ≤ o1 := Nat.le_trans EX0.1 (Nat.le_of_eq go1.symm)
  have ne_aw_o1 : aw ≠ o1 := Nat.ne_of_lt (by rw [go1]; exact AW.lt)
  refine Go.on (g' := (mkF m 9 _ [(.ref o1)])) (st1) ?_
  refine Go.on (g' := (mkF m 10 #[.val (.ref aw), .val (.int (2 : Int32)), .val (.int (0 : Int32)), .val (.ref o1), .unset, .unset, .unset, .unset, .unset] [])) (fun t_ k_ => XS.astoreN X1.here hx rfl (hb hby d5_9) rfl rfl (l' := #[.val (.ref aw), .val (.int (2 : Int32)), .val (.int (0 : Int32)), .val (.ref o1), .unset, .unset, .unset, .unset, .unset]) rfl k_) ?_
  refine Go.on (g' := (mkF m 11 _ [(.int (1 : Int32))])) (fun t_ k_ => XS.iconst X1.here hx rfl (hb hby d5_10) k_) ?_
  refine Go.on (g' := (mkF m 13 #[.val (.ref aw), .val (.int (2 : Int32)), .val (.int (0 : Int32)), .val (.ref o1), .val (.int (1 : Int32)), .unset, .unset, .unset, .unset] [])) (fun t_ k_ => XS.istore X1.here hx rfl (hb hby d5_11) rfl (l' := #[.val (.ref aw), .val (.int (2 : Int32)), .val (.int (0 : Int32)), .val (.ref o1), .val (.int (1 : Int32)), .unset, .unset, .unset, .unset]) rfl k_) ?_
  refine Go.on (g' := (mkF m 15 _ [(.int (1 : Int32))])) (fun t_ k_ => XS.iload X1.here hx rfl (hb hby d5_13) rfl k_) ?_
  refine Go.on (g' := (mkF m 16 _ [(.int (2 : Int32)), (.int (1 : Int32))])) (fun t_ k_ => XS.iloadN X1.here hx rfl (hb hby d5_15) rfl k_) ?_
  refine Go.icmp X1 hx hby d5_16 (pcT := 114) (pcF := 19) (by decide) (by decide) rfl (fun q => absurd q (by decide)) (fun q => ?_)
  clear q
  show Go p e below _ _ (mkF m 19 _ [])
  refine Go.on (g' := (mkF m 20 _ [(.int (1 : Int32))])) (fun t_ k_ => XS.iconst X1.here hx rfl (hb hby d5_19) k_) ?_
  refine Go.on (g' := (mkF m 22 #[.val (.ref aw), .val (.int (2 : Int32)), .val (.int (0 : Int32)), .val (.ref o1), .val (.int (1 : Int32)), .val (.int (1 : Int32)), .unset, .unset, .unset] [])) (fun t_ k_ => XS.istore X1.here hx rfl (hb hby d5_20) rfl (l' := #[.val (.ref aw), .val (.int (2 : Int32)), .val (.int (0 : Int32)), .val (.ref o1), .val (.int (1 : Int32)), .val (.int (1 : Int32)), .unset, .unset, .unset]) rfl k_) ?_
  refine Go.on (g' := (mkF m 24 _ [(.int (1 : Int32))])) (fun t_ k_ => XS.iload X1.here hx rfl (hb hby d5_22) rfl k_) ?_
  refine Go.on (g' := (mkF m 25 _ [(.int (0 : Int32)), (.int (1 : Int32))])) (fun t_ k_ => XS.iloadN X1.here hx rfl (hb hby d5_24) rfl k_) ?_
  refine Go.icmp X1 hx hby d5_25 (pcT := 108) (pcF := 28) (by decide) (by decide) rfl (fun q => ?_) (fun q => absurd q (by decide))
  clear q
  show Go p e below _ _ (mkF m 108 _ [])
  refine Go.on (g' := (mkF m 111 #[.val (.ref aw), .val (.int (2 : Int32)), .val (.int (0 : Int32)), .val (.ref o1), .val (.int ((1 : Int32) + (1 : Int32))), .val (.int (1 : Int32)), .unset, .unset, .unset] [])) (fun t_ k_ => XS.iinc X1.here hx rfl (hb hby d5_108) rfl (l' := #[.val (.ref aw), .val (.int (2 : Int32)), .val (.int (0 : Int32)), .val (.ref o1), .val (.int ((1 : Int32) + (1 : Int32))), .val (.int (1 : Int32)), .unset, .unset, .unset]) rfl k_) ?_
  rw [show ((1 : Int32) + (1 : Int32)) = (2 : Int32) from by decide]
  refine Go.on (g' := (mkF m 13 _ [])) (fun t_ k_ => XS.goto X1.here hx rfl (pc0 := 111) (pc' := 13) rfl (hb hby d5_111) (by decide) (by decide) k_) ?_
  refine Go.on (g' := (mkF m 15 _ [(.int (2 : Int32))])) (fun t_ k_ => XS.iload X1.here hx rfl (hb hby d5_13) rfl k_) ?_
  refine Go.on (g' := (mkF m 16 _ [(.int (2 : Int32)), (.int (2 : Int32))])) (fun t_ k_ => XS.iloadN X1.here hx rfl (hb hby d5_15) rfl k_) ?_
  refine Go.icmp X1 hx hby d5_16 (pcT := 114) (pcF := 19) (by decide) (by decide) rfl (fun q => absurd q (by decide)) (fun q => ?_)
  clear q
  show Go p e below _ _ (mkF m 19 _ [])
  refine Go.on (g' := (mkF m 20 _ [(.int (1 : Int32))])) (fun t_ k_ => XS.iconst X1.here hx rfl (hb hby d5_19) k_) ?_
  refine Go.on (g' := (mkF m 22 _ [])) (fun t_ k_ => XS.istore X1.here hx rfl (hb hby d5_20) rfl (l' := #[.val (.ref aw), .val (.int (2 : Int32)), .val (.int (0 : Int32)), .val (.ref o1), .val (.int (2 : Int32)), .val (.int (1 : Int32)), .unset, .unset, .unset]) rfl k_) ?_
  refine Go.on (g' := (mkF m 24 _ [(.int (1 : Int32))])) (fun t_ k_ => XS.iload X1.here hx rfl (hb hby d5_22) rfl k_) ?_
  refine Go.on (g' := (mkF m 25 _ [(.int (0 : Int32)), (.int (1 : Int32))])) (fun t_ k_ => XS.iloadN X1.here hx rfl (hb hby d5_24) rfl k_) ?_
  refine Go.icmp X1 hx hby d5_25 (pcT := 108) (pcF := 28) (by decide) (by decide) rfl (fun q => ?_) (fun q => absurd q (by decide))
  clear q
  show Go p e below _ _ (mkF m 108 _ [])
  refine Go.on (g' := (mkF m 111 #[.val (.ref aw), .val (.int (2 : Int32)), .val (.int (0 : Int32)), .val (.ref o1), .val (.int ((2 : Int32) + (1 : Int32))), .val (.int (1 : Int32)), .unset, .unset, .unset] [])) (fun t_ k_ => XS.iinc X1.here hx rfl (hb hby d5_108) rfl (l' := #[.val (.ref aw), .val (.int (2 : Int32)), .val (.int (0 : Int32)), .val (.ref o1), .val (.int ((2 : Int32) + (1 : Int32))), .val (.int (1 : Int32)), .unset, .unset, .unset]) rfl k_) ?_
  rw [show ((2 : Int32) + (1 : Int32)) = (3 : Int32) from by decide]
  refine Go.on (g' := (mkF m 13 _ [])) (fun t_ k_ => XS.goto X1.here hx rfl (pc0 := 111) (pc' := 13) rfl (hb hby d5_111) (by decide) (by decide) k_) ?_
  refine Go.on (g' := (mkF m 15 _ [(.int (3 : Int32))])) (fun t_ k_ => XS.iload X1.here hx rfl (hb hby d5_13) rfl k_) ?_
  refine Go.on (g' := (mkF m 16 _ [(.int (2 : Int32)), (.int (3 : Int32))])) (fun t_ k_ => XS.iloadN X1.here hx rfl (hb hby d5_15) rfl k_) ?_
  refine Go.icmp X1 hx hby d5_16 (pcT := 114) (pcF := 19) (by decide) (by decide) rfl (fun q => ?_) (fun q => absurd q (by decide))
  clear q
  show Go p e below _ _ (mkF m 114 _ [])
  refine Go.on (g' := (mkF m 115 _ [(.int (2 : Int32))])) (fun t_ k_ => XS.iloadN X1.here hx rfl (hb hby d5_114) rfl k_) ?_
  obtain ⟨T2, h2, cA2, X2, e2, E2, A2, st2⟩ := newP X1 hx hZ (hw _ (List.mem_of_getElem? (i := 0) rfl)) e1 (g := (mkF m 115 #[.val (.ref aw), .val (.int (2 : Int32)), .val (.int (0 : Int32)), .val (.ref o1), .val (.int (3 : Int32)), .val (.int (1 : Int32)), .unset, .unset, .unset] [(.int (2 : Int32))])) rfl (hb hby d5_115) (n := (2 : Int32)) rfl (by decide) (cap := 2) (by decide) (by decide) (by decide) (by decide)
  obtain ⟨o2, go2⟩ : ∃ z, z = (h1).size := ⟨_, rfl⟩
  rw [← go2] at A2 st2
  have no2 : n0 ≤ o2 := Nat.le_trans Z1 (Nat.le_of_eq go2.symm)
  have Z2 : n0 ≤ h2.size := Nat.le_trans Z1 E2.1
  have EX_2 := extTrans EX_1 E2
  have arr_aw_2 := arr_aw_1.ext E2
  have arr_o1_2 := A1.ext E2
  have mo2 : h0.size ≤ o2 := Nat.le_trans EX_1.1 (Nat.le_of_eq go2.symm)
  have ne_aw_o2 : aw ≠ o2 := Nat.ne_of_lt (by rw [go2]; exact arr_aw_1.lt)
  have ne_o1_o2 : o1 ≠ o2 := Nat.ne_of_lt (by rw [go2]; exact A1.lt)
  refine Go.on (g' := (mkF m 117 _ [(.ref o2)])) (st2) ?_
  refine Go.on (g' := (mkF m 119 #[.val (.ref aw), .val (.int (2 : Int32)), .val (.int (0 : Int32)), .val (.ref o1), .val (.ref o2), .val (.int (1 : Int32)), .unset, .unset, .unset] [])) (fun t_ k_ => XS.astore X2.here hx rfl (hb hby d5_117) rfl rfl (l' := #[.val (.ref aw), .val (.int (2 : Int32)), .val (.int (0 : Int32)), .val (.ref o1), .val (.ref o2), .val (.int (1 : Int32)), .unset, .unset, .unset]) rfl k_) ?_
  refine Go.on (g' := (mkF m 121 _ [(.ref o2)])) (fun t_ k_ => XS.aload X2.here hx rfl (hb hby d5_119) rfl rfl k_) ?_
  refine Go.on (g' := (mkF m 122 _ [(.int ((-1) : Int32)), (.ref o2)])) (fun t_ k_ => XS.iconst X2.here hx rfl (hb hby d5_121) k_) ?_
  refine Go.callS X2 hx hZ hby (by rw [hml]; rfl) (y := (⟨"java/util/Arrays", "fill", "([II)V"⟩ : MethodName)) hown (hw _ (List.mem_of_getElem? (i := 20) rfl)) (hw _ (List.mem_of_getElem? (i := 21) rfl)) (hw _ (List.mem_of_getElem? (i := 22) rfl)) (hw _ (List.mem_of_getElem? (i := 23) rfl)) (by decide) (argsL := [(.ref o2), (.int ((-1) : Int32))]) (rest := []) (rmFi2 l Z w0 hw [] o2 ((-1) : Int32) h2 n0 Z2 no2 _ A2 (sz_new _ _ _)) e2 0 (by decide) (by decide) (by decide) (by decide) rfl pdFi rfl (Nat.le_of_eq rfl) d5_122 (pcF := 125) rfl ?_
  intro v3 T3 L3 X3 hQ3
  obtain ⟨rfl, M3, K3, AR3⟩ := hQ3
  have N3 := Fr.app N0 M3
  have Z3 : n0 ≤ T3.heap.size := Nat.le_trans Z2 K3.1
  have EX3 := extKeep EX_2 K3 mo2
  have AW3 := arrKeep arr_aw_2 K3 ne_aw_o2
  have AB3 := arrKeep arr_o1_2 K3 ne_o1_o2
  have e3 : T3.heap = T3.heap := rfl
  show Go p e below _ _ (mkF m 125 _ [])
  refine Go.on (g' := (mkF m 126 _ [(.int (2 : Int32))])) (fun t_ k_ => XS.iloadN X3.here hx rfl (hb hby d5_125) rfl k_) ?_
  refine Go.on (g' := (mkF m 128 #[.val (.ref aw), .val (.int (2 : Int32)), .val (.int (0 : Int32)), .val (.ref o1), .val (.ref o2), .val (.int (2 : Int32)), .unset, .unset, .unset] [])) (fun t_ k_ => XS.istore X3.here hx rfl (hb hby d5_126) rfl (l' := #[.val (.ref aw), .val (.int (2 : Int32)), .val (.int (0 : Int32)), .val (.ref o1), .val (.ref o2), .val (.int (2 : Int32)), .unset, .unset, .unset]) rfl k_) ?_
  refine Go.on (g' := (mkF m 129 _ [(.int (0 : Int32))])) (fun t_ k_ => XS.iloadN X3.here hx rfl (hb hby d5_128) rfl k_) ?_
  refine Go.on (g' := (mkF m 131 #[.val (.ref aw), .val (.int (2 : Int32)), .val (.int (0 : Int32)), .val (.ref o1), .val (.ref o2), .val (.int (2 : Int32)), .val (.int (0 : Int32)), .unset, .unset] [])) (fun t_ k_ => XS.istore X3.here hx rfl (hb hby d5_129) rfl (l' := #[.val (.ref aw), .val (.int (2 : Int32)), .val (.int (0 : Int32)), .val (.ref o1), .val (.ref o2), .val (.int (2 : Int32)), .val (.int (0 : Int32)), .unset, .unset]) rfl k_) ?_
  refine Go.on (g' := (mkF m 133 _ [(.int (2 : Int32))])) (fun t_ k_ => XS.iload X3.here hx rfl (hb hby d5_131) rfl k_) ?_
  refine Go.ifc X3 hx hby d5_133 (pcT := 237) (pcF := 136) (by decide) (by decide) rfl (fun q => absurd q (by decide)) (fun q => ?_)
  clear q
  show Go p e below _ _ (mkF m 136 _ [])
  refine Go.on (g' := (mkF m 138 _ [(.int (0 : Int32))])) (fun t_ k_ => XS.iload X3.here hx rfl (hb hby d5_136) rfl k_) ?_
  refine Go.ifc X3 hx hby d5_138 (pcT := 237) (pcF := 141) (by decide) (by decide) rfl (fun q => ?_) (fun q => absurd q (by decide))
  clear q
  show Go p e below _ _ (mkF m 237 _ [])
  refine Go.on (g' := (mkF m 239 _ [(.ref o2)])) (fun t_ k_ => XS.aload X3.here hx rfl (hb hby d5_237) rfl rfl k_) ?_
  exact Go.retA X3 hx hlk hret hby d5_239 rfl rfl (by decide) (by decide) ⟨_, _, rfl, N3, EX3, mo2, AR3, by simp only [sz_set, sz_new]; decide, rfl, rfl⟩
theorem own_rng (x : Int32) : 0 ≤ (x &&& (3 : Int32)).toInt ∧ (x &&& (3 : Int32)).toInt < 4 := by
  have e := c_and x (3 : Int32) (by decide)
  have k : (3 : Int32).toInt = 3 := by decide
  omega
theorem own_bd (x : Int32) : -536870912 ≤ (x >>> ((2 : Int32) &&& 31)).toInt ∧ (x >>> ((2 : Int32) &&& 31)).toInt < 536870912 := by
  have e := c_ishr x (2 : Int32) 2 (by decide)
  have r := rng32 x
  rw [e]
  omega
theorem own_max_i (x y : Int32) : (own_max x y).toInt = max x.toInt y.toInt := by
  unfold own_max
  split
  · rename_i h; rw [Int32.lt_iff_toInt_lt] at h; omega
  · rename_i h; rw [Int32.lt_iff_toInt_lt] at h; omega
theorem own_pos_i (x : Int32) : (own_pos x).toInt = max x.toInt 0 := own_max_i x 0
theorem own_add_i (x y : Int32) (h : -2147483648 ≤ x.toInt + y.toInt ∧ x.toInt + y.toInt < 2147483648) : (x + y).toInt = x.toInt + y.toInt := by
  have e := c_iadd x y
  have r := rng32 (x + y)
  omega
theorem own_cell_i (w u d : Int32) (h : -2147483648 ≤ d.toInt + w.toInt ∧ d.toInt + w.toInt < 2147483648) : (own_cell w u d).toInt = if 0 < w.toInt then max u.toInt (d.toInt + w.toInt) else u.toInt := by
  unfold own_cell
  simp only [Int32.lt_iff_toInt_lt]
  have z : (0 : Int32).toInt = 0 := by decide
  rw [z]
  split
  · rw [own_max_i, own_add_i d w h]
  · rfl
theorem own_z0 : (0 : Int32).toInt = 0 := by decide
theorem own_c11_i {w0 : Int32} (d0 : -536870912 ≤ w0.toInt ∧ w0.toInt < 536870912) : (own_c11 w0).toInt = max w0.toInt 0 := by
  rw [own_c11, own_cell_i _ _ _ (by rw [own_z0]; omega), own_max_i, own_z0]
  omega
theorem own_c12_i {w0 w1 : Int32} (d0 : -536870912 ≤ w0.toInt ∧ w0.toInt < 536870912) (d1 : -536870912 ≤ w1.toInt ∧ w1.toInt < 536870912) : (own_c12 w0 w1).toInt = max (max w0.toInt 0) (max w1.toInt 0) := by
  rw [own_c12, own_cell_i _ _ _ (by rw [own_z0]; omega), own_max_i, own_z0, own_c11_i d0]
  omega
theorem own_c13_i {w0 w1 w2 : Int32} (d0 : -536870912 ≤ w0.toInt ∧ w0.toInt < 536870912) (d1 : -536870912 ≤ w1.toInt ∧ w1.toInt < 536870912) (d2 : -536870912 ≤ w2.toInt ∧ w2.toInt < 536870912) : (own_c13 w0 w1 w2).toInt = max (max (max w0.toInt 0) (max w1.toInt 0)) (max w2.toInt 0) := by
  rw [own_c13, own_cell_i _ _ _ (by rw [own_z0]; omega), own_max_i, own_z0, own_c12_i d0 d1]
  omega
theorem own_c21_i {w0 w3 : Int32} (d0 : -536870912 ≤ w0.toInt ∧ w0.toInt < 536870912) (d3 : -536870912 ≤ w3.toInt ∧ w3.toInt < 536870912) : (own_c21 w0 w3).toInt = max (max w0.toInt 0) (max w3.toInt 0) := by
  rw [own_c21, own_cell_i _ _ _ (by rw [own_z0]; omega), own_max_i, own_z0, own_c11_i d0]
  omega
theorem own_h11 {u0 : Int32} (d0 : -536870912 ≤ u0.toInt ∧ u0.toInt < 536870912) : own_c11 u0 = own_pos u0 := Int32.toInt_inj.mp (by rw [own_c11_i d0, own_pos_i])
theorem own_h12 {u0 u1 : Int32} (d0 : -536870912 ≤ u0.toInt ∧ u0.toInt < 536870912) (d1 : -536870912 ≤ u1.toInt ∧ u1.toInt < 536870912) : own_c12 u0 u1 = own_max (own_pos u0) (own_pos u1) := Int32.toInt_inj.mp (by rw [own_c12_i d0 d1, own_max_i, own_pos_i, own_pos_i])
theorem own_h13 {u0 u1 u2 : Int32} (d0 : -536870912 ≤ u0.toInt ∧ u0.toInt < 536870912) (d1 : -536870912 ≤ u1.toInt ∧ u1.toInt < 536870912) (d2 : -536870912 ≤ u2.toInt ∧ u2.toInt < 536870912) : own_c13 u0 u1 u2 = own_max (own_max (own_pos u0) (own_pos u1)) (own_pos u2) := Int32.toInt_inj.mp (by rw [own_c13_i d0 d1 d2, own_max_i, own_max_i, own_pos_i, own_pos_i, own_pos_i])
theorem own_h22 {u0 u1 u3 u4 : Int32} (d0 : -536870912 ≤ u0.toInt ∧ u0.toInt < 536870912) (d1 : -536870912 ≤ u1.toInt ∧ u1.toInt < 536870912) (d3 : -536870912 ≤ u3.toInt ∧ u3.toInt < 536870912) (d4 : -536870912 ≤ u4.toInt ∧ u4.toInt < 536870912) :
    own_c22 u0 u1 u3 u4 = own_max (own_pos u0 + own_pos u4) (own_max (own_pos u1) (own_pos u3)) := by
  have e1 := own_c11_i d0
  have e2 := own_c12_i d0 d1
  have e3 := own_c21_i d0 d3
  refine Int32.toInt_inj.mp ?_
  rw [own_c22, own_cell_i _ _ _ (by omega), own_max_i, own_max_i, own_max_i, own_add_i _ _ (by rw [own_pos_i, own_pos_i]; omega), own_pos_i, own_pos_i, own_pos_i, own_pos_i, e1, e2, e3]
  omega
theorem own_m23a (p0 p1 p2 p3 p4 u : Int) (h0 : 0 ≤ p0) (h1 : 0 ≤ p1) (h2 : 0 ≤ p2) (h3 : 0 ≤ p3) (h4 : 0 ≤ p4) (hu : 0 < u) : max (max (max (max p0 p1) p2) (max (p0 + p4) (max p1 p3))) (max p0 p1 + u) = max (max (p0 + p4) (p0 + u)) (max (p1 + u) (max p2 p3)) := by
  apply Int.le_antisymm
  · refine Int.max_le.mpr ⟨Int.max_le.mpr ⟨Int.max_le.mpr ⟨Int.max_le.mpr ⟨?_, ?_⟩, ?_⟩, Int.max_le.mpr ⟨?_, Int.max_le.mpr ⟨?_, ?_⟩⟩⟩, ?_⟩ <;> omega
  · refine Int.max_le.mpr ⟨Int.max_le.mpr ⟨?_, ?_⟩, Int.max_le.mpr ⟨?_, Int.max_le.mpr ⟨?_, ?_⟩⟩⟩ <;> omega
theorem own_m23b (p0 p1 p2 p3 p4 : Int) (h0 : 0 ≤ p0) (h1 : 0 ≤ p1) (h2 : 0 ≤ p2) (h3 : 0 ≤ p3) (h4 : 0 ≤ p4) : max (max (max p0 p1) p2) (max (p0 + p4) (max p1 p3)) = max (max (p0 + p4) (p0 + 0)) (max (p1 + 0) (max p2 p3)) := by
  apply Int.le_antisymm
  · refine Int.max_le.mpr ⟨Int.max_le.mpr ⟨Int.max_le.mpr ⟨?_, ?_⟩, ?_⟩, Int.max_le.mpr ⟨?_, Int.max_le.mpr ⟨?_, ?_⟩⟩⟩ <;> omega
  · refine Int.max_le.mpr ⟨Int.max_le.mpr ⟨?_, ?_⟩, Int.max_le.mpr ⟨?_, Int.max_le.mpr ⟨?_, ?_⟩⟩⟩ <;> omega
theorem own_h23 {u0 u1 u2 u3 u4 u5 : Int32} (d0 : -536870912 ≤ u0.toInt ∧ u0.toInt < 536870912) (d1 : -536870912 ≤ u1.toInt ∧ u1.toInt < 536870912) (d2 : -536870912 ≤ u2.toInt ∧ u2.toInt < 536870912) (d3 : -536870912 ≤ u3.toInt ∧ u3.toInt < 536870912) (d4 : -536870912 ≤ u4.toInt ∧ u4.toInt < 536870912) (d5 : -536870912 ≤ u5.toInt ∧ u5.toInt < 536870912) :
    own_c23 u0 u1 u2 u3 u4 u5 = own_max (own_max (own_pos u0 + own_pos u4) (own_pos u0 + own_pos u5)) (own_max (own_pos u1 + own_pos u5) (own_max (own_pos u2) (own_pos u3))) := by
  have e2 := own_c12_i d0 d1
  have e3 := own_c13_i d0 d1 d2
  have e4 : (own_c22 u0 u1 u3 u4).toInt = max (max u0.toInt 0 + max u4.toInt 0) (max (max u1.toInt 0) (max u3.toInt 0)) := by
    rw [own_h22 d0 d1 d3 d4, own_max_i, own_max_i, own_add_i _ _ (by rw [own_pos_i, own_pos_i]; omega), own_pos_i, own_pos_i, own_pos_i, own_pos_i]
  refine Int32.toInt_inj.mp ?_
  have f1 : (own_pos u0 + own_pos u4).toInt = max u0.toInt 0 + max u4.toInt 0 := by rw [own_add_i _ _ (by rw [own_pos_i, own_pos_i]; omega), own_pos_i, own_pos_i]
  have f2 : (own_pos u0 + own_pos u5).toInt = max u0.toInt 0 + max u5.toInt 0 := by rw [own_add_i _ _ (by rw [own_pos_i, own_pos_i]; omega), own_pos_i, own_pos_i]
  have f3 : (own_pos u1 + own_pos u5).toInt = max u1.toInt 0 + max u5.toInt 0 := by rw [own_add_i _ _ (by rw [own_pos_i, own_pos_i]; omega), own_pos_i, own_pos_i]
  have b2 : -2147483648 ≤ (own_c12 u0 u1).toInt + u5.toInt ∧ (own_c12 u0 u1).toInt + u5.toInt < 2147483648 := by rw [e2]; omega
  rw [own_c23, own_cell_i _ _ _ b2, own_max_i, own_max_i, own_max_i, own_max_i, own_max_i, f1, f2, f3, own_pos_i, own_pos_i, e2, e3, e4]
  by_cases h5 : 0 < u5.toInt
  · rw [if_pos h5, show max u5.toInt 0 = u5.toInt from by omega]
    exact own_m23a _ _ _ _ _ _ (by omega) (by omega) (by omega) (by omega) (by omega) h5
  · rw [if_neg h5, show max u5.toInt 0 = 0 from by omega]
    exact own_m23b _ _ _ _ _ (by omega) (by omega) (by omega) (by omega) (by omega)
theorem own_l1 {u0 : Int32} (y z : Int32) (d0 : -536870912 ≤ u0.toInt ∧ u0.toInt < 536870912) : own_r11 u0 (own_c11 u0) = own_lb 1 u0 y z := by
  have e1 := own_c11_i d0
  have k2 : ¬ ¬ (1 : Int32) < 3 := by decide
  have k3 : ¬ ¬ (1 : Int32) < 2 := by decide
  rw [own_r11, own_lb1]
  simp only [Int32.zero_add, k2, k3, false_and, if_false, ← Int32.toInt_inj, Int32.lt_iff_toInt_lt, own_max_i, own_pos_i, own_z0, e1]
  split <;> split <;> first | rfl | (exfalso; omega)
theorem own_l2 {u0 u1 : Int32} (z : Int32) (d0 : -536870912 ≤ u0.toInt ∧ u0.toInt < 536870912) (d1 : -536870912 ≤ u1.toInt ∧ u1.toInt < 536870912) : own_r12 u0 u1 (own_c11 u0) (own_c12 u0 u1) = own_lb 2 u0 u1 z := by
  have e1 := own_c11_i d0
  have e2 := own_c12_i d0 d1
  have k2 : ¬ ¬ (2 : Int32) < 3 := by decide
  have k3 : ¬ (2 : Int32) < 2 := by decide
  rw [own_r12, own_r11, own_lb2]
  simp only [Int32.zero_add, k2, k3, false_and, not_false_eq_true, true_and, if_false, ← Int32.toInt_inj, Int32.lt_iff_toInt_lt, own_max_i, own_pos_i, own_z0, e1, e2]
  repeat' split
  all_goals first | rfl | (exfalso; omega)
theorem own_l3 {u0 u1 u2 : Int32} (d0 : -536870912 ≤ u0.toInt ∧ u0.toInt < 536870912) (d1 : -536870912 ≤ u1.toInt ∧ u1.toInt < 536870912) (d2 : -536870912 ≤ u2.toInt ∧ u2.toInt < 536870912) : own_r13 u0 u1 u2 (own_c11 u0) (own_c12 u0 u1) (own_c13 u0 u1 u2) = own_lb 3 u0 u1 u2 := by
  have e1 := own_c11_i d0
  have e2 := own_c12_i d0 d1
  have e3 := own_c13_i d0 d1 d2
  have k2 : ¬ (3 : Int32) < 3 := by decide
  have k3 : ¬ (3 : Int32) < 2 := by decide
  rw [own_r13, own_r12, own_r11, own_lb3]
  simp only [Int32.zero_add, k2, k3, not_false_eq_true, true_and, ← Int32.toInt_inj, Int32.lt_iff_toInt_lt, own_max_i, own_pos_i, own_z0, e1, e2, e3]
  repeat' split
  all_goals first | rfl | (exfalso; omega)
theorem own_law21 (u0 u3 : Int32) (d0 : -536870912 ≤ u0.toInt ∧ u0.toInt < 536870912) (d3 : -536870912 ≤ u3.toInt ∧ u3.toInt < 536870912) : own_p21 u0 u3 = own_tw u0 u3 := by
  have e1 := own_c11_i d0
  have e3 := own_c21_i d0 d3
  rw [own_p21, own_21, own_twE, own_l1 0 0 d0]
  simp only [Int32.zero_add, ← Int32.toInt_inj, Int32.lt_iff_toInt_lt, own_max_i, own_pos_i, own_z0, e1, e3]
theorem own_law13 (u0 u1 u2 : Int32) (d0 : -536870912 ≤ u0.toInt ∧ u0.toInt < 536870912) (d1 : -536870912 ≤ u1.toInt ∧ u1.toInt < 536870912) (d2 : -536870912 ≤ u2.toInt ∧ u2.toInt < 536870912) : own_p13 u0 u1 u2 = own_lb 3 u0 u1 u2 := own_l3 d0 d1 d2
theorem own_law23 (u0 u1 u2 u3 u4 u5 : Int32) (d0 : -536870912 ≤ u0.toInt ∧ u0.toInt < 536870912) (d1 : -536870912 ≤ u1.toInt ∧ u1.toInt < 536870912) (d2 : -536870912 ≤ u2.toInt ∧ u2.toInt < 536870912) (d3 : -536870912 ≤ u3.toInt ∧ u3.toInt < 536870912) (d4 : -536870912 ≤ u4.toInt ∧ u4.toInt < 536870912) (d5 : -536870912 ≤ u5.toInt ∧ u5.toInt < 536870912) : own_p23 u0 u1 u2 u3 u4 u5 = own_fu u0 u1 u2 u3 u4 u5 := by
  have t : own_21 u0 u3 (own_c11 u0) (own_c21 u0 u3) = own_tw u0 u3 := own_law21 u0 u3 d0 d3
  rw [own_p23, own_23, own_22, own_fuE, own_l2 u2 d0 d1, own_l3 d0 d1 d2, own_l1 u1 u2 d0, t, own_h23 d0 d1 d2 d3 d4 d5, own_h22 d0 d1 d3 d4, own_h13 d0 d1 d2, own_h12 d0 d1, own_h11 d0]

def own_Q0 (n0 : Nat) (v : Option Value) (h : Heap) (L : List Loc) : Prop := v = some (.int 1) ∧ Fr n0 L
set_option maxRecDepth 65536 in
set_option maxHeartbeats 40000000 in
theorem rmLaw (l : Launch) (Z : State) (w0 : Array Value) (hw : ∀ d ∈ tables_1, d.before w0 Z = true) (ws : List Jvm.Cond) (p0 p1 p2 : Int64) (p3 : Int32) (h0 : Heap) (n0 : Nat) (Z0 : n0 ≤ h0.size) : Pact l Z x code maxLocals ret ws room_1 #[.long p0, .long p1, .long p2, .int p3] h0 (own_Q0 n0) := by
  refine Pact.intro (plainFor_of_name pnLaw) ?_
  intro p e s m below meth c T0 X0 hx hby hml hret hlk hown hnm hZ e0
  refine Go.at (ef0 m p0 p1 p2 p3) ?_
  have hown : s.vm.findClass "com/example/same_shape/sameshape/service/OrderedPairingPairPinLaw" = some m.cls := hown
  have N0 := Fr.nil n0
  have EX0 : Ext h0 h0 := ⟨Nat.le_refl _, fun _ _ q => q⟩
  refine Go.on (g' := (mkF m 1 _ [(.long p0)])) (fun t_ k_ => XT.lloadN X0.here hx rfl (hb hby at_0) rfl k_) ?_
  refine Go.on (g' := (mkF m 3 _ [(.int (32 : Int32)), (.long p0)])) (fun t_ k_ => XS.bipush X0.here hx rfl (hb hby at_1) k_) ?_
  refine Go.on (g' := (mkF m 4 _ [(.long (p0 >>> ((32 : Int32).toInt64 &&& 63)))])) (fun t_ k_ => XT.lshr X0.here hx rfl (hb hby at_3) rfl k_) ?_
  refine Go.on (g' := (mkF m 5 _ [(.int ((p0 >>> ((32 : Int32).toInt64 &&& 63)).toInt32))])) (fun t_ k_ => XT.l2i X0.here hx rfl (hb hby at_4) rfl k_) ?_
  refine Go.on (g' := (mkF m 6 _ [(.int (2 : Int32)), (.int ((p0 >>> ((32 : Int32).toInt64 &&& 63)).toInt32))])) (fun t_ k_ => XS.iconst X0.here hx rfl (hb hby at_5) k_) ?_
  refine Go.on (g' := (mkF m 7 _ [(.int (((p0 >>> ((32 : Int32).toInt64 &&& 63)).toInt32) >>> ((2 : Int32) &&& 31)))])) (fun t_ k_ => XT.ishr X0.here hx rfl (hb hby at_6) rfl k_) ?_
  refine Go.on (g' := (mkF m 9 #[.val (.long p0), .second, .val (.long p1), .second, .val (.long p2), .second, .val (.int p3), .val (.int (((p0 >>> ((32 : Int32).toInt64 &&& 63)).toInt32) >>> ((2 : Int32) &&& 31))), .unset, .unset, .unset, .unset, .unset, .unset, .unset, .unset, .unset, .unset, .unset] [])) (fun t_ k_ => XS.istore X0.here hx rfl (hb hby at_7) rfl (l' := #[.val (.long p0), .second, .val (.long p1), .second, .val (.long p2), .second, .val (.int p3), .val (.int (((p0 >>> ((32 : Int32).toInt64 &&& 63)).toInt32) >>> ((2 : Int32) &&& 31))), .unset, .unset, .unset, .unset, .unset, .unset, .unset, .unset, .unset, .unset, .unset]) rfl k_) ?_
  refine Go.on (g' := (mkF m 10 _ [(.long p0)])) (fun t_ k_ => XT.lloadN X0.here hx rfl (hb hby at_9) rfl k_) ?_
  refine Go.on (g' := (mkF m 11 _ [(.int (p0.toInt32))])) (fun t_ k_ => XT.l2i X0.here hx rfl (hb hby at_10) rfl k_) ?_
  refine Go.on (g' := (mkF m 12 _ [(.int (2 : Int32)), (.int (p0.toInt32))])) (fun t_ k_ => XS.iconst X0.here hx rfl (hb hby at_11) k_) ?_
  refine Go.on (g' := (mkF m 13 _ [(.int ((p0.toInt32) >>> ((2 : Int32) &&& 31)))])) (fun t_ k_ => XT.ishr X0.here hx rfl (hb hby at_12) rfl k_) ?_
  refine Go.on (g' := (mkF m 15 #[.val (.long p0), .second, .val (.long p1), .second, .val (.long p2), .second, .val (.int p3), .val (.int (((p0 >>> ((32 : Int32).toInt64 &&& 63)).toInt32) >>> ((2 : Int32) &&& 31))), .val (.int ((p0.toInt32) >>> ((2 : Int32) &&& 31))), .unset, .unset, .unset, .unset, .unset, .unset, .unset, .unset, .unset, .unset] [])) (fun t_ k_ => XS.istore X0.here hx rfl (hb hby at_13) rfl (l' := #[.val (.long p0), .second, .val (.long p1), .second, .val (.long p2), .second, .val (.int p3), .val (.int (((p0 >>> ((32 : Int32).toInt64 &&& 63)).toInt32) >>> ((2 : Int32) &&& 31))), .val (.int ((p0.toInt32) >>> ((2 : Int32) &&& 31))), .unset, .unset, .unset, .unset, .unset, .unset, .unset, .unset, .unset, .unset]) rfl k_) ?_
  refine Go.on (g' := (mkF m 16 _ [(.long p1)])) (fun t_ k_ => XT.lloadN X0.here hx rfl (hb hby at_15) rfl k_) ?_
  refine Go.on (g' := (mkF m 18 _ [(.int (32 : Int32)), (.long p1)])) (fun t_ k_ => XS.bipush X0.here hx rfl (hb hby at_16) k_) ?_
  refine Go.on (g' := (mkF m 19 _ [(.long (p1 >>> ((32 : Int32).toInt64 &&& 63)))])) (fun t_ k_ => XT.lshr X0.here hx rfl (hb hby at_18) rfl k_) ?_
  refine Go.on (g' := (mkF m 20 _ [(.int ((p1 >>> ((32 : Int32).toInt64 &&& 63)).toInt32))])) (fun t_ k_ => XT.l2i X0.here hx rfl (hb hby at_19) rfl k_) ?_
  refine Go.on (g' := (mkF m 21 _ [(.int (2 : Int32)), (.int ((p1 >>> ((32 : Int32).toInt64 &&& 63)).toInt32))])) (fun t_ k_ => XS.iconst X0.here hx rfl (hb hby at_20) k_) ?_
  refine Go.on (g' := (mkF m 22 _ [(.int (((p1 >>> ((32 : Int32).toInt64 &&& 63)).toInt32) >>> ((2 : Int32) &&& 31)))])) (fun t_ k_ => XT.ishr X0.here hx rfl (hb hby at_21) rfl k_) ?_
  refine Go.on (g' := (mkF m 24 #[.val (.long p0), .second, .val (.long p1), .second, .val (.long p2), .second, .val (.int p3), .val (.int (((p0 >>> ((32 : Int32).toInt64 &&& 63)).toInt32) >>> ((2 : Int32) &&& 31))), .val (.int ((p0.toInt32) >>> ((2 : Int32) &&& 31))), .val (.int (((p1 >>> ((32 : Int32).toInt64 &&& 63)).toInt32) >>> ((2 : Int32) &&& 31))), .unset, .unset, .unset, .unset, .unset, .unset, .unset, .unset, .unset] [])) (fun t_ k_ => XS.istore X0.here hx rfl (hb hby at_22) rfl (l' := #[.val (.long p0), .second, .val (.long p1), .second, .val (.long p2), .second, .val (.int p3), .val (.int (((p0 >>> ((32 : Int32).toInt64 &&& 63)).toInt32) >>> ((2 : Int32) &&& 31))), .val (.int ((p0.toInt32) >>> ((2 : Int32) &&& 31))), .val (.int (((p1 >>> ((32 : Int32).toInt64 &&& 63)).toInt32) >>> ((2 : Int32) &&& 31))), .unset, .unset, .unset, .unset, .unset, .unset, .unset, .unset, .unset]) rfl k_) ?_
  refine Go.on (g' := (mkF m 25 _ [(.long p1)])) (fun t_ k_ => XT.lloadN X0.here hx rfl (hb hby at_24) rfl k_) ?_
  refine Go.on (g' := (mkF m 26 _ [(.int (p1.toInt32))])) (fun t_ k_ => XT.l2i X0.here hx rfl (hb hby at_25) rfl k_) ?_
  refine Go.on (g' := (mkF m 27 _ [(.int (2 : Int32)), (.int (p1.toInt32))])) (fun t_ k_ => XS.iconst X0.here hx rfl (hb hby at_26) k_) ?_
  refine Go.on (g' := (mkF m 28 _ [(.int ((p1.toInt32) >>> ((2 : Int32) &&& 31)))])) (fun t_ k_ => XT.ishr X0.here hx rfl (hb hby at_27) rfl k_) ?_
  refine Go.on (g' := (mkF m 30 #[.val (.long p0), .second, .val (.long p1), .second, .val (.long p2), .second, .val (.int p3), .val (.int (((p0 >>> ((32 : Int32).toInt64 &&& 63)).toInt32) >>> ((2 : Int32) &&& 31))), .val (.int ((p0.toInt32) >>> ((2 : Int32) &&& 31))), .val (.int (((p1 >>> ((32 : Int32).toInt64 &&& 63)).toInt32) >>> ((2 : Int32) &&& 31))), .val (.int ((p1.toInt32) >>> ((2 : Int32) &&& 31))), .unset, .unset, .unset, .unset, .unset, .unset, .unset, .unset] [])) (fun t_ k_ => XS.istore X0.here hx rfl (hb hby at_28) rfl (l' := #[.val (.long p0), .second, .val (.long p1), .second, .val (.long p2), .second, .val (.int p3), .val (.int (((p0 >>> ((32 : Int32).toInt64 &&& 63)).toInt32) >>> ((2 : Int32) &&& 31))), .val (.int ((p0.toInt32) >>> ((2 : Int32) &&& 31))), .val (.int (((p1 >>> ((32 : Int32).toInt64 &&& 63)).toInt32) >>> ((2 : Int32) &&& 31))), .val (.int ((p1.toInt32) >>> ((2 : Int32) &&& 31))), .unset, .unset, .unset, .unset, .unset, .unset, .unset, .unset]) rfl k_) ?_
  refine Go.on (g' := (mkF m 32 _ [(.long p2)])) (fun t_ k_ => XT.lload X0.here hx rfl (hb hby at_30) rfl k_) ?_
  refine Go.on (g' := (mkF m 34 _ [(.int (32 : Int32)), (.long p2)])) (fun t_ k_ => XS.bipush X0.here hx rfl (hb hby at_32) k_) ?_
  refine Go.on (g' := (mkF m 35 _ [(.long (p2 >>> ((32 : Int32).toInt64 &&& 63)))])) (fun t_ k_ => XT.lshr X0.here hx rfl (hb hby at_34) rfl k_) ?_
  refine Go.on (g' := (mkF m 36 _ [(.int ((p2 >>> ((32 : Int32).toInt64 &&& 63)).toInt32))])) (fun t_ k_ => XT.l2i X0.here hx rfl (hb hby at_35) rfl k_) ?_
  refine Go.on (g' := (mkF m 37 _ [(.int (2 : Int32)), (.int ((p2 >>> ((32 : Int32).toInt64 &&& 63)).toInt32))])) (fun t_ k_ => XS.iconst X0.here hx rfl (hb hby at_36) k_) ?_
  refine Go.on (g' := (mkF m 38 _ [(.int (((p2 >>> ((32 : Int32).toInt64 &&& 63)).toInt32) >>> ((2 : Int32) &&& 31)))])) (fun t_ k_ => XT.ishr X0.here hx rfl (hb hby at_37) rfl k_) ?_
  refine Go.on (g' := (mkF m 40 #[.val (.long p0), .second, .val (.long p1), .second, .val (.long p2), .second, .val (.int p3), .val (.int (((p0 >>> ((32 : Int32).toInt64 &&& 63)).toInt32) >>> ((2 : Int32) &&& 31))), .val (.int ((p0.toInt32) >>> ((2 : Int32) &&& 31))), .val (.int (((p1 >>> ((32 : Int32).toInt64 &&& 63)).toInt32) >>> ((2 : Int32) &&& 31))), .val (.int ((p1.toInt32) >>> ((2 : Int32) &&& 31))), .val (.int (((p2 >>> ((32 : Int32).toInt64 &&& 63)).toInt32) >>> ((2 : Int32) &&& 31))), .unset, .unset, .unset, .unset, .unset, .unset, .unset] [])) (fun t_ k_ => XS.istore X0.here hx rfl (hb hby at_38) rfl (l' := #[.val (.long p0), .second, .val (.long p1), .second, .val (.long p2), .second, .val (.int p3), .val (.int (((p0 >>> ((32 : Int32).toInt64 &&& 63)).toInt32) >>> ((2 : Int32) &&& 31))), .val (.int ((p0.toInt32) >>> ((2 : Int32) &&& 31))), .val (.int (((p1 >>> ((32 : Int32).toInt64 &&& 63)).toInt32) >>> ((2 : Int32) &&& 31))), .val (.int ((p1.toInt32) >>> ((2 : Int32) &&& 31))), .val (.int (((p2 >>> ((32 : Int32).toInt64 &&& 63)).toInt32) >>> ((2 : Int32) &&& 31))), .unset, .unset, .unset, .unset, .unset, .unset, .unset]) rfl k_) ?_
  refine Go.on (g' := (mkF m 42 _ [(.long p2)])) (fun t_ k_ => XT.lload X0.here hx rfl (hb hby at_40) rfl k_) ?_
  refine Go.on (g' := (mkF m 43 _ [(.int (p2.toInt32))])) (fun t_ k_ => XT.l2i X0.here hx rfl (hb hby at_42) rfl k_) ?_
  refine Go.on (g' := (mkF m 44 _ [(.int (2 : Int32)), (.int (p2.toInt32))])) (fun t_ k_ => XS.iconst X0.here hx rfl (hb hby at_43) k_) ?_
  refine Go.on (g' := (mkF m 45 _ [(.int ((p2.toInt32) >>> ((2 : Int32) &&& 31)))])) (fun t_ k_ => XT.ishr X0.here hx rfl (hb hby at_44) rfl k_) ?_
  refine Go.on (g' := (mkF m 47 #[.val (.long p0), .second, .val (.long p1), .second, .val (.long p2), .second, .val (.int p3), .val (.int (((p0 >>> ((32 : Int32).toInt64 &&& 63)).toInt32) >>> ((2 : Int32) &&& 31))), .val (.int ((p0.toInt32) >>> ((2 : Int32) &&& 31))), .val (.int (((p1 >>> ((32 : Int32).toInt64 &&& 63)).toInt32) >>> ((2 : Int32) &&& 31))), .val (.int ((p1.toInt32) >>> ((2 : Int32) &&& 31))), .val (.int (((p2 >>> ((32 : Int32).toInt64 &&& 63)).toInt32) >>> ((2 : Int32) &&& 31))), .val (.int ((p2.toInt32) >>> ((2 : Int32) &&& 31))), .unset, .unset, .unset, .unset, .unset, .unset] [])) (fun t_ k_ => XS.istore X0.here hx rfl (hb hby at_45) rfl (l' := #[.val (.long p0), .second, .val (.long p1), .second, .val (.long p2), .second, .val (.int p3), .val (.int (((p0 >>> ((32 : Int32).toInt64 &&& 63)).toInt32) >>> ((2 : Int32) &&& 31))), .val (.int ((p0.toInt32) >>> ((2 : Int32) &&& 31))), .val (.int (((p1 >>> ((32 : Int32).toInt64 &&& 63)).toInt32) >>> ((2 : Int32) &&& 31))), .val (.int ((p1.toInt32) >>> ((2 : Int32) &&& 31))), .val (.int (((p2 >>> ((32 : Int32).toInt64 &&& 63)).toInt32) >>> ((2 : Int32) &&& 31))), .val (.int ((p2.toInt32) >>> ((2 : Int32) &&& 31))), .unset, .unset, .unset, .unset, .unset, .unset]) rfl k_) ?_
  obtain ⟨u0, hu0⟩ : ∃ z_ : Int32, z_ = (((p0 >>> ((32 : Int32).toInt64 &&& 63)).toInt32) >>> ((2 : Int32) &&& 31)) := ⟨_, rfl⟩
  rw [← hu0]
  have d0 : -536870912 ≤ u0.toInt ∧ u0.toInt < 536870912 := by rw [hu0]; exact own_bd _
  clear hu0
  obtain ⟨u1, hu1⟩ : ∃ z_ : Int32, z_ = ((p0.toInt32) >>> ((2 : Int32) &&& 31)) := ⟨_, rfl⟩
  rw [← hu1]
  have d1 : -536870912 ≤ u1.toInt ∧ u1.toInt < 536870912 := by rw [hu1]; exact own_bd _
  clear hu1
  obtain ⟨u2, hu2⟩ : ∃ z_ : Int32, z_ = (((p1 >>> ((32 : Int32).toInt64 &&& 63)).toInt32) >>> ((2 : Int32) &&& 31)) := ⟨_, rfl⟩
  rw [← hu2]
  have d2 : -536870912 ≤ u2.toInt ∧ u2.toInt < 536870912 := by rw [hu2]; exact own_bd _
  clear hu2
  obtain ⟨u3, hu3⟩ : ∃ z_ : Int32, z_ = ((p1.toInt32) >>> ((2 : Int32) &&& 31)) := ⟨_, rfl⟩
  rw [← hu3]
  have d3 : -536870912 ≤ u3.toInt ∧ u3.toInt < 536870912 := by rw [hu3]; exact own_bd _
  clear hu3
  obtain ⟨u4, hu4⟩ : ∃ z_ : Int32, z_ = (((p2 >>> ((32 : Int32).toInt64 &&& 63)).toInt32) >>> ((2 : Int32) &&& 31)) := ⟨_, rfl⟩
  rw [← hu4]
  have d4 : -536870912 ≤ u4.toInt ∧ u4.toInt < 536870912 := by rw [hu4]; exact own_bd _
  clear hu4
  obtain ⟨u5, hu5⟩ : ∃ z_ : Int32, z_ = ((p2.toInt32) >>> ((2 : Int32) &&& 31)) := ⟨_, rfl⟩
  rw [← hu5]
  have d5 : -536870912 ≤ u5.toInt ∧ u5.toInt < 536870912 := by rw [hu5]; exact own_bd _
  clear hu5
  refine Go.on (g' := (mkF m 49 _ [(.int p3)])) (fun t_ k_ => XS.iload X0.here hx rfl (hb hby at_47) rfl k_) ?_
  refine Go.on (g' := (mkF m 50 _ [(.int (3 : Int32)), (.int p3)])) (fun t_ k_ => XS.iconst X0.here hx rfl (hb hby at_49) k_) ?_
  refine Go.on (g' := (mkF m 51 _ [(.int (p3 &&& (3 : Int32)))])) (fun t_ k_ => XS.iand X0.here hx rfl (hb hby at_50) rfl k_) ?_
  refine Go.on (g' := (mkF m 53 #[.val (.long p0), .second, .val (.long p1), .second, .val (.long p2), .second, .val (.int p3), .val (.int u0), .val (.int u1), .val (.int u2), .val (.int u3), .val (.int u4), .val (.int u5), .val (.int (p3 &&& (3 : Int32))), .unset, .unset, .unset, .unset, .unset] [])) (fun t_ k_ => XS.istore X0.here hx rfl (hb hby at_51) rfl (l' := #[.val (.long p0), .second, .val (.long p1), .second, .val (.long p2), .second, .val (.int p3), .val (.int u0), .val (.int u1), .val (.int u2), .val (.int u3), .val (.int u4), .val (.int u5), .val (.int (p3 &&& (3 : Int32))), .unset, .unset, .unset, .unset, .unset]) rfl k_) ?_
  obtain ⟨kk, hkk⟩ : ∃ z_ : Int32, z_ = (p3 &&& (3 : Int32)) := ⟨_, rfl⟩
  rw [← hkk]
  have hr := own_rng p3
  rw [← hkk] at hr
  clear hkk
  rcases own_cases kk hr with rfl | rfl | rfl | rfl
  · show Go p e below _ _ (mkF m 53 #[.val (.long p0), .second, .val (.long p1), .second, .val (.long p2), .second, .val (.int p3), .val (.int u0), .val (.int u1), .val (.int u2), .val (.int u3), .val (.int u4), .val (.int u5), .val (.int (0 : Int32)), .unset, .unset, .unset, .unset, .unset] [])
    refine Go.on (g' := (mkF m 55 _ [(.int (0 : Int32))])) (fun t_ k_ => XS.iload X0.here hx rfl (hb hby at_53) rfl k_) ?_
    refine Go.ifc X0 hx hby at_55 (pcT := 120) (pcF := 58) (by decide) (by decide) rfl (fun q => absurd q (by decide)) (fun q => ?_)
    clear q
    show Go p e below _ _ (mkF m 58 _ [])
    refine Go.on (g' := (mkF m 59 _ [(.int (2 : Int32))])) (fun t_ k_ => XS.iconst X0.here hx rfl (hb hby at_58) k_) ?_
    refine Go.on (g' := (mkF m 61 #[.val (.long p0), .second, .val (.long p1), .second, .val (.long p2), .second, .val (.int p3), .val (.int u0), .val (.int u1), .val (.int u2), .val (.int u3), .val (.int u4), .val (.int u5), .val (.int (0 : Int32)), .unset, .val (.int (2 : Int32)), .unset, .unset, .unset] [])) (fun t_ k_ => XS.istore X0.here hx rfl (hb hby at_59) rfl (l' := #[.val (.long p0), .second, .val (.long p1), .second, .val (.long p2), .second, .val (.int p3), .val (.int u0), .val (.int u1), .val (.int u2), .val (.int u3), .val (.int u4), .val (.int u5), .val (.int (0 : Int32)), .unset, .val (.int (2 : Int32)), .unset, .unset, .unset]) rfl k_) ?_
    refine Go.on (g' := (mkF m 62 _ [(.int (3 : Int32))])) (fun t_ k_ => XS.iconst X0.here hx rfl (hb hby at_61) k_) ?_
    refine Go.on (g' := (mkF m 64 #[.val (.long p0), .second, .val (.long p1), .second, .val (.long p2), .second, .val (.int p3), .val (.int u0), .val (.int u1), .val (.int u2), .val (.int u3), .val (.int u4), .val (.int u5), .val (.int (0 : Int32)), .unset, .val (.int (2 : Int32)), .val (.int (3 : Int32)), .unset, .unset] [])) (fun t_ k_ => XS.istore X0.here hx rfl (hb hby at_62) rfl (l' := #[.val (.long p0), .second, .val (.long p1), .second, .val (.long p2), .second, .val (.int p3), .val (.int u0), .val (.int u1), .val (.int u2), .val (.int u3), .val (.int u4), .val (.int u5), .val (.int (0 : Int32)), .unset, .val (.int (2 : Int32)), .val (.int (3 : Int32)), .unset, .unset]) rfl k_) ?_
    refine Go.on (g' := (mkF m 66 _ [(.int (6 : Int32))])) (fun t_ k_ => XS.bipush X0.here hx rfl (hb hby at_64) k_) ?_
    obtain ⟨T1, h1, cA1, X1, e1, E1, A1, st1⟩ := newP X0 hx hZ (hw _ (List.mem_of_getElem? (i := 0) rfl)) e0 (g := (mkF m 66 #[.val (.long p0), .second, .val (.long p1), .second, .val (.long p2), .second, .val (.int p3), .val (.int u0), .val (.int u1), .val (.int u2), .val (.int u3), .val (.int u4), .val (.int u5), .val (.int (0 : Int32)), .unset, .val (.int (2 : Int32)), .val (.int (3 : Int32)), .unset, .unset] [(.int (6 : Int32))])) rfl (hb hby at_66) (n := (6 : Int32)) rfl (by decide) (cap := 6) (by decide) (by decide) (by decide) (by decide)
    obtain ⟨o1, go1⟩ : ∃ z, z = (h0).size := ⟨_, rfl⟩
    rw [← go1] at A1 st1
    have no1 : n0 ≤ o1 := Nat.le_trans Z0 (Nat.le_of_eq go1.symm)
    have Z1 : n0 ≤ h1.size := Nat.le_trans Z0 E1.1
    have EX_1 := extTrans EX0 E1
    have mo1 : h0.size ≤ o1 := Nat.le_trans EX0.1 (Nat.le_of_eq go1.symm)
    refine Go.on (g' := (mkF m 68 _ [(.ref o1)])) (st1) ?_
    refine Go.on (g' := (mkF m 69 _ [(.ref o1), (.ref o1)])) (fun t_ k_ => XS.dup X1.here hx rfl (hb hby at_68) rfl rfl k_) ?_
    refine Go.on (g' := (mkF m 70 _ [(.int (0 : Int32)), (.ref o1), (.ref o1)])) (fun t_ k_ => XS.iconst X1.here hx rfl (hb hby at_69) k_) ?_
    refine Go.on (g' := (mkF m 72 _ [(.int u0), (.int (0 : Int32)), (.ref o1), (.ref o1)])) (fun t_ k_ => XS.iload X1.here hx rfl (hb hby at_70) rfl k_) ?_
    obtain ⟨T2, h2, X2, e2, W2, st2⟩ := stI X1 hx hZ e1 A1 (j := (0 : Int32)) (by simp only [sz_set, sz_new]; decide) (g := (mkF m 72 #[.val (.long p0), .second, .val (.long p1), .second, .val (.long p2), .second, .val (.int p3), .val (.int u0), .val (.int u1), .val (.int u2), .val (.int u3), .val (.int u4), .val (.int u5), .val (.int (0 : Int32)), .unset, .val (.int (2 : Int32)), .val (.int (3 : Int32)), .unset, .unset] [(.int u0), (.int (0 : Int32)), (.ref o1), (.ref o1)])) rfl rfl (hb hby at_72)
    have N2 := Fr.snoc X2 N0 no1
    have Z2 : n0 ≤ h2.size := by rw [W2.size]; exact Z1
    have EX_2 := extWr EX_1 W2 mo1
    have A2 := A1.same W2
    refine Go.on (g' := (mkF m 73 _ [(.ref o1)])) (st2) ?_
    refine Go.on (g' := (mkF m 74 _ [(.ref o1), (.ref o1)])) (fun t_ k_ => XS.dup X2.here hx rfl (hb hby at_73) rfl rfl k_) ?_
    refine Go.on (g' := (mkF m 75 _ [(.int (1 : Int32)), (.ref o1), (.ref o1)])) (fun t_ k_ => XS.iconst X2.here hx rfl (hb hby at_74) k_) ?_
    refine Go.on (g' := (mkF m 77 _ [(.int u1), (.int (1 : Int32)), (.ref o1), (.ref o1)])) (fun t_ k_ => XS.iload X2.here hx rfl (hb hby at_75) rfl k_) ?_
    obtain ⟨T3, h3, X3, e3, W3, st3⟩ := stI X2 hx hZ e2 A2 (j := (1 : Int32)) (by simp only [sz_set, sz_new]; decide) (g := (mkF m 77 #[.val (.long p0), .second, .val (.long p1), .second, .val (.long p2), .second, .val (.int p3), .val (.int u0), .val (.int u1), .val (.int u2), .val (.int u3), .val (.int u4), .val (.int u5), .val (.int (0 : Int32)), .unset, .val (.int (2 : Int32)), .val (.int (3 : Int32)), .unset, .unset] [(.int u1), (.int (1 : Int32)), (.ref o1), (.ref o1)])) rfl rfl (hb hby at_77)
    have N3 := Fr.snoc X3 N2 no1
    have Z3 : n0 ≤ h3.size := by rw [W3.size]; exact Z2
    have EX_3 := extWr EX_2 W3 mo1
    have A3 := A2.same W3
    refine Go.on (g' := (mkF m 78 _ [(.ref o1)])) (st3) ?_
    refine Go.on (g' := (mkF m 79 _ [(.ref o1), (.ref o1)])) (fun t_ k_ => XS.dup X3.here hx rfl (hb hby at_78) rfl rfl k_) ?_
    refine Go.on (g' := (mkF m 80 _ [(.int (2 : Int32)), (.ref o1), (.ref o1)])) (fun t_ k_ => XS.iconst X3.here hx rfl (hb hby at_79) k_) ?_
    refine Go.on (g' := (mkF m 82 _ [(.int u2), (.int (2 : Int32)), (.ref o1), (.ref o1)])) (fun t_ k_ => XS.iload X3.here hx rfl (hb hby at_80) rfl k_) ?_
    obtain ⟨T4, h4, X4, e4, W4, st4⟩ := stI X3 hx hZ e3 A3 (j := (2 : Int32)) (by simp only [sz_set, sz_new]; decide) (g := (mkF m 82 #[.val (.long p0), .second, .val (.long p1), .second, .val (.long p2), .second, .val (.int p3), .val (.int u0), .val (.int u1), .val (.int u2), .val (.int u3), .val (.int u4), .val (.int u5), .val (.int (0 : Int32)), .unset, .val (.int (2 : Int32)), .val (.int (3 : Int32)), .unset, .unset] [(.int u2), (.int (2 : Int32)), (.ref o1), (.ref o1)])) rfl rfl (hb hby at_82)
    have N4 := Fr.snoc X4 N3 no1
    have Z4 : n0 ≤ h4.size := by rw [W4.size]; exact Z3
    have EX_4 := extWr EX_3 W4 mo1
    have A4 := A3.same W4
    refine Go.on (g' := (mkF m 83 _ [(.ref o1)])) (st4) ?_
    refine Go.on (g' := (mkF m 84 _ [(.ref o1), (.ref o1)])) (fun t_ k_ => XS.dup X4.here hx rfl (hb hby at_83) rfl rfl k_) ?_
    refine Go.on (g' := (mkF m 85 _ [(.int (3 : Int32)), (.ref o1), (.ref o1)])) (fun t_ k_ => XS.iconst X4.here hx rfl (hb hby at_84) k_) ?_
    refine Go.on (g' := (mkF m 87 _ [(.int u3), (.int (3 : Int32)), (.ref o1), (.ref o1)])) (fun t_ k_ => XS.iload X4.here hx rfl (hb hby at_85) rfl k_) ?_
    obtain ⟨T5, h5, X5, e5, W5, st5⟩ := stI X4 hx hZ e4 A4 (j := (3 : Int32)) (by simp only [sz_set, sz_new]; decide) (g := (mkF m 87 #[.val (.long p0), .second, .val (.long p1), .second, .val (.long p2), .second, .val (.int p3), .val (.int u0), .val (.int u1), .val (.int u2), .val (.int u3), .val (.int u4), .val (.int u5), .val (.int (0 : Int32)), .unset, .val (.int (2 : Int32)), .val (.int (3 : Int32)), .unset, .unset] [(.int u3), (.int (3 : Int32)), (.ref o1), (.ref o1)])) rfl rfl (hb hby at_87)
    have N5 := Fr.snoc X5 N4 no1
    have Z5 : n0 ≤ h5.size := by rw [W5.size]; exact Z4
    have EX_5 := extWr EX_4 W5 mo1
    have A5 := A4.same W5
    refine Go.on (g' := (mkF m 88 _ [(.ref o1)])) (st5) ?_
    refine Go.on (g' := (mkF m 89 _ [(.ref o1), (.ref o1)])) (fun t_ k_ => XS.dup X5.here hx rfl (hb hby at_88) rfl rfl k_) ?_
    refine Go.on (g' := (mkF m 90 _ [(.int (4 : Int32)), (.ref o1), (.ref o1)])) (fun t_ k_ => XS.iconst X5.here hx rfl (hb hby at_89) k_) ?_
    refine Go.on (g' := (mkF m 92 _ [(.int u4), (.int (4 : Int32)), (.ref o1), (.ref o1)])) (fun t_ k_ => XS.iload X5.here hx rfl (hb hby at_90) rfl k_) ?_
    obtain ⟨T6, h6, X6, e6, W6, st6⟩ := stI X5 hx hZ e5 A5 (j := (4 : Int32)) (by simp only [sz_set, sz_new]; decide) (g := (mkF m 92 #[.val (.long p0), .second, .val (.long p1), .second, .val (.long p2), .second, .val (.int p3), .val (.int u0), .val (.int u1), .val (.int u2), .val (.int u3), .val (.int u4), .val (.int u5), .val (.int (0 : Int32)), .unset, .val (.int (2 : Int32)), .val (.int (3 : Int32)), .unset, .unset] [(.int u4), (.int (4 : Int32)), (.ref o1), (.ref o1)])) rfl rfl (hb hby at_92)
    have N6 := Fr.snoc X6 N5 no1
    have Z6 : n0 ≤ h6.size := by rw [W6.size]; exact Z5
    have EX_6 := extWr EX_5 W6 mo1
    have A6 := A5.same W6
    refine Go.on (g' := (mkF m 93 _ [(.ref o1)])) (st6) ?_
    refine Go.on (g' := (mkF m 94 _ [(.ref o1), (.ref o1)])) (fun t_ k_ => XS.dup X6.here hx rfl (hb hby at_93) rfl rfl k_) ?_
    refine Go.on (g' := (mkF m 95 _ [(.int (5 : Int32)), (.ref o1), (.ref o1)])) (fun t_ k_ => XS.iconst X6.here hx rfl (hb hby at_94) k_) ?_
    refine Go.on (g' := (mkF m 97 _ [(.int u5), (.int (5 : Int32)), (.ref o1), (.ref o1)])) (fun t_ k_ => XS.iload X6.here hx rfl (hb hby at_95) rfl k_) ?_
    obtain ⟨T7, h7, X7, e7, W7, st7⟩ := stI X6 hx hZ e6 A6 (j := (5 : Int32)) (by simp only [sz_set, sz_new]; decide) (g := (mkF m 97 #[.val (.long p0), .second, .val (.long p1), .second, .val (.long p2), .second, .val (.int p3), .val (.int u0), .val (.int u1), .val (.int u2), .val (.int u3), .val (.int u4), .val (.int u5), .val (.int (0 : Int32)), .unset, .val (.int (2 : Int32)), .val (.int (3 : Int32)), .unset, .unset] [(.int u5), (.int (5 : Int32)), (.ref o1), (.ref o1)])) rfl rfl (hb hby at_97)
    have N7 := Fr.snoc X7 N6 no1
    have Z7 : n0 ≤ h7.size := by rw [W7.size]; exact Z6
    have EX_7 := extWr EX_6 W7 mo1
    have A7 := A6.same W7
    refine Go.on (g' := (mkF m 98 _ [(.ref o1)])) (st7) ?_
    refine Go.on (g' := (mkF m 100 #[.val (.long p0), .second, .val (.long p1), .second, .val (.long p2), .second, .val (.int p3), .val (.int u0), .val (.int u1), .val (.int u2), .val (.int u3), .val (.int u4), .val (.int u5), .val (.int (0 : Int32)), .val (.ref o1), .val (.int (2 : Int32)), .val (.int (3 : Int32)), .unset, .unset] [])) (fun t_ k_ => XS.astore X7.here hx rfl (hb hby at_98) rfl rfl (l' := #[.val (.long p0), .second, .val (.long p1), .second, .val (.long p2), .second, .val (.int p3), .val (.int u0), .val (.int u1), .val (.int u2), .val (.int u3), .val (.int u4), .val (.int u5), .val (.int (0 : Int32)), .val (.ref o1), .val (.int (2 : Int32)), .val (.int (3 : Int32)), .unset, .unset]) rfl k_) ?_
    refine Go.on (g' := (mkF m 102 _ [(.int u0)])) (fun t_ k_ => XS.iload X7.here hx rfl (hb hby at_100) rfl k_) ?_
    refine Go.on (g' := (mkF m 104 _ [(.int u1), (.int u0)])) (fun t_ k_ => XS.iload X7.here hx rfl (hb hby at_102) rfl k_) ?_
    refine Go.on (g' := (mkF m 106 _ [(.int u2), (.int u1), (.int u0)])) (fun t_ k_ => XS.iload X7.here hx rfl (hb hby at_104) rfl k_) ?_
    refine Go.on (g' := (mkF m 108 _ [(.int u3), (.int u2), (.int u1), (.int u0)])) (fun t_ k_ => XS.iload X7.here hx rfl (hb hby at_106) rfl k_) ?_
    refine Go.on (g' := (mkF m 110 _ [(.int u4), (.int u3), (.int u2), (.int u1), (.int u0)])) (fun t_ k_ => XS.iload X7.here hx rfl (hb hby at_108) rfl k_) ?_
    refine Go.on (g' := (mkF m 112 _ [(.int u5), (.int u4), (.int u3), (.int u2), (.int u1), (.int u0)])) (fun t_ k_ => XS.iload X7.here hx rfl (hb hby at_110) rfl k_) ?_
    refine Go.callS X7 hx hZ hby (by rw [hml]; rfl) (y := (⟨"com/example/same_shape/sameshape/service/OrderedPairingPairPinLaw", "full", "(IIIIII)[I"⟩ : MethodName)) hown (hw _ (List.mem_of_getElem? (i := 27) rfl)) (hw _ (List.mem_of_getElem? (i := 28) rfl)) (hw _ (List.mem_of_getElem? (i := 3) rfl)) (hw _ (List.mem_of_getElem? (i := 29) rfl)) (by decide) (argsL := [(.int u0), (.int u1), (.int u2), (.int u3), (.int u4), (.int u5)]) (rest := []) (rmFu l Z w0 hw [] u0 u1 u2 u3 u4 u5 h7 n0 Z7) e7 0 (by decide) (by decide) (by decide) (by decide) rfl pdFu rfl (Nat.le_of_eq rfl) at_112 (pcF := 115) rfl ?_
    intro v8 T8 L8 X8 hQ8
    obtain ⟨ta, tc, rfl, M8, EY8, tm, tA, tz, tg0, tg1⟩ := hQ8
    have N8 := Fr.app N7 M8
    have Z8 : n0 ≤ T8.heap.size := Nat.le_trans Z7 EY8.1
    have EX8 := extTrans EX_7 EY8
    have e8 : T8.heap = T8.heap := rfl
    have arr_o1_8 := A7.ext EY8
    show Go p e below _ _ (mkF m 115 _ [(.ref ta)])
    refine Go.on (g' := (mkF m 117 #[.val (.long p0), .second, .val (.long p1), .second, .val (.long p2), .second, .val (.int p3), .val (.int u0), .val (.int u1), .val (.int u2), .val (.int u3), .val (.int u4), .val (.int u5), .val (.int (0 : Int32)), .val (.ref o1), .val (.int (2 : Int32)), .val (.int (3 : Int32)), .val (.ref ta), .unset] [])) (fun t_ k_ => XS.astore X8.here hx rfl (hb hby at_115) rfl rfl (l' := #[.val (.long p0), .second, .val (.long p1), .second, .val (.long p2), .second, .val (.int p3), .val (.int u0), .val (.int u1), .val (.int u2), .val (.int u3), .val (.int u4), .val (.int u5), .val (.int (0 : Int32)), .val (.ref o1), .val (.int (2 : Int32)), .val (.int (3 : Int32)), .val (.ref ta), .unset]) rfl k_) ?_
    refine Go.on (g' := (mkF m 236 _ [])) (fun t_ k_ => XS.goto X8.here hx rfl (pc0 := 117) (pc' := 236) rfl (hb hby at_117) (by decide) (by decide) k_) ?_
    refine Go.on (g' := (mkF m 238 _ [(.ref o1)])) (fun t_ k_ => XS.aload X8.here hx rfl (hb hby at_236) rfl rfl k_) ?_
    refine Go.on (g' := (mkF m 240 _ [(.int (2 : Int32)), (.ref o1)])) (fun t_ k_ => XS.iload X8.here hx rfl (hb hby at_238) rfl k_) ?_
    refine Go.on (g' := (mkF m 242 _ [(.int (3 : Int32)), (.int (2 : Int32)), (.ref o1)])) (fun t_ k_ => XS.iload X8.here hx rfl (hb hby at_240) rfl k_) ?_
    refine Go.callS X8 hx hZ hby (by rw [hml]; rfl) (y := (⟨"com/example/same_shape/sameshape/service/OrderedPairing", "pair", "([III)[I"⟩ : MethodName)) hown (hw _ (List.mem_of_getElem? (i := 15) rfl)) (hw _ (List.mem_of_getElem? (i := 16) rfl)) (hw _ (List.mem_of_getElem? (i := 17) rfl)) (hw _ (List.mem_of_getElem? (i := 18) rfl)) (by decide) (argsL := [(.ref o1), (.int (2 : Int32)), (.int (3 : Int32))]) (rest := []) (rmPr23 l Z w0 hw [] o1 T8.heap n0 Z8 _ arr_o1_8 u0 u1 u2 u3 u4 u5 ⟨by simp only [sz_set, sz_new]; decide, rfl, rfl, rfl, rfl, rfl, rfl⟩) e8 0 (by decide) (by decide) (by decide) (by decide) rfl pdPr rfl (Nat.le_of_eq rfl) at_242 (pcF := 245) rfl ?_
    intro v9 T9 L9 X9 hQ9
    obtain ⟨pa, pc, rfl, M9, EY9, pm, pA, pz, pg0, pg1⟩ := hQ9
    have N9 := Fr.app N8 M9
    have Z9 : n0 ≤ T9.heap.size := Nat.le_trans Z8 EY9.1
    have EX9 := extTrans EX8 EY9
    have e9 : T9.heap = T9.heap := rfl
    have arr_o1_9 := arr_o1_8.ext EY9
    have arr_ta_9 := tA.ext EY9
    show Go p e below _ _ (mkF m 245 _ [(.ref pa)])
    refine Go.on (g' := (mkF m 247 #[.val (.long p0), .second, .val (.long p1), .second, .val (.long p2), .second, .val (.int p3), .val (.int u0), .val (.int u1), .val (.int u2), .val (.int u3), .val (.int u4), .val (.int u5), .val (.int (0 : Int32)), .val (.ref o1), .val (.int (2 : Int32)), .val (.int (3 : Int32)), .val (.ref ta), .val (.ref pa)] [])) (fun t_ k_ => XS.astore X9.here hx rfl (hb hby at_245) rfl rfl (l' := #[.val (.long p0), .second, .val (.long p1), .second, .val (.long p2), .second, .val (.int p3), .val (.int u0), .val (.int u1), .val (.int u2), .val (.int u3), .val (.int u4), .val (.int u5), .val (.int (0 : Int32)), .val (.ref o1), .val (.int (2 : Int32)), .val (.int (3 : Int32)), .val (.ref ta), .val (.ref pa)]) rfl k_) ?_
    refine Go.on (g' := (mkF m 249 _ [(.ref pa)])) (fun t_ k_ => XS.aload X9.here hx rfl (hb hby at_247) rfl rfl k_) ?_
    refine Go.on (g' := (mkF m 251 _ [(.ref ta), (.ref pa)])) (fun t_ k_ => XS.aload X9.here hx rfl (hb hby at_249) rfl rfl k_) ?_
    refine Go.callS X9 hx hZ hby (by rw [hml]; rfl) (y := (⟨"com/example/same_shape/sameshape/service/OrderedPairingPairPinLaw", "same", "([I[I)Z"⟩ : MethodName)) hown (hw _ (List.mem_of_getElem? (i := 24) rfl)) (hw _ (List.mem_of_getElem? (i := 25) rfl)) (hw _ (List.mem_of_getElem? (i := 3) rfl)) (hw _ (List.mem_of_getElem? (i := 26) rfl)) (by decide) (argsL := [(.ref pa), (.ref ta)]) (rest := []) (rmSm2 l Z w0 hw [] pa ta _ _ T9.heap _ pA pz pg0 pg1 _ arr_ta_9 tz (by rw [own_law23 u0 u1 u2 u3 u4 u5 d0 d1 d2 d3 d4 d5]; exact tg0) (by rw [own_law23 u0 u1 u2 u3 u4 u5 d0 d1 d2 d3 d4 d5]; exact tg1)) e9 0 (by decide) (by decide) (by decide) (by decide) rfl pdSm rfl (Nat.le_of_eq rfl) at_251 (pcF := 254) rfl ?_
    intro v10 T10 L10 X10 hQ10
    obtain ⟨rfl, rfl, e10⟩ := hQ10
    rw [List.append_nil] at X10
    show Go p e below _ _ (mkF m 254 _ [(.int (1 : Int32))])
    exact Go.retI X10 hx hlk hret hby at_254 rfl (by simp) (by decide) (by decide) ⟨rfl, N9⟩
  · show Go p e below _ _ (mkF m 53 #[.val (.long p0), .second, .val (.long p1), .second, .val (.long p2), .second, .val (.int p3), .val (.int u0), .val (.int u1), .val (.int u2), .val (.int u3), .val (.int u4), .val (.int u5), .val (.int (1 : Int32)), .unset, .unset, .unset, .unset, .unset] [])
    refine Go.on (g' := (mkF m 55 _ [(.int (1 : Int32))])) (fun t_ k_ => XS.iload X0.here hx rfl (hb hby at_53) rfl k_) ?_
    refine Go.ifc X0 hx hby at_55 (pcT := 120) (pcF := 58) (by decide) (by decide) rfl (fun q => ?_) (fun q => absurd q (by decide))
    clear q
    show Go p e below _ _ (mkF m 120 _ [])
    refine Go.on (g' := (mkF m 122 _ [(.int (1 : Int32))])) (fun t_ k_ => XS.iload X0.here hx rfl (hb hby at_120) rfl k_) ?_
    refine Go.on (g' := (mkF m 123 _ [(.int (1 : Int32)), (.int (1 : Int32))])) (fun t_ k_ => XS.iconst X0.here hx rfl (hb hby at_122) k_) ?_
    refine Go.icmp X0 hx hby at_123 (pcT := 173) (pcF := 126) (by decide) (by decide) rfl (fun q => absurd q (by decide)) (fun q => ?_)
    clear q
    show Go p e below _ _ (mkF m 126 _ [])
    refine Go.on (g' := (mkF m 127 _ [(.int (1 : Int32))])) (fun t_ k_ => XS.iconst X0.here hx rfl (hb hby at_126) k_) ?_
    refine Go.on (g' := (mkF m 129 #[.val (.long p0), .second, .val (.long p1), .second, .val (.long p2), .second, .val (.int p3), .val (.int u0), .val (.int u1), .val (.int u2), .val (.int u3), .val (.int u4), .val (.int u5), .val (.int (1 : Int32)), .unset, .val (.int (1 : Int32)), .unset, .unset, .unset] [])) (fun t_ k_ => XS.istore X0.here hx rfl (hb hby at_127) rfl (l' := #[.val (.long p0), .second, .val (.long p1), .second, .val (.long p2), .second, .val (.int p3), .val (.int u0), .val (.int u1), .val (.int u2), .val (.int u3), .val (.int u4), .val (.int u5), .val (.int (1 : Int32)), .unset, .val (.int (1 : Int32)), .unset, .unset, .unset]) rfl k_) ?_
    refine Go.on (g' := (mkF m 130 _ [(.int (3 : Int32))])) (fun t_ k_ => XS.iconst X0.here hx rfl (hb hby at_129) k_) ?_
    refine Go.on (g' := (mkF m 132 #[.val (.long p0), .second, .val (.long p1), .second, .val (.long p2), .second, .val (.int p3), .val (.int u0), .val (.int u1), .val (.int u2), .val (.int u3), .val (.int u4), .val (.int u5), .val (.int (1 : Int32)), .unset, .val (.int (1 : Int32)), .val (.int (3 : Int32)), .unset, .unset] [])) (fun t_ k_ => XS.istore X0.here hx rfl (hb hby at_130) rfl (l' := #[.val (.long p0), .second, .val (.long p1), .second, .val (.long p2), .second, .val (.int p3), .val (.int u0), .val (.int u1), .val (.int u2), .val (.int u3), .val (.int u4), .val (.int u5), .val (.int (1 : Int32)), .unset, .val (.int (1 : Int32)), .val (.int (3 : Int32)), .unset, .unset]) rfl k_) ?_
    refine Go.on (g' := (mkF m 133 _ [(.int (3 : Int32))])) (fun t_ k_ => XS.iconst X0.here hx rfl (hb hby at_132) k_) ?_
    obtain ⟨T11, h11, cA11, X11, e11, E11, A11, st11⟩ := newP X0 hx hZ (hw _ (List.mem_of_getElem? (i := 0) rfl)) e0 (g := (mkF m 133 #[.val (.long p0), .second, .val (.long p1), .second, .val (.long p2), .second, .val (.int p3), .val (.int u0), .val (.int u1), .val (.int u2), .val (.int u3), .val (.int u4), .val (.int u5), .val (.int (1 : Int32)), .unset, .val (.int (1 : Int32)), .val (.int (3 : Int32)), .unset, .unset] [(.int (3 : Int32))])) rfl (hb hby at_133) (n := (3 : Int32)) rfl (by decide) (cap := 3) (by decide) (by decide) (by decide) (by decide)
    obtain ⟨o11, go11⟩ : ∃ z, z = (h0).size := ⟨_, rfl⟩
    rw [← go11] at A11 st11
    have no11 : n0 ≤ o11 := Nat.le_trans Z0 (Nat.le_of_eq go11.symm)
    have Z11 : n0 ≤ h11.size := Nat.le_trans Z0 E11.1
    have EX_11 := extTrans EX0 E11
    have mo11 : h0.size ≤ o11 := Nat.le_trans EX0.1 (Nat.le_of_eq go11.symm)
    refine Go.on (g' := (mkF m 135 _ [(.ref o11)])) (st11) ?_
    refine Go.on (g' := (mkF m 136 _ [(.ref o11), (.ref o11)])) (fun t_ k_ => XS.dup X11.here hx rfl (hb hby at_135) rfl rfl k_) ?_
    refine Go.on (g' := (mkF m 137 _ [(.int (0 : Int32)), (.ref o11), (.ref o11)])) (fun t_ k_ => XS.iconst X11.here hx rfl (hb hby at_136) k_) ?_
    refine Go.on (g' := (mkF m 139 _ [(.int u0), (.int (0 : Int32)), (.ref o11), (.ref o11)])) (fun t_ k_ => XS.iload X11.here hx rfl (hb hby at_137) rfl k_) ?_
    obtain ⟨T12, h12, X12, e12, W12, st12⟩ := stI X11 hx hZ e11 A11 (j := (0 : Int32)) (by simp only [sz_set, sz_new]; decide) (g := (mkF m 139 #[.val (.long p0), .second, .val (.long p1), .second, .val (.long p2), .second, .val (.int p3), .val (.int u0), .val (.int u1), .val (.int u2), .val (.int u3), .val (.int u4), .val (.int u5), .val (.int (1 : Int32)), .unset, .val (.int (1 : Int32)), .val (.int (3 : Int32)), .unset, .unset] [(.int u0), (.int (0 : Int32)), (.ref o11), (.ref o11)])) rfl rfl (hb hby at_139)
    have N12 := Fr.snoc X12 N0 no11
    have Z12 : n0 ≤ h12.size := by rw [W12.size]; exact Z11
    have EX_12 := extWr EX_11 W12 mo11
    have A12 := A11.same W12
    refine Go.on (g' := (mkF m 140 _ [(.ref o11)])) (st12) ?_
    refine Go.on (g' := (mkF m 141 _ [(.ref o11), (.ref o11)])) (fun t_ k_ => XS.dup X12.here hx rfl (hb hby at_140) rfl rfl k_) ?_
    refine Go.on (g' := (mkF m 142 _ [(.int (1 : Int32)), (.ref o11), (.ref o11)])) (fun t_ k_ => XS.iconst X12.here hx rfl (hb hby at_141) k_) ?_
    refine Go.on (g' := (mkF m 144 _ [(.int u1), (.int (1 : Int32)), (.ref o11), (.ref o11)])) (fun t_ k_ => XS.iload X12.here hx rfl (hb hby at_142) rfl k_) ?_
    obtain ⟨T13, h13, X13, e13, W13, st13⟩ := stI X12 hx hZ e12 A12 (j := (1 : Int32)) (by simp only [sz_set, sz_new]; decide) (g := (mkF m 144 #[.val (.long p0), .second, .val (.long p1), .second, .val (.long p2), .second, .val (.int p3), .val (.int u0), .val (.int u1), .val (.int u2), .val (.int u3), .val (.int u4), .val (.int u5), .val (.int (1 : Int32)), .unset, .val (.int (1 : Int32)), .val (.int (3 : Int32)), .unset, .unset] [(.int u1), (.int (1 : Int32)), (.ref o11), (.ref o11)])) rfl rfl (hb hby at_144)
    have N13 := Fr.snoc X13 N12 no11
    have Z13 : n0 ≤ h13.size := by rw [W13.size]; exact Z12
    have EX_13 := extWr EX_12 W13 mo11
    have A13 := A12.same W13
    refine Go.on (g' := (mkF m 145 _ [(.ref o11)])) (st13) ?_
    refine Go.on (g' := (mkF m 146 _ [(.ref o11), (.ref o11)])) (fun t_ k_ => XS.dup X13.here hx rfl (hb hby at_145) rfl rfl k_) ?_
    refine Go.on (g' := (mkF m 147 _ [(.int (2 : Int32)), (.ref o11), (.ref o11)])) (fun t_ k_ => XS.iconst X13.here hx rfl (hb hby at_146) k_) ?_
    refine Go.on (g' := (mkF m 149 _ [(.int u2), (.int (2 : Int32)), (.ref o11), (.ref o11)])) (fun t_ k_ => XS.iload X13.here hx rfl (hb hby at_147) rfl k_) ?_
    obtain ⟨T14, h14, X14, e14, W14, st14⟩ := stI X13 hx hZ e13 A13 (j := (2 : Int32)) (by simp only [sz_set, sz_new]; decide) (g := (mkF m 149 #[.val (.long p0), .second, .val (.long p1), .second, .val (.long p2), .second, .val (.int p3), .val (.int u0), .val (.int u1), .val (.int u2), .val (.int u3), .val (.int u4), .val (.int u5), .val (.int (1 : Int32)), .unset, .val (.int (1 : Int32)), .val (.int (3 : Int32)), .unset, .unset] [(.int u2), (.int (2 : Int32)), (.ref o11), (.ref o11)])) rfl rfl (hb hby at_149)
    have N14 := Fr.snoc X14 N13 no11
    have Z14 : n0 ≤ h14.size := by rw [W14.size]; exact Z13
    have EX_14 := extWr EX_13 W14 mo11
    have A14 := A13.same W14
    refine Go.on (g' := (mkF m 150 _ [(.ref o11)])) (st14) ?_
    refine Go.on (g' := (mkF m 152 #[.val (.long p0), .second, .val (.long p1), .second, .val (.long p2), .second, .val (.int p3), .val (.int u0), .val (.int u1), .val (.int u2), .val (.int u3), .val (.int u4), .val (.int u5), .val (.int (1 : Int32)), .val (.ref o11), .val (.int (1 : Int32)), .val (.int (3 : Int32)), .unset, .unset] [])) (fun t_ k_ => XS.astore X14.here hx rfl (hb hby at_150) rfl rfl (l' := #[.val (.long p0), .second, .val (.long p1), .second, .val (.long p2), .second, .val (.int p3), .val (.int u0), .val (.int u1), .val (.int u2), .val (.int u3), .val (.int u4), .val (.int u5), .val (.int (1 : Int32)), .val (.ref o11), .val (.int (1 : Int32)), .val (.int (3 : Int32)), .unset, .unset]) rfl k_) ?_
    refine Go.on (g' := (mkF m 153 _ [(.int (1 : Int32))])) (fun t_ k_ => XS.iconst X14.here hx rfl (hb hby at_152) k_) ?_
    obtain ⟨T15, h15, cA15, X15, e15, E15, A15, st15⟩ := newP X14 hx hZ (hw _ (List.mem_of_getElem? (i := 0) rfl)) e14 (g := (mkF m 153 #[.val (.long p0), .second, .val (.long p1), .second, .val (.long p2), .second, .val (.int p3), .val (.int u0), .val (.int u1), .val (.int u2), .val (.int u3), .val (.int u4), .val (.int u5), .val (.int (1 : Int32)), .val (.ref o11), .val (.int (1 : Int32)), .val (.int (3 : Int32)), .unset, .unset] [(.int (1 : Int32))])) rfl (hb hby at_153) (n := (1 : Int32)) rfl (by decide) (cap := 1) (by decide) (by decide) (by decide) (by decide)
    obtain ⟨o15, go15⟩ : ∃ z, z = (h14).size := ⟨_, rfl⟩
    rw [← go15] at A15 st15
    have no15 : n0 ≤ o15 := Nat.le_trans Z14 (Nat.le_of_eq go15.symm)
    have Z15 : n0 ≤ h15.size := Nat.le_trans Z14 E15.1
    have EX_15 := extTrans EX_14 E15
    have arr_o11_15 := A14.ext E15
    have mo15 : h0.size ≤ o15 := Nat.le_trans EX_14.1 (Nat.le_of_eq go15.symm)
    have ne_o11_o15 : o11 ≠ o15 := Nat.ne_of_lt (by rw [go15]; exact A14.lt)
    refine Go.on (g' := (mkF m 155 _ [(.ref o15)])) (st15) ?_
    refine Go.on (g' := (mkF m 156 _ [(.ref o15), (.ref o15)])) (fun t_ k_ => XS.dup X15.here hx rfl (hb hby at_155) rfl rfl k_) ?_
    refine Go.on (g' := (mkF m 157 _ [(.int (0 : Int32)), (.ref o15), (.ref o15)])) (fun t_ k_ => XS.iconst X15.here hx rfl (hb hby at_156) k_) ?_
    refine Go.on (g' := (mkF m 158 _ [(.int (3 : Int32)), (.int (0 : Int32)), (.ref o15), (.ref o15)])) (fun t_ k_ => XS.iconst X15.here hx rfl (hb hby at_157) k_) ?_
    refine Go.on (g' := (mkF m 160 _ [(.int u0), (.int (3 : Int32)), (.int (0 : Int32)), (.ref o15), (.ref o15)])) (fun t_ k_ => XS.iload X15.here hx rfl (hb hby at_158) rfl k_) ?_
    refine Go.on (g' := (mkF m 162 _ [(.int u1), (.int u0), (.int (3 : Int32)), (.int (0 : Int32)), (.ref o15), (.ref o15)])) (fun t_ k_ => XS.iload X15.here hx rfl (hb hby at_160) rfl k_) ?_
    refine Go.on (g' := (mkF m 164 _ [(.int u2), (.int u1), (.int u0), (.int (3 : Int32)), (.int (0 : Int32)), (.ref o15), (.ref o15)])) (fun t_ k_ => XS.iload X15.here hx rfl (hb hby at_162) rfl k_) ?_
    refine Go.callS X15 hx hZ hby (by rw [hml]; rfl) (y := (⟨"com/example/same_shape/sameshape/service/OrderedPairingPairPinLaw", "lastBest", "(IIII)I"⟩ : MethodName)) hown (hw _ (List.mem_of_getElem? (i := 12) rfl)) (hw _ (List.mem_of_getElem? (i := 13) rfl)) (hw _ (List.mem_of_getElem? (i := 3) rfl)) (hw _ (List.mem_of_getElem? (i := 14) rfl)) (by decide) (argsL := [(.int (3 : Int32)), (.int u0), (.int u1), (.int u2)]) (rest := [(.int (0 : Int32)), (.ref o15), (.ref o15)]) (rmLb3 l Z w0 hw [] u0 u1 u2 h15) e15 3 (by decide) (by decide) (by decide) (by decide) rfl pdLb rfl (Nat.le_of_eq rfl) at_164 (pcF := 167) rfl ?_
    intro v16 T16 L16 X16 hQ16
    obtain ⟨rfl, rfl, e16⟩ := hQ16
    rw [List.append_nil] at X16
    show Go p e below _ _ (mkF m 167 _ [(.int (own_lb 3 u0 u1 u2)), (.int (0 : Int32)), (.ref o15), (.ref o15)])
    obtain ⟨T17, h17, X17, e17, W17, st17⟩ := stI X16 hx hZ e16 A15 (j := (0 : Int32)) (by simp only [sz_set, sz_new]; decide) (g := (mkF m 167 #[.val (.long p0), .second, .val (.long p1), .second, .val (.long p2), .second, .val (.int p3), .val (.int u0), .val (.int u1), .val (.int u2), .val (.int u3), .val (.int u4), .val (.int u5), .val (.int (1 : Int32)), .val (.ref o11), .val (.int (1 : Int32)), .val (.int (3 : Int32)), .unset, .unset] [(.int (own_lb 3 u0 u1 u2)), (.int (0 : Int32)), (.ref o15), (.ref o15)])) rfl rfl (hb hby at_167)
    have N17 := Fr.snoc X17 N14 no15
    have Z17 : n0 ≤ h17.size := by rw [W17.size]; exact Z15
    have EX_17 := extWr EX_15 W17 mo15
    have arr_o11_17 := arr_o11_15.other W17 ne_o11_o15
    have A17 := A15.same W17
    refine Go.on (g' := (mkF m 168 _ [(.ref o15)])) (st17) ?_
    refine Go.on (g' := (mkF m 170 #[.val (.long p0), .second, .val (.long p1), .second, .val (.long p2), .second, .val (.int p3), .val (.int u0), .val (.int u1), .val (.int u2), .val (.int u3), .val (.int u4), .val (.int u5), .val (.int (1 : Int32)), .val (.ref o11), .val (.int (1 : Int32)), .val (.int (3 : Int32)), .val (.ref o15), .unset] [])) (fun t_ k_ => XS.astore X17.here hx rfl (hb hby at_168) rfl rfl (l' := #[.val (.long p0), .second, .val (.long p1), .second, .val (.long p2), .second, .val (.int p3), .val (.int u0), .val (.int u1), .val (.int u2), .val (.int u3), .val (.int u4), .val (.int u5), .val (.int (1 : Int32)), .val (.ref o11), .val (.int (1 : Int32)), .val (.int (3 : Int32)), .val (.ref o15), .unset]) rfl k_) ?_
    refine Go.on (g' := (mkF m 236 _ [])) (fun t_ k_ => XS.goto X17.here hx rfl (pc0 := 170) (pc' := 236) rfl (hb hby at_170) (by decide) (by decide) k_) ?_
    refine Go.on (g' := (mkF m 238 _ [(.ref o11)])) (fun t_ k_ => XS.aload X17.here hx rfl (hb hby at_236) rfl rfl k_) ?_
    refine Go.on (g' := (mkF m 240 _ [(.int (1 : Int32)), (.ref o11)])) (fun t_ k_ => XS.iload X17.here hx rfl (hb hby at_238) rfl k_) ?_
    refine Go.on (g' := (mkF m 242 _ [(.int (3 : Int32)), (.int (1 : Int32)), (.ref o11)])) (fun t_ k_ => XS.iload X17.here hx rfl (hb hby at_240) rfl k_) ?_
    refine Go.callS X17 hx hZ hby (by rw [hml]; rfl) (y := (⟨"com/example/same_shape/sameshape/service/OrderedPairing", "pair", "([III)[I"⟩ : MethodName)) hown (hw _ (List.mem_of_getElem? (i := 15) rfl)) (hw _ (List.mem_of_getElem? (i := 16) rfl)) (hw _ (List.mem_of_getElem? (i := 17) rfl)) (hw _ (List.mem_of_getElem? (i := 18) rfl)) (by decide) (argsL := [(.ref o11), (.int (1 : Int32)), (.int (3 : Int32))]) (rest := []) (rmPr13 l Z w0 hw [] o11 h17 n0 Z17 _ arr_o11_17 u0 u1 u2 ⟨by simp only [sz_set, sz_new]; decide, rfl, rfl, rfl⟩) e17 0 (by decide) (by decide) (by decide) (by decide) rfl pdPr rfl (Nat.le_of_eq rfl) at_242 (pcF := 245) rfl ?_
    intro v18 T18 L18 X18 hQ18
    obtain ⟨pa, pc, rfl, M18, EY18, pm, pA, pz, pg0⟩ := hQ18
    have N18 := Fr.app N17 M18
    have Z18 : n0 ≤ T18.heap.size := Nat.le_trans Z17 EY18.1
    have EX18 := extTrans EX_17 EY18
    have e18 : T18.heap = T18.heap := rfl
    have arr_o11_18 := arr_o11_17.ext EY18
    have arr_o15_18 := A17.ext EY18
    show Go p e below _ _ (mkF m 245 _ [(.ref pa)])
    refine Go.on (g' := (mkF m 247 #[.val (.long p0), .second, .val (.long p1), .second, .val (.long p2), .second, .val (.int p3), .val (.int u0), .val (.int u1), .val (.int u2), .val (.int u3), .val (.int u4), .val (.int u5), .val (.int (1 : Int32)), .val (.ref o11), .val (.int (1 : Int32)), .val (.int (3 : Int32)), .val (.ref o15), .val (.ref pa)] [])) (fun t_ k_ => XS.astore X18.here hx rfl (hb hby at_245) rfl rfl (l' := #[.val (.long p0), .second, .val (.long p1), .second, .val (.long p2), .second, .val (.int p3), .val (.int u0), .val (.int u1), .val (.int u2), .val (.int u3), .val (.int u4), .val (.int u5), .val (.int (1 : Int32)), .val (.ref o11), .val (.int (1 : Int32)), .val (.int (3 : Int32)), .val (.ref o15), .val (.ref pa)]) rfl k_) ?_
    refine Go.on (g' := (mkF m 249 _ [(.ref pa)])) (fun t_ k_ => XS.aload X18.here hx rfl (hb hby at_247) rfl rfl k_) ?_
    refine Go.on (g' := (mkF m 251 _ [(.ref o15), (.ref pa)])) (fun t_ k_ => XS.aload X18.here hx rfl (hb hby at_249) rfl rfl k_) ?_
    refine Go.callS X18 hx hZ hby (by rw [hml]; rfl) (y := (⟨"com/example/same_shape/sameshape/service/OrderedPairingPairPinLaw", "same", "([I[I)Z"⟩ : MethodName)) hown (hw _ (List.mem_of_getElem? (i := 24) rfl)) (hw _ (List.mem_of_getElem? (i := 25) rfl)) (hw _ (List.mem_of_getElem? (i := 3) rfl)) (hw _ (List.mem_of_getElem? (i := 26) rfl)) (by decide) (argsL := [(.ref pa), (.ref o15)]) (rest := []) (rmSm1 l Z w0 hw [] pa o15 _ T18.heap _ pA pz pg0 _ arr_o15_18 (by simp only [sz_set, sz_new]; decide) (by rw [own_law13 u0 u1 u2 d0 d1 d2]; rfl)) e18 0 (by decide) (by decide) (by decide) (by decide) rfl pdSm rfl (Nat.le_of_eq rfl) at_251 (pcF := 254) rfl ?_
    intro v19 T19 L19 X19 hQ19
    obtain ⟨rfl, rfl, e19⟩ := hQ19
    rw [List.append_nil] at X19
    show Go p e below _ _ (mkF m 254 _ [(.int (1 : Int32))])
    exact Go.retI X19 hx hlk hret hby at_254 rfl (by simp) (by decide) (by decide) ⟨rfl, N18⟩
  · show Go p e below _ _ (mkF m 53 #[.val (.long p0), .second, .val (.long p1), .second, .val (.long p2), .second, .val (.int p3), .val (.int u0), .val (.int u1), .val (.int u2), .val (.int u3), .val (.int u4), .val (.int u5), .val (.int (2 : Int32)), .unset, .unset, .unset, .unset, .unset] [])
    refine Go.on (g' := (mkF m 55 _ [(.int (2 : Int32))])) (fun t_ k_ => XS.iload X0.here hx rfl (hb hby at_53) rfl k_) ?_
    refine Go.ifc X0 hx hby at_55 (pcT := 120) (pcF := 58) (by decide) (by decide) rfl (fun q => ?_) (fun q => absurd q (by decide))
    clear q
    show Go p e below _ _ (mkF m 120 _ [])
    refine Go.on (g' := (mkF m 122 _ [(.int (2 : Int32))])) (fun t_ k_ => XS.iload X0.here hx rfl (hb hby at_120) rfl k_) ?_
    refine Go.on (g' := (mkF m 123 _ [(.int (1 : Int32)), (.int (2 : Int32))])) (fun t_ k_ => XS.iconst X0.here hx rfl (hb hby at_122) k_) ?_
    refine Go.icmp X0 hx hby at_123 (pcT := 173) (pcF := 126) (by decide) (by decide) rfl (fun q => ?_) (fun q => absurd q (by decide))
    clear q
    show Go p e below _ _ (mkF m 173 _ [])
    refine Go.on (g' := (mkF m 175 _ [(.int (2 : Int32))])) (fun t_ k_ => XS.iload X0.here hx rfl (hb hby at_173) rfl k_) ?_
    refine Go.on (g' := (mkF m 176 _ [(.int (2 : Int32)), (.int (2 : Int32))])) (fun t_ k_ => XS.iconst X0.here hx rfl (hb hby at_175) k_) ?_
    refine Go.icmp X0 hx hby at_176 (pcT := 212) (pcF := 179) (by decide) (by decide) rfl (fun q => absurd q (by decide)) (fun q => ?_)
    clear q
    show Go p e below _ _ (mkF m 179 _ [])
    refine Go.on (g' := (mkF m 180 _ [(.int (2 : Int32))])) (fun t_ k_ => XS.iconst X0.here hx rfl (hb hby at_179) k_) ?_
    refine Go.on (g' := (mkF m 182 #[.val (.long p0), .second, .val (.long p1), .second, .val (.long p2), .second, .val (.int p3), .val (.int u0), .val (.int u1), .val (.int u2), .val (.int u3), .val (.int u4), .val (.int u5), .val (.int (2 : Int32)), .unset, .val (.int (2 : Int32)), .unset, .unset, .unset] [])) (fun t_ k_ => XS.istore X0.here hx rfl (hb hby at_180) rfl (l' := #[.val (.long p0), .second, .val (.long p1), .second, .val (.long p2), .second, .val (.int p3), .val (.int u0), .val (.int u1), .val (.int u2), .val (.int u3), .val (.int u4), .val (.int u5), .val (.int (2 : Int32)), .unset, .val (.int (2 : Int32)), .unset, .unset, .unset]) rfl k_) ?_
    refine Go.on (g' := (mkF m 183 _ [(.int (1 : Int32))])) (fun t_ k_ => XS.iconst X0.here hx rfl (hb hby at_182) k_) ?_
    refine Go.on (g' := (mkF m 185 #[.val (.long p0), .second, .val (.long p1), .second, .val (.long p2), .second, .val (.int p3), .val (.int u0), .val (.int u1), .val (.int u2), .val (.int u3), .val (.int u4), .val (.int u5), .val (.int (2 : Int32)), .unset, .val (.int (2 : Int32)), .val (.int (1 : Int32)), .unset, .unset] [])) (fun t_ k_ => XS.istore X0.here hx rfl (hb hby at_183) rfl (l' := #[.val (.long p0), .second, .val (.long p1), .second, .val (.long p2), .second, .val (.int p3), .val (.int u0), .val (.int u1), .val (.int u2), .val (.int u3), .val (.int u4), .val (.int u5), .val (.int (2 : Int32)), .unset, .val (.int (2 : Int32)), .val (.int (1 : Int32)), .unset, .unset]) rfl k_) ?_
    refine Go.on (g' := (mkF m 186 _ [(.int (2 : Int32))])) (fun t_ k_ => XS.iconst X0.here hx rfl (hb hby at_185) k_) ?_
    obtain ⟨T20, h20, cA20, X20, e20, E20, A20, st20⟩ := newP X0 hx hZ (hw _ (List.mem_of_getElem? (i := 0) rfl)) e0 (g := (mkF m 186 #[.val (.long p0), .second, .val (.long p1), .second, .val (.long p2), .second, .val (.int p3), .val (.int u0), .val (.int u1), .val (.int u2), .val (.int u3), .val (.int u4), .val (.int u5), .val (.int (2 : Int32)), .unset, .val (.int (2 : Int32)), .val (.int (1 : Int32)), .unset, .unset] [(.int (2 : Int32))])) rfl (hb hby at_186) (n := (2 : Int32)) rfl (by decide) (cap := 2) (by decide) (by decide) (by decide) (by decide)
    obtain ⟨o20, go20⟩ : ∃ z, z = (h0).size := ⟨_, rfl⟩
    rw [← go20] at A20 st20
    have no20 : n0 ≤ o20 := Nat.le_trans Z0 (Nat.le_of_eq go20.symm)
    have Z20 : n0 ≤ h20.size := Nat.le_trans Z0 E20.1
    have EX_20 := extTrans EX0 E20
    have mo20 : h0.size ≤ o20 := Nat.le_trans EX0.1 (Nat.le_of_eq go20.symm)
    refine Go.on (g' := (mkF m 188 _ [(.ref o20)])) (st20) ?_
    refine Go.on (g' := (mkF m 189 _ [(.ref o20), (.ref o20)])) (fun t_ k_ => XS.dup X20.here hx rfl (hb hby at_188) rfl rfl k_) ?_
    refine Go.on (g' := (mkF m 190 _ [(.int (0 : Int32)), (.ref o20), (.ref o20)])) (fun t_ k_ => XS.iconst X20.here hx rfl (hb hby at_189) k_) ?_
    refine Go.on (g' := (mkF m 192 _ [(.int u0), (.int (0 : Int32)), (.ref o20), (.ref o20)])) (fun t_ k_ => XS.iload X20.here hx rfl (hb hby at_190) rfl k_) ?_
    obtain ⟨T21, h21, X21, e21, W21, st21⟩ := stI X20 hx hZ e20 A20 (j := (0 : Int32)) (by simp only [sz_set, sz_new]; decide) (g := (mkF m 192 #[.val (.long p0), .second, .val (.long p1), .second, .val (.long p2), .second, .val (.int p3), .val (.int u0), .val (.int u1), .val (.int u2), .val (.int u3), .val (.int u4), .val (.int u5), .val (.int (2 : Int32)), .unset, .val (.int (2 : Int32)), .val (.int (1 : Int32)), .unset, .unset] [(.int u0), (.int (0 : Int32)), (.ref o20), (.ref o20)])) rfl rfl (hb hby at_192)
    have N21 := Fr.snoc X21 N0 no20
    have Z21 : n0 ≤ h21.size := by rw [W21.size]; exact Z20
    have EX_21 := extWr EX_20 W21 mo20
    have A21 := A20.same W21
    refine Go.on (g' := (mkF m 193 _ [(.ref o20)])) (st21) ?_
    refine Go.on (g' := (mkF m 194 _ [(.ref o20), (.ref o20)])) (fun t_ k_ => XS.dup X21.here hx rfl (hb hby at_193) rfl rfl k_) ?_
    refine Go.on (g' := (mkF m 195 _ [(.int (1 : Int32)), (.ref o20), (.ref o20)])) (fun t_ k_ => XS.iconst X21.here hx rfl (hb hby at_194) k_) ?_
    refine Go.on (g' := (mkF m 197 _ [(.int u3), (.int (1 : Int32)), (.ref o20), (.ref o20)])) (fun t_ k_ => XS.iload X21.here hx rfl (hb hby at_195) rfl k_) ?_
    obtain ⟨T22, h22, X22, e22, W22, st22⟩ := stI X21 hx hZ e21 A21 (j := (1 : Int32)) (by simp only [sz_set, sz_new]; decide) (g := (mkF m 197 #[.val (.long p0), .second, .val (.long p1), .second, .val (.long p2), .second, .val (.int p3), .val (.int u0), .val (.int u1), .val (.int u2), .val (.int u3), .val (.int u4), .val (.int u5), .val (.int (2 : Int32)), .unset, .val (.int (2 : Int32)), .val (.int (1 : Int32)), .unset, .unset] [(.int u3), (.int (1 : Int32)), (.ref o20), (.ref o20)])) rfl rfl (hb hby at_197)
    have N22 := Fr.snoc X22 N21 no20
    have Z22 : n0 ≤ h22.size := by rw [W22.size]; exact Z21
    have EX_22 := extWr EX_21 W22 mo20
    have A22 := A21.same W22
    refine Go.on (g' := (mkF m 198 _ [(.ref o20)])) (st22) ?_
    refine Go.on (g' := (mkF m 200 #[.val (.long p0), .second, .val (.long p1), .second, .val (.long p2), .second, .val (.int p3), .val (.int u0), .val (.int u1), .val (.int u2), .val (.int u3), .val (.int u4), .val (.int u5), .val (.int (2 : Int32)), .val (.ref o20), .val (.int (2 : Int32)), .val (.int (1 : Int32)), .unset, .unset] [])) (fun t_ k_ => XS.astore X22.here hx rfl (hb hby at_198) rfl rfl (l' := #[.val (.long p0), .second, .val (.long p1), .second, .val (.long p2), .second, .val (.int p3), .val (.int u0), .val (.int u1), .val (.int u2), .val (.int u3), .val (.int u4), .val (.int u5), .val (.int (2 : Int32)), .val (.ref o20), .val (.int (2 : Int32)), .val (.int (1 : Int32)), .unset, .unset]) rfl k_) ?_
    refine Go.on (g' := (mkF m 202 _ [(.int u0)])) (fun t_ k_ => XS.iload X22.here hx rfl (hb hby at_200) rfl k_) ?_
    refine Go.on (g' := (mkF m 204 _ [(.int u3), (.int u0)])) (fun t_ k_ => XS.iload X22.here hx rfl (hb hby at_202) rfl k_) ?_
    refine Go.callS X22 hx hZ hby (by rw [hml]; rfl) (y := (⟨"com/example/same_shape/sameshape/service/OrderedPairingPairPinLaw", "twoByOne", "(II)[I"⟩ : MethodName)) hown (hw _ (List.mem_of_getElem? (i := 1) rfl)) (hw _ (List.mem_of_getElem? (i := 2) rfl)) (hw _ (List.mem_of_getElem? (i := 3) rfl)) (hw _ (List.mem_of_getElem? (i := 4) rfl)) (by decide) (argsL := [(.int u0), (.int u3)]) (rest := []) (rmTw l Z w0 hw [] u0 u3 h22 n0 Z22) e22 0 (by decide) (by decide) (by decide) (by decide) rfl pdTw rfl (Nat.le_of_eq rfl) at_204 (pcF := 207) rfl ?_
    intro v23 T23 L23 X23 hQ23
    obtain ⟨ta, tc, rfl, M23, EY23, tm, tA, tz, tg0, tg1⟩ := hQ23
    have N23 := Fr.app N22 M23
    have Z23 : n0 ≤ T23.heap.size := Nat.le_trans Z22 EY23.1
    have EX23 := extTrans EX_22 EY23
    have e23 : T23.heap = T23.heap := rfl
    have arr_o20_23 := A22.ext EY23
    show Go p e below _ _ (mkF m 207 _ [(.ref ta)])
    refine Go.on (g' := (mkF m 209 #[.val (.long p0), .second, .val (.long p1), .second, .val (.long p2), .second, .val (.int p3), .val (.int u0), .val (.int u1), .val (.int u2), .val (.int u3), .val (.int u4), .val (.int u5), .val (.int (2 : Int32)), .val (.ref o20), .val (.int (2 : Int32)), .val (.int (1 : Int32)), .val (.ref ta), .unset] [])) (fun t_ k_ => XS.astore X23.here hx rfl (hb hby at_207) rfl rfl (l' := #[.val (.long p0), .second, .val (.long p1), .second, .val (.long p2), .second, .val (.int p3), .val (.int u0), .val (.int u1), .val (.int u2), .val (.int u3), .val (.int u4), .val (.int u5), .val (.int (2 : Int32)), .val (.ref o20), .val (.int (2 : Int32)), .val (.int (1 : Int32)), .val (.ref ta), .unset]) rfl k_) ?_
    refine Go.on (g' := (mkF m 236 _ [])) (fun t_ k_ => XS.goto X23.here hx rfl (pc0 := 209) (pc' := 236) rfl (hb hby at_209) (by decide) (by decide) k_) ?_
    refine Go.on (g' := (mkF m 238 _ [(.ref o20)])) (fun t_ k_ => XS.aload X23.here hx rfl (hb hby at_236) rfl rfl k_) ?_
    refine Go.on (g' := (mkF m 240 _ [(.int (2 : Int32)), (.ref o20)])) (fun t_ k_ => XS.iload X23.here hx rfl (hb hby at_238) rfl k_) ?_
    refine Go.on (g' := (mkF m 242 _ [(.int (1 : Int32)), (.int (2 : Int32)), (.ref o20)])) (fun t_ k_ => XS.iload X23.here hx rfl (hb hby at_240) rfl k_) ?_
    refine Go.callS X23 hx hZ hby (by rw [hml]; rfl) (y := (⟨"com/example/same_shape/sameshape/service/OrderedPairing", "pair", "([III)[I"⟩ : MethodName)) hown (hw _ (List.mem_of_getElem? (i := 15) rfl)) (hw _ (List.mem_of_getElem? (i := 16) rfl)) (hw _ (List.mem_of_getElem? (i := 17) rfl)) (hw _ (List.mem_of_getElem? (i := 18) rfl)) (by decide) (argsL := [(.ref o20), (.int (2 : Int32)), (.int (1 : Int32))]) (rest := []) (rmPr21 l Z w0 hw [] o20 T23.heap n0 Z23 _ arr_o20_23 u0 u3 ⟨by simp only [sz_set, sz_new]; decide, rfl, rfl⟩) e23 0 (by decide) (by decide) (by decide) (by decide) rfl pdPr rfl (Nat.le_of_eq rfl) at_242 (pcF := 245) rfl ?_
    intro v24 T24 L24 X24 hQ24
    obtain ⟨pa, pc, rfl, M24, EY24, pm, pA, pz, pg0, pg1⟩ := hQ24
    have N24 := Fr.app N23 M24
    have Z24 : n0 ≤ T24.heap.size := Nat.le_trans Z23 EY24.1
    have EX24 := extTrans EX23 EY24
    have e24 : T24.heap = T24.heap := rfl
    have arr_o20_24 := arr_o20_23.ext EY24
    have arr_ta_24 := tA.ext EY24
    show Go p e below _ _ (mkF m 245 _ [(.ref pa)])
    refine Go.on (g' := (mkF m 247 #[.val (.long p0), .second, .val (.long p1), .second, .val (.long p2), .second, .val (.int p3), .val (.int u0), .val (.int u1), .val (.int u2), .val (.int u3), .val (.int u4), .val (.int u5), .val (.int (2 : Int32)), .val (.ref o20), .val (.int (2 : Int32)), .val (.int (1 : Int32)), .val (.ref ta), .val (.ref pa)] [])) (fun t_ k_ => XS.astore X24.here hx rfl (hb hby at_245) rfl rfl (l' := #[.val (.long p0), .second, .val (.long p1), .second, .val (.long p2), .second, .val (.int p3), .val (.int u0), .val (.int u1), .val (.int u2), .val (.int u3), .val (.int u4), .val (.int u5), .val (.int (2 : Int32)), .val (.ref o20), .val (.int (2 : Int32)), .val (.int (1 : Int32)), .val (.ref ta), .val (.ref pa)]) rfl k_) ?_
    refine Go.on (g' := (mkF m 249 _ [(.ref pa)])) (fun t_ k_ => XS.aload X24.here hx rfl (hb hby at_247) rfl rfl k_) ?_
    refine Go.on (g' := (mkF m 251 _ [(.ref ta), (.ref pa)])) (fun t_ k_ => XS.aload X24.here hx rfl (hb hby at_249) rfl rfl k_) ?_
    refine Go.callS X24 hx hZ hby (by rw [hml]; rfl) (y := (⟨"com/example/same_shape/sameshape/service/OrderedPairingPairPinLaw", "same", "([I[I)Z"⟩ : MethodName)) hown (hw _ (List.mem_of_getElem? (i := 24) rfl)) (hw _ (List.mem_of_getElem? (i := 25) rfl)) (hw _ (List.mem_of_getElem? (i := 3) rfl)) (hw _ (List.mem_of_getElem? (i := 26) rfl)) (by decide) (argsL := [(.ref pa), (.ref ta)]) (rest := []) (rmSm2 l Z w0 hw [] pa ta _ _ T24.heap _ pA pz pg0 pg1 _ arr_ta_24 tz (by rw [own_law21 u0 u3 d0 d3]; exact tg0) (by rw [own_law21 u0 u3 d0 d3]; exact tg1)) e24 0 (by decide) (by decide) (by decide) (by decide) rfl pdSm rfl (Nat.le_of_eq rfl) at_251 (pcF := 254) rfl ?_
    intro v25 T25 L25 X25 hQ25
    obtain ⟨rfl, rfl, e25⟩ := hQ25
    rw [List.append_nil] at X25
    show Go p e below _ _ (mkF m 254 _ [(.int (1 : Int32))])
    exact Go.retI X25 hx hlk hret hby at_254 rfl (by simp) (by decide) (by decide) ⟨rfl, N24⟩
  · show Go p e below _ _ (mkF m 53 #[.val (.long p0), .second, .val (.long p1), .second, .val (.long p2), .second, .val (.int p3), .val (.int u0), .val (.int u1), .val (.int u2), .val (.int u3), .val (.int u4), .val (.int u5), .val (.int (3 : Int32)), .unset, .unset, .unset, .unset, .unset] [])
    refine Go.on (g' := (mkF m 55 _ [(.int (3 : Int32))])) (fun t_ k_ => XS.iload X0.here hx rfl (hb hby at_53) rfl k_) ?_
    refine Go.ifc X0 hx hby at_55 (pcT := 120) (pcF := 58) (by decide) (by decide) rfl (fun q => ?_) (fun q => absurd q (by decide))
    clear q
    show Go p e below _ _ (mkF m 120 _ [])
    refine Go.on (g' := (mkF m 122 _ [(.int (3 : Int32))])) (fun t_ k_ => XS.iload X0.here hx rfl (hb hby at_120) rfl k_) ?_
    refine Go.on (g' := (mkF m 123 _ [(.int (1 : Int32)), (.int (3 : Int32))])) (fun t_ k_ => XS.iconst X0.here hx rfl (hb hby at_122) k_) ?_
    refine Go.icmp X0 hx hby at_123 (pcT := 173) (pcF := 126) (by decide) (by decide) rfl (fun q => ?_) (fun q => absurd q (by decide))
    clear q
    show Go p e below _ _ (mkF m 173 _ [])
    refine Go.on (g' := (mkF m 175 _ [(.int (3 : Int32))])) (fun t_ k_ => XS.iload X0.here hx rfl (hb hby at_173) rfl k_) ?_
    refine Go.on (g' := (mkF m 176 _ [(.int (2 : Int32)), (.int (3 : Int32))])) (fun t_ k_ => XS.iconst X0.here hx rfl (hb hby at_175) k_) ?_
    refine Go.icmp X0 hx hby at_176 (pcT := 212) (pcF := 179) (by decide) (by decide) rfl (fun q => ?_) (fun q => absurd q (by decide))
    clear q
    show Go p e below _ _ (mkF m 212 _ [])
    refine Go.on (g' := (mkF m 213 _ [(.int (2 : Int32))])) (fun t_ k_ => XS.iconst X0.here hx rfl (hb hby at_212) k_) ?_
    refine Go.on (g' := (mkF m 215 #[.val (.long p0), .second, .val (.long p1), .second, .val (.long p2), .second, .val (.int p3), .val (.int u0), .val (.int u1), .val (.int u2), .val (.int u3), .val (.int u4), .val (.int u5), .val (.int (3 : Int32)), .unset, .val (.int (2 : Int32)), .unset, .unset, .unset] [])) (fun t_ k_ => XS.istore X0.here hx rfl (hb hby at_213) rfl (l' := #[.val (.long p0), .second, .val (.long p1), .second, .val (.long p2), .second, .val (.int p3), .val (.int u0), .val (.int u1), .val (.int u2), .val (.int u3), .val (.int u4), .val (.int u5), .val (.int (3 : Int32)), .unset, .val (.int (2 : Int32)), .unset, .unset, .unset]) rfl k_) ?_
    refine Go.on (g' := (mkF m 216 _ [(.int (0 : Int32))])) (fun t_ k_ => XS.iconst X0.here hx rfl (hb hby at_215) k_) ?_
    refine Go.on (g' := (mkF m 218 #[.val (.long p0), .second, .val (.long p1), .second, .val (.long p2), .second, .val (.int p3), .val (.int u0), .val (.int u1), .val (.int u2), .val (.int u3), .val (.int u4), .val (.int u5), .val (.int (3 : Int32)), .unset, .val (.int (2 : Int32)), .val (.int (0 : Int32)), .unset, .unset] [])) (fun t_ k_ => XS.istore X0.here hx rfl (hb hby at_216) rfl (l' := #[.val (.long p0), .second, .val (.long p1), .second, .val (.long p2), .second, .val (.int p3), .val (.int u0), .val (.int u1), .val (.int u2), .val (.int u3), .val (.int u4), .val (.int u5), .val (.int (3 : Int32)), .unset, .val (.int (2 : Int32)), .val (.int (0 : Int32)), .unset, .unset]) rfl k_) ?_
    refine Go.on (g' := (mkF m 219 _ [(.int (0 : Int32))])) (fun t_ k_ => XS.iconst X0.here hx rfl (hb hby at_218) k_) ?_
    obtain ⟨T26, h26, cA26, X26, e26, E26, A26, st26⟩ := newP X0 hx hZ (hw _ (List.mem_of_getElem? (i := 0) rfl)) e0 (g := (mkF m 219 #[.val (.long p0), .second, .val (.long p1), .second, .val (.long p2), .second, .val (.int p3), .val (.int u0), .val (.int u1), .val (.int u2), .val (.int u3), .val (.int u4), .val (.int u5), .val (.int (3 : Int32)), .unset, .val (.int (2 : Int32)), .val (.int (0 : Int32)), .unset, .unset] [(.int (0 : Int32))])) rfl (hb hby at_219) (n := (0 : Int32)) rfl (by decide) (cap := 0) (by decide) (by decide) (by decide) (by decide)
    obtain ⟨o26, go26⟩ : ∃ z, z = (h0).size := ⟨_, rfl⟩
    rw [← go26] at A26 st26
    have no26 : n0 ≤ o26 := Nat.le_trans Z0 (Nat.le_of_eq go26.symm)
    have Z26 : n0 ≤ h26.size := Nat.le_trans Z0 E26.1
    have EX_26 := extTrans EX0 E26
    have mo26 : h0.size ≤ o26 := Nat.le_trans EX0.1 (Nat.le_of_eq go26.symm)
    refine Go.on (g' := (mkF m 221 _ [(.ref o26)])) (st26) ?_
    refine Go.on (g' := (mkF m 223 #[.val (.long p0), .second, .val (.long p1), .second, .val (.long p2), .second, .val (.int p3), .val (.int u0), .val (.int u1), .val (.int u2), .val (.int u3), .val (.int u4), .val (.int u5), .val (.int (3 : Int32)), .val (.ref o26), .val (.int (2 : Int32)), .val (.int (0 : Int32)), .unset, .unset] [])) (fun t_ k_ => XS.astore X26.here hx rfl (hb hby at_221) rfl rfl (l' := #[.val (.long p0), .second, .val (.long p1), .second, .val (.long p2), .second, .val (.int p3), .val (.int u0), .val (.int u1), .val (.int u2), .val (.int u3), .val (.int u4), .val (.int u5), .val (.int (3 : Int32)), .val (.ref o26), .val (.int (2 : Int32)), .val (.int (0 : Int32)), .unset, .unset]) rfl k_) ?_
    refine Go.on (g' := (mkF m 224 _ [(.int (2 : Int32))])) (fun t_ k_ => XS.iconst X26.here hx rfl (hb hby at_223) k_) ?_
    obtain ⟨T27, h27, cA27, X27, e27, E27, A27, st27⟩ := newP X26 hx hZ (hw _ (List.mem_of_getElem? (i := 0) rfl)) e26 (g := (mkF m 224 #[.val (.long p0), .second, .val (.long p1), .second, .val (.long p2), .second, .val (.int p3), .val (.int u0), .val (.int u1), .val (.int u2), .val (.int u3), .val (.int u4), .val (.int u5), .val (.int (3 : Int32)), .val (.ref o26), .val (.int (2 : Int32)), .val (.int (0 : Int32)), .unset, .unset] [(.int (2 : Int32))])) rfl (hb hby at_224) (n := (2 : Int32)) rfl (by decide) (cap := 2) (by decide) (by decide) (by decide) (by decide)
    obtain ⟨o27, go27⟩ : ∃ z, z = (h26).size := ⟨_, rfl⟩
    rw [← go27] at A27 st27
    have no27 : n0 ≤ o27 := Nat.le_trans Z26 (Nat.le_of_eq go27.symm)
    have Z27 : n0 ≤ h27.size := Nat.le_trans Z26 E27.1
    have EX_27 := extTrans EX_26 E27
    have arr_o26_27 := A26.ext E27
    have mo27 : h0.size ≤ o27 := Nat.le_trans EX_26.1 (Nat.le_of_eq go27.symm)
    have ne_o26_o27 : o26 ≠ o27 := Nat.ne_of_lt (by rw [go27]; exact A26.lt)
    refine Go.on (g' := (mkF m 226 _ [(.ref o27)])) (st27) ?_
    refine Go.on (g' := (mkF m 227 _ [(.ref o27), (.ref o27)])) (fun t_ k_ => XS.dup X27.here hx rfl (hb hby at_226) rfl rfl k_) ?_
    refine Go.on (g' := (mkF m 228 _ [(.int (0 : Int32)), (.ref o27), (.ref o27)])) (fun t_ k_ => XS.iconst X27.here hx rfl (hb hby at_227) k_) ?_
    refine Go.on (g' := (mkF m 229 _ [(.int ((-1) : Int32)), (.int (0 : Int32)), (.ref o27), (.ref o27)])) (fun t_ k_ => XS.iconst X27.here hx rfl (hb hby at_228) k_) ?_
    obtain ⟨T28, h28, X28, e28, W28, st28⟩ := stI X27 hx hZ e27 A27 (j := (0 : Int32)) (by simp only [sz_set, sz_new]; decide) (g := (mkF m 229 #[.val (.long p0), .second, .val (.long p1), .second, .val (.long p2), .second, .val (.int p3), .val (.int u0), .val (.int u1), .val (.int u2), .val (.int u3), .val (.int u4), .val (.int u5), .val (.int (3 : Int32)), .val (.ref o26), .val (.int (2 : Int32)), .val (.int (0 : Int32)), .unset, .unset] [(.int ((-1) : Int32)), (.int (0 : Int32)), (.ref o27), (.ref o27)])) rfl rfl (hb hby at_229)
    have N28 := Fr.snoc X28 N0 no27
    have Z28 : n0 ≤ h28.size := by rw [W28.size]; exact Z27
    have EX_28 := extWr EX_27 W28 mo27
    have arr_o26_28 := arr_o26_27.other W28 ne_o26_o27
    have A28 := A27.same W28
    refine Go.on (g' := (mkF m 230 _ [(.ref o27)])) (st28) ?_
    refine Go.on (g' := (mkF m 231 _ [(.ref o27), (.ref o27)])) (fun t_ k_ => XS.dup X28.here hx rfl (hb hby at_230) rfl rfl k_) ?_
    refine Go.on (g' := (mkF m 232 _ [(.int (1 : Int32)), (.ref o27), (.ref o27)])) (fun t_ k_ => XS.iconst X28.here hx rfl (hb hby at_231) k_) ?_
    refine Go.on (g' := (mkF m 233 _ [(.int ((-1) : Int32)), (.int (1 : Int32)), (.ref o27), (.ref o27)])) (fun t_ k_ => XS.iconst X28.here hx rfl (hb hby at_232) k_) ?_
    obtain ⟨T29, h29, X29, e29, W29, st29⟩ := stI X28 hx hZ e28 A28 (j := (1 : Int32)) (by simp only [sz_set, sz_new]; decide) (g := (mkF m 233 #[.val (.long p0), .second, .val (.long p1), .second, .val (.long p2), .second, .val (.int p3), .val (.int u0), .val (.int u1), .val (.int u2), .val (.int u3), .val (.int u4), .val (.int u5), .val (.int (3 : Int32)), .val (.ref o26), .val (.int (2 : Int32)), .val (.int (0 : Int32)), .unset, .unset] [(.int ((-1) : Int32)), (.int (1 : Int32)), (.ref o27), (.ref o27)])) rfl rfl (hb hby at_233)
    have N29 := Fr.snoc X29 N28 no27
    have Z29 : n0 ≤ h29.size := by rw [W29.size]; exact Z28
    have EX_29 := extWr EX_28 W29 mo27
    have arr_o26_29 := arr_o26_28.other W29 ne_o26_o27
    have A29 := A28.same W29
    refine Go.on (g' := (mkF m 234 _ [(.ref o27)])) (st29) ?_
    refine Go.on (g' := (mkF m 236 #[.val (.long p0), .second, .val (.long p1), .second, .val (.long p2), .second, .val (.int p3), .val (.int u0), .val (.int u1), .val (.int u2), .val (.int u3), .val (.int u4), .val (.int u5), .val (.int (3 : Int32)), .val (.ref o26), .val (.int (2 : Int32)), .val (.int (0 : Int32)), .val (.ref o27), .unset] [])) (fun t_ k_ => XS.astore X29.here hx rfl (hb hby at_234) rfl rfl (l' := #[.val (.long p0), .second, .val (.long p1), .second, .val (.long p2), .second, .val (.int p3), .val (.int u0), .val (.int u1), .val (.int u2), .val (.int u3), .val (.int u4), .val (.int u5), .val (.int (3 : Int32)), .val (.ref o26), .val (.int (2 : Int32)), .val (.int (0 : Int32)), .val (.ref o27), .unset]) rfl k_) ?_
    refine Go.on (g' := (mkF m 238 _ [(.ref o26)])) (fun t_ k_ => XS.aload X29.here hx rfl (hb hby at_236) rfl rfl k_) ?_
    refine Go.on (g' := (mkF m 240 _ [(.int (2 : Int32)), (.ref o26)])) (fun t_ k_ => XS.iload X29.here hx rfl (hb hby at_238) rfl k_) ?_
    refine Go.on (g' := (mkF m 242 _ [(.int (0 : Int32)), (.int (2 : Int32)), (.ref o26)])) (fun t_ k_ => XS.iload X29.here hx rfl (hb hby at_240) rfl k_) ?_
    refine Go.callS X29 hx hZ hby (by rw [hml]; rfl) (y := (⟨"com/example/same_shape/sameshape/service/OrderedPairing", "pair", "([III)[I"⟩ : MethodName)) hown (hw _ (List.mem_of_getElem? (i := 15) rfl)) (hw _ (List.mem_of_getElem? (i := 16) rfl)) (hw _ (List.mem_of_getElem? (i := 17) rfl)) (hw _ (List.mem_of_getElem? (i := 18) rfl)) (by decide) (argsL := [(.ref o26), (.int (2 : Int32)), (.int (0 : Int32))]) (rest := []) (rmPr20 l Z w0 hw [] o26 h29 n0 Z29 _ arr_o26_29) e29 0 (by decide) (by decide) (by decide) (by decide) rfl pdPr rfl (Nat.le_of_eq rfl) at_242 (pcF := 245) rfl ?_
    intro v30 T30 L30 X30 hQ30
    obtain ⟨pa, pc, rfl, M30, EY30, pm, pA, pz, pg0, pg1⟩ := hQ30
    have N30 := Fr.app N29 M30
    have Z30 : n0 ≤ T30.heap.size := Nat.le_trans Z29 EY30.1
    have EX30 := extTrans EX_29 EY30
    have e30 : T30.heap = T30.heap := rfl
    have arr_o26_30 := arr_o26_29.ext EY30
    have arr_o27_30 := A29.ext EY30
    show Go p e below _ _ (mkF m 245 _ [(.ref pa)])
    refine Go.on (g' := (mkF m 247 #[.val (.long p0), .second, .val (.long p1), .second, .val (.long p2), .second, .val (.int p3), .val (.int u0), .val (.int u1), .val (.int u2), .val (.int u3), .val (.int u4), .val (.int u5), .val (.int (3 : Int32)), .val (.ref o26), .val (.int (2 : Int32)), .val (.int (0 : Int32)), .val (.ref o27), .val (.ref pa)] [])) (fun t_ k_ => XS.astore X30.here hx rfl (hb hby at_245) rfl rfl (l' := #[.val (.long p0), .second, .val (.long p1), .second, .val (.long p2), .second, .val (.int p3), .val (.int u0), .val (.int u1), .val (.int u2), .val (.int u3), .val (.int u4), .val (.int u5), .val (.int (3 : Int32)), .val (.ref o26), .val (.int (2 : Int32)), .val (.int (0 : Int32)), .val (.ref o27), .val (.ref pa)]) rfl k_) ?_
    refine Go.on (g' := (mkF m 249 _ [(.ref pa)])) (fun t_ k_ => XS.aload X30.here hx rfl (hb hby at_247) rfl rfl k_) ?_
    refine Go.on (g' := (mkF m 251 _ [(.ref o27), (.ref pa)])) (fun t_ k_ => XS.aload X30.here hx rfl (hb hby at_249) rfl rfl k_) ?_
    refine Go.callS X30 hx hZ hby (by rw [hml]; rfl) (y := (⟨"com/example/same_shape/sameshape/service/OrderedPairingPairPinLaw", "same", "([I[I)Z"⟩ : MethodName)) hown (hw _ (List.mem_of_getElem? (i := 24) rfl)) (hw _ (List.mem_of_getElem? (i := 25) rfl)) (hw _ (List.mem_of_getElem? (i := 3) rfl)) (hw _ (List.mem_of_getElem? (i := 26) rfl)) (by decide) (argsL := [(.ref pa), (.ref o27)]) (rest := []) (rmSm2 l Z w0 hw [] pa o27 _ _ T30.heap _ pA pz pg0 pg1 _ arr_o27_30 (by simp only [sz_set, sz_new]; decide) rfl rfl) e30 0 (by decide) (by decide) (by decide) (by decide) rfl pdSm rfl (Nat.le_of_eq rfl) at_251 (pcF := 254) rfl ?_
    intro v31 T31 L31 X31 hQ31
    obtain ⟨rfl, rfl, e31⟩ := hQ31
    rw [List.append_nil] at X31
    show Go p e below _ _ (mkF m 254 _ [(.int (1 : Int32))])
    exact Go.retI X31 hx hlk hret hby at_254 rfl (by simp) (by decide) (by decide) ⟨rfl, N30⟩
set_option maxRecDepth 65536 in
set_option maxHeartbeats 40000000 in
theorem comes_1 {Post : Tables → Env → Array Value → State → Outcome → State → Prop} (hpost : ∀ tb e args s v u, (limb_1_1.after args s (.returned v) u = true ∧ limb_1_2.after args s (.returned v) u = true ∧ True) → FrameEnd s (.returned v) u (Jvm.fieldLocs frame_1_writes args s ++ Jvm.arrayLocs frame_1_arrays args s ++ Jvm.staticLocs frame_1_statics s) 16 128 → Post tb e args s (.returned v) u) :
    ArmFor flags0 classFile x code maxLocals ret World_1 tables_1 room_1 Calls_1 rest_1 Pre_1 Post := by
  intro l hfl _ _ p e ha hc hk s m args below hf hA hF happ hP
  obtain ⟨hcalls, hrest, hpre⟩ := hP
  obtain ⟨-, -, -, hnamed, -, -, -, hat⟩ := (Spec.applies_iff hf).mp happ
  obtain ⟨hg, hn⟩ := and_e (Cond.before_iff.mp (show (Jvm.Cond.and given_1 narrow_1).before args s = true from hpre))
  obtain ⟨hcount, hg⟩ := and_e hg
  obtain ⟨g0, hg⟩ := and_e hg
  obtain ⟨g1, hg⟩ := and_e hg
  obtain ⟨g2, hg⟩ := and_e hg
  have g3 := hg
  obtain ⟨w0, w1, w2, w3, rfl⟩ : ∃ w0 w1 w2 w3 : Value, args = #[w0, w1, w2, w3] := by
    have hs : args.size = 4 := by simpa [Cond.value, given_1] using hcount
    obtain ⟨L⟩ := args
    match L, hs with
    | [w0, w1, w2, w3], _ => exact ⟨w0, w1, w2, w3, rfl⟩
  have hw := fun d (hd : d ∈ tables_1) => atoms_spec (ws := Jvm.Cond.code x code maxLocals ret :: tables_1) hat d (List.mem_cons_of_mem _ hd)
  have hfit : Fit s := fun {y c} hc i hi => by
    obtain ⟨ha, rfl⟩ := Array.getElem?_eq_some_iff.mp hc
    have q := List.all_eq_true.mp ((Array.all_eq_true_iff_forall_mem.mp hF) _ (Array.getElem_mem ha)) i (List.mem_range.mpr hi)
    simpa [Array.getElem?_eq_getElem hi] using q
  obtain ⟨i0, ev0⟩ := isL_v g0
  obtain rfl : w0 = (.long i0) := Option.some.inj ev0
  obtain ⟨i1, ev1⟩ := isL_v g1
  obtain rfl : w1 = (.long i1) := Option.some.inj ev1
  obtain ⟨i2, ev2⟩ := isL_v g2
  obtain rfl : w2 = (.long i2) := Option.some.inj ev2
  obtain ⟨i3, ev3⟩ := is_v g3
  obtain rfl : w3 = (.int i3) := Option.some.inj ev3
  obtain ⟨n, o, h1, h2, h3, _, L, rfl, ⟨rfl, N⟩, hq⟩ := rmLaw l s _ hw tables_1 i0 i1 i2 i3 s.heap s.heap.size (Nat.le_refl _)  p e ha hc hk s m _ below hf ((Spec.applies_iff_loose hf).mp happ).1 ⟨rfl, State.Warmed39.refl s, rfl⟩ trivial
  refine ⟨n, _, h1, h2, h3, hpost _ _ _ _ _ _ ⟨Cond.after_iff.mpr rfl, Cond.after_iff.mpr (eq_i res_at (Term.int_eval (1)) rfl), trivial⟩ ⟨hq.1, hq.2.1, (hq.2.2.sift fun y hy => Or.inr (N y hy)).mono (by decide) (by decide)⟩⟩
theorem main_1_1 : Claimed_1_1 := comes_1 fun _ _ _ _ _ _ h hF => ⟨h.1, hF⟩
theorem main_1_2 : Claimed_1_2 := comes_1 fun _ _ _ _ _ _ h hF => ⟨h.2.1, hF⟩

end Jvm.Pilot.@@N@@
namespace Jvm.Pilot.@@N@@
open Jvm Jvm.ClassFile Sem Op Lib Jvm.Free Jvm.Stand Jvm.Pilot.@@N@@.Jvm.D
/-! MADE BY PROGRAM (witnessworld.py) out of the Statement's table words and the real class files: 11 classes; the members and pool entries that the words name. The judged class is class 1, her method 1. -/
namespace start1
open Jvm.ClassFile
def u (s : String) : CpInfo := .utf8 (stringToUtf16 s)
/-- a pool by its gaps: so many unusable entries, then the entry; so many at the end -/
def gap : Nat → List CpInfo → List CpInfo
  | 0, r => r
  | n + 1, r => .unusable :: gap n r
def poolList (es : List (Nat × CpInfo)) (last : Nat) : List CpInfo := es.foldr (fun e r => gap e.1 (e.2 :: r)) (gap last [])
def pool (es : List (Nat × CpInfo)) (last : Nat) : Array CpInfo := ⟨poolList es last⟩
def fileOf (pool : Array CpInfo) (this : Nat) (attrs : Array Attribute := #[]) (ms : Array MethodInfo := #[]) (fl : Nat := 33) (sup : Nat := 0) (ifs : Array Nat := #[]) (fds : Array FieldInfo := #[]) : ClassFile where
  minorVersion := 0
  majorVersion := 65
  constantPool := pool
  accessFlags := fl
  thisClass := this
  superClass := sup
  interfaces := ifs
  fields := fds
  methods := ms
  attributes := attrs
def plain (name : String) (sup : Option ClassId) : Class where
  name := name
  kind := .ordinary
  loader := none
  accessFlags := 33
  super := sup
  interfaces := #[]
  cf := none
  fields := #[]
  methods := #[]
  instanceTypes := #[]
  staticTypes := #[]
  resolved := #[]
  callSites := []
  init := .initialized
  statics := none
  mirror := none

def pool0 : Array CpInfo := pool [(5, u "<init>"), (0, u "()V"), (1, .class_ 10), (1, u "java/lang/Object")] 113

def k0m0 : Method := { name := "<init>", desc := "()V", sig := { parameters := [], returnType := none }, accessFlags := 1, code := none }
/-- java/lang/Object -/
def k0 : Class := { plain "java/lang/Object" none with
  accessFlags := 33
  interfaces := #[]
  cf := some (fileOf pool0 8 #[] #[{ accessFlags := 1, nameIndex := 5, descriptorIndex := 6, attributes := #[] }] 33 0 #[] #[])
  fields := #[]
  methods := #[k0m0]
  instanceTypes := #[]
  staticTypes := #[]
  resolved := Array.replicate 124 none
  statics := none }

def pool1 : Array CpInfo := pool [(2, .class_ 4), (1, u "java/lang/Object"), (0, u "<init>"), (0, u "()V"), (0, .methodref 8 9), (0, .class_ 10), (0, .nameAndType 11 12), (0, u "com/example/same_shape/sameshape/service/OrderedPairingPairPinLaw"), (0, u "full"), (0, u "(IIIIII)[I"), (0, .methodref 8 14), (0, .nameAndType 15 16), (0, u "lastBest"), (0, u "(IIII)I"), (0, .methodref 8 18), (0, .nameAndType 19 20), (0, u "twoByOne"), (0, u "(II)[I"), (0, .methodref 22 23), (0, .class_ 24), (0, .nameAndType 25 26), (0, u "com/example/same_shape/sameshape/service/OrderedPairing"), (0, u "pair"), (0, u "([III)[I"), (0, .methodref 8 28), (0, .nameAndType 29 30), (0, u "same"), (0, u "([I[I)Z"), (0, .methodref 32 33), (0, .class_ 34), (0, .nameAndType 35 36), (0, u "java/lang/Math"), (0, u "max"), (0, u "(II)I"), (0, .methodref 8 38), (0, .nameAndType 39 40), (0, u "pos"), (0, u "(I)I"), (2, u "law"), (0, u "(JJJI)Z")] 5

def k1m0 : Method := { name := "<init>", desc := "()V", sig := { parameters := [], returnType := none }, accessFlags := 2, code := none }
def k1c1 : Code := { maxStack := 7, maxLocals := 19, code := code, exceptionTable := #[], attributes := #[] }
def k1m1 : Method := { name := "law", desc := "(JJJI)Z", sig := { parameters := [.long, .long, .long, .int], returnType := some .boolean }, accessFlags := 9, code := some k1c1 }
def k1c2 : Code := { maxStack := 2, maxLocals := 1, code := method_3_code, exceptionTable := #[], attributes := #[] }
def k1m2 : Method := { name := "pos", desc := "(I)I", sig := { parameters := [.int], returnType := some .int }, accessFlags := 10, code := some k1c2 }
def k1c3 : Code := { maxStack := 3, maxLocals := 8, code := method_4_code, exceptionTable := #[], attributes := #[] }
def k1m3 : Method := { name := "lastBest", desc := "(IIII)I", sig := { parameters := [.int, .int, .int, .int], returnType := some .int }, accessFlags := 10, code := some k1c3 }
def k1c4 : Code := { maxStack := 7, maxLocals := 5, code := method_5_code, exceptionTable := #[], attributes := #[] }
def k1m4 : Method := { name := "twoByOne", desc := "(II)[I", sig := { parameters := [.int, .int], returnType := some (.array .int) }, accessFlags := 10, code := some k1c4 }
def k1c5 : Code := { maxStack := 7, maxLocals := 17, code := method_6_code, exceptionTable := #[], attributes := #[] }
def k1m5 : Method := { name := "full", desc := "(IIIIII)[I", sig := { parameters := [.int, .int, .int, .int, .int, .int], returnType := some (.array .int) }, accessFlags := 10, code := some k1c5 }
def k1c6 : Code := { maxStack := 3, maxLocals := 2, code := method_7_code, exceptionTable := #[], attributes := #[] }
def k1m6 : Method := { name := "same", desc := "([I[I)Z", sig := { parameters := [(.array .int), (.array .int)], returnType := some .boolean }, accessFlags := 10, code := some k1c6 }
/-- com/example/same_shape/sameshape/service/OrderedPairingPairPinLaw -/
def k1 : Class := { plain "com/example/same_shape/sameshape/service/OrderedPairingPairPinLaw" (some 0) with
  accessFlags := 49
  interfaces := #[]
  cf := some (fileOf pool1 8 #[] #[{ accessFlags := 2, nameIndex := 5, descriptorIndex := 6, attributes := #[] }, { accessFlags := 9, nameIndex := 43, descriptorIndex := 44, attributes := #[] }, { accessFlags := 10, nameIndex := 39, descriptorIndex := 40, attributes := #[] }, { accessFlags := 10, nameIndex := 15, descriptorIndex := 16, attributes := #[] }, { accessFlags := 10, nameIndex := 19, descriptorIndex := 20, attributes := #[] }, { accessFlags := 10, nameIndex := 11, descriptorIndex := 12, attributes := #[] }, { accessFlags := 10, nameIndex := 29, descriptorIndex := 30, attributes := #[] }] 49 2 #[] #[])
  fields := #[]
  methods := #[k1m0, k1m1, k1m2, k1m3, k1m4, k1m5, k1m6]
  instanceTypes := #[]
  staticTypes := #[]
  resolved := Array.replicate 50 none
  statics := none }

def pool2 : Array CpInfo := pool [(1, .class_ 2), (0, u "java/lang/Math"), (1, .class_ 6), (1, u "java/lang/Object"), (0, u "<init>"), (0, u "()V"), (89, .class_ 100), (1, u "java/lang/Math$RandomNumberGeneratorHolder"), (71, u "negativeZeroFloatBits"), (0, u "J"), (2, u "negativeZeroDoubleBits"), (21, u "max"), (46, u "$assertionsDisabled"), (0, u "Z"), (88, u "(II)I"), (2, u "twoToTheDoubleScaleDown"), (0, u "D"), (4, u "twoToTheDoubleScaleUp"), (9, u "E"), (3, u "PI"), (2, u "TAU"), (2, u "DEGREES_TO_RADIANS"), (0, u "RADIANS_TO_DEGREES")] 94

def k2m0 : Method := { name := "<init>", desc := "()V", sig := { parameters := [], returnType := none }, accessFlags := 2, code := none }
def k2c1 : Code := { maxStack := 2, maxLocals := 2, code := jdk_29_method_65_code, exceptionTable := #[], attributes := #[] }
def k2m1 : Method := { name := "max", desc := "(II)I", sig := { parameters := [.int, .int], returnType := some .int }, accessFlags := 9, code := some k2c1 }
/-- java/lang/Math -/
def k2 : Class := { plain "java/lang/Math" (some 0) with
  accessFlags := 49
  interfaces := #[]
  cf := some (fileOf pool2 1 #[.nestMembers #[98]] #[{ accessFlags := 2, nameIndex := 7, descriptorIndex := 8, attributes := #[] }, { accessFlags := 9, nameIndex := 198, descriptorIndex := 335, attributes := #[] }] 49 4 #[] #[{ accessFlags := 25, nameIndex := 354, descriptorIndex := 339, attributes := #[] }, { accessFlags := 25, nameIndex := 358, descriptorIndex := 339, attributes := #[] }, { accessFlags := 25, nameIndex := 361, descriptorIndex := 339, attributes := #[] }, { accessFlags := 26, nameIndex := 364, descriptorIndex := 339, attributes := #[] }, { accessFlags := 26, nameIndex := 365, descriptorIndex := 339, attributes := #[] }, { accessFlags := 26, nameIndex := 172, descriptorIndex := 173, attributes := #[] }, { accessFlags := 26, nameIndex := 176, descriptorIndex := 173, attributes := #[] }, { accessFlags := 8, nameIndex := 344, descriptorIndex := 339, attributes := #[] }, { accessFlags := 8, nameIndex := 338, descriptorIndex := 339, attributes := #[] }, { accessFlags := 4120, nameIndex := 245, descriptorIndex := 246, attributes := #[] }])
  fields := #[{ name := "E", type := .double, accessFlags := 25, slot := 0, constantValue := 0 }, { name := "PI", type := .double, accessFlags := 25, slot := 1, constantValue := 0 }, { name := "TAU", type := .double, accessFlags := 25, slot := 2, constantValue := 0 }, { name := "DEGREES_TO_RADIANS", type := .double, accessFlags := 26, slot := 3, constantValue := 0 }, { name := "RADIANS_TO_DEGREES", type := .double, accessFlags := 26, slot := 4, constantValue := 0 }, { name := "negativeZeroFloatBits", type := .long, accessFlags := 26, slot := 5, constantValue := 0 }, { name := "negativeZeroDoubleBits", type := .long, accessFlags := 26, slot := 6, constantValue := 0 }, { name := "twoToTheDoubleScaleUp", type := .double, accessFlags := 8, slot := 7, constantValue := 0 }, { name := "twoToTheDoubleScaleDown", type := .double, accessFlags := 8, slot := 8, constantValue := 0 }, { name := "$assertionsDisabled", type := .boolean, accessFlags := 4120, slot := 9, constantValue := 0 }]
  methods := #[k2m0, k2m1]
  instanceTypes := #[]
  staticTypes := #[.double, .double, .double, .double, .double, .long, .long, .double, .double, .boolean]
  resolved := Array.replicate 460 none
  statics := none }

def pool3 : Array CpInfo := pool [(2, .class_ 4), (1, u "java/lang/Object"), (0, u "<init>"), (0, u "()V"), (0, .methodref 8 9), (0, .class_ 10), (0, .nameAndType 11 12), (0, u "java/lang/Math"), (0, u "max"), (0, u "(II)I"), (0, .methodref 14 15), (0, .class_ 16), (0, .nameAndType 17 18), (0, u "java/util/Arrays"), (0, u "fill"), (0, u "([II)V"), (0, .class_ 20), (0, u "com/example/same_shape/sameshape/service/OrderedPairing"), (1, .class_ 24), (1, u "com/example/same_shape/sameshape/service/OrderedPairing$Pairable"), (2, u "MOST_SKIPPED"), (0, u "I"), (4, u "pair"), (0, u "([III)[I")] 10

def k3m0 : Method := { name := "<init>", desc := "()V", sig := { parameters := [], returnType := none }, accessFlags := 2, code := none }
def k3c1 : Code := { maxStack := 4, maxLocals := 9, code := prog_7_method_2_code, exceptionTable := #[], attributes := #[] }
def k3m1 : Method := { name := "pair", desc := "([III)[I", sig := { parameters := [(.array .int), .int, .int], returnType := some (.array .int) }, accessFlags := 8, code := some k3c1 }
/-- com/example/same_shape/sameshape/service/OrderedPairing -/
def k3 : Class := { plain "com/example/same_shape/sameshape/service/OrderedPairing" (some 0) with
  accessFlags := 48
  interfaces := #[]
  cf := some (fileOf pool3 19 #[.nestMembers #[22]] #[{ accessFlags := 2, nameIndex := 5, descriptorIndex := 6, attributes := #[] }, { accessFlags := 8, nameIndex := 33, descriptorIndex := 34, attributes := #[] }] 48 2 #[] #[{ accessFlags := 24, nameIndex := 27, descriptorIndex := 28, attributes := #[] }])
  fields := #[{ name := "MOST_SKIPPED", type := .int, accessFlags := 24, slot := 0, constantValue := 0 }]
  methods := #[k3m0, k3m1]
  instanceTypes := #[]
  staticTypes := #[.int]
  resolved := Array.replicate 45 none
  statics := none }

def pool4 : Array CpInfo := pool [(2, .class_ 4), (1, u "java/lang/Object"), (0, u "<init>"), (0, u "()V"), (7, .class_ 16), (1, u "java/util/Arrays"), (57, .class_ 76), (1, u "java/util/Arrays$NaturalOrder"), (36, .class_ 115), (1, u "java/util/Arrays$LegacyMergeSort"), (1, u "Z"), (257, .class_ 376), (0, u "java/util/Arrays$ArrayList"), (68, u "$assertionsDisabled"), (269, u "MIN_ARRAY_SORT_GRAN"), (0, u "I"), (2, u "INSERTIONSORT_THRESHOLD"), (120, u "fill"), (4, u "([II)V"), (129, .class_ 976), (0, u "java/util/Arrays$ArrayItr")] 52

def k4m0 : Method := { name := "<init>", desc := "()V", sig := { parameters := [], returnType := none }, accessFlags := 2, code := none }
def k4c1 : Code := { maxStack := 3, maxLocals := 4, code := jdk_65_method_103_code, exceptionTable := #[], attributes := #[] }
def k4m1 : Method := { name := "fill", desc := "([II)V", sig := { parameters := [(.array .int), .int], returnType := none }, accessFlags := 9, code := some k4c1 }
/-- java/util/Arrays -/
def k4 : Class := { plain "java/util/Arrays" (some 0) with
  accessFlags := 49
  interfaces := #[]
  cf := some (fileOf pool4 14 #[.nestMembers #[975, 375, 113, 74]] #[{ accessFlags := 2, nameIndex := 5, descriptorIndex := 6, attributes := #[] }, { accessFlags := 9, nameIndex := 840, descriptorIndex := 845, attributes := #[] }] 49 2 #[] #[{ accessFlags := 26, nameIndex := 715, descriptorIndex := 716, attributes := #[] }, { accessFlags := 26, nameIndex := 719, descriptorIndex := 716, attributes := #[] }, { accessFlags := 4120, nameIndex := 445, descriptorIndex := 117, attributes := #[] }])
  fields := #[{ name := "MIN_ARRAY_SORT_GRAN", type := .int, accessFlags := 26, slot := 0, constantValue := 0 }, { name := "INSERTIONSORT_THRESHOLD", type := .int, accessFlags := 26, slot := 1, constantValue := 0 }, { name := "$assertionsDisabled", type := .boolean, accessFlags := 4120, slot := 2, constantValue := 0 }]
  methods := #[k4m0, k4m1]
  instanceTypes := #[]
  staticTypes := #[.int, .int, .boolean]
  resolved := Array.replicate 1029 none
  statics := none }

def pool5 : Array CpInfo := pool [(1, u "java/lang/Cloneable"), (0, .class_ 1), (0, u "java/lang/Object"), (0, .class_ 3)] 3

/-- java/lang/Cloneable -/
def k5 : Class := { plain "java/lang/Cloneable" (some 0) with
  accessFlags := 1537
  interfaces := #[]
  cf := some (fileOf pool5 2 #[] #[] 1537 4 #[] #[])
  fields := #[]
  methods := #[]
  instanceTypes := #[]
  staticTypes := #[]
  resolved := Array.replicate 8 none
  statics := none }

def pool6 : Array CpInfo := pool [(1, u "java/io/Serializable"), (0, .class_ 1), (0, u "java/lang/Object"), (0, .class_ 3)] 3

/-- java/io/Serializable -/
def k6 : Class := { plain "java/io/Serializable" (some 0) with
  accessFlags := 1537
  interfaces := #[]
  cf := some (fileOf pool6 2 #[] #[] 1537 4 #[] #[])
  fields := #[]
  methods := #[]
  instanceTypes := #[]
  staticTypes := #[]
  resolved := Array.replicate 8 none
  statics := none }

/-- the primitive byte -/
def k7 : Class := { plain "byte" none with kind := .primitive 'B', accessFlags := 0x411 }
/-- [B -/
def k8 : Class := { plain "[B" (some 0) with kind := .array 7 .byte, interfaces := #[5, 6], accessFlags := 1041 }

/-- the primitive int -/
def k9 : Class := { plain "int" none with kind := .primitive 'I', accessFlags := 0x411 }
/-- [I -/
def k10 : Class := { plain "[I" (some 0) with kind := .array 9 .int, interfaces := #[5, 6], accessFlags := 1041 }

def heap : Heap := #[]
def classes : Array Class := #[k0, k1, k2, k3, k4, k5, k6, k7, k8, k9, k10]
def interned : List (Array UInt16 × Addr) := []
def slotsUsed : Nat := 0
def theMethod : MethodId := ⟨1, 1⟩
def args0 : Array Value := #[.long 5, .long 7, .long 9, .int 2]
def aboutOver (below : List Frame) : State where
  vm := { classes := classes, interned := interned.toArray }
  heap := heap
  slotsUsed := slotsUsed
  threads := #[{ frames := .invoking theMethod args0 :: below }]
def below0 : List Frame := [.native { method := ⟨0, 0⟩, args := #[] }]
def about1 : State := aboutOver below0
def p0 : Program := .bare "" "" ""
def e0 : Env := launch0.env 0 0 0
theorem w_frames : about1.frames = Frame.invoking theMethod args0 :: below0 := rfl
set_option maxRecDepth 65536 in
theorem w_args : argsFit about1.vm theMethod args0 = true := by decide +kernel
set_option maxRecDepth 65536 in
theorem w_heap : heapFits about1 = true := by decide +kernel
set_option maxRecDepth 65536 in
theorem w_runnable : about1.curStatus? = some .runnable := by decide +kernel
set_option maxRecDepth 65536 in
theorem w_alone : about1.alone = true := by decide +kernel
set_option maxRecDepth 65536 in
theorem w_named : about1.methodNamed? x = some theMethod := by decide +kernel
set_option maxRecDepth 65536 in
theorem w_hears : about1.hears theMethod below0 = true := by decide +kernel
set_option maxRecDepth 65536 in
theorem w_ripe : about1.ripe theMethod args0 below0 = true := by decide +kernel
theorem w_running : about1.status = .running := rfl
set_option maxRecDepth 65536 in
theorem w_room : about1.hasRoom e0.platform room_1 = true :=
  launch0.hasRoom_least _ room_1 (by decide +kernel) (by decide +kernel) (by decide +kernel) (by decide +kernel) (by decide +kernel) (by decide +kernel)
theorem allAtoms_all (ts : List Jvm.Cond) (a : Array Jvm.Value) (st : Jvm.State) : (allAtoms ts).before a st = ts.all (fun c => c.before a st) := by
  induction ts with
  | nil => rfl
  | cons c t ih =>
    show (Jvm.Cond.and c (allAtoms t)).before a st = _
    rw [Jvm.Cond.before_and, ih, List.all_cons]
def words1 : List Jvm.Cond := Jvm.Cond.code x code maxLocals ret :: tables_1
/-- a 'code' word, met by the world's own term for the bytes: nothing is compared byte by byte -/
theorem code_word {y : MethodName} {bytes : ByteArray} {mx : Nat} {rt : Option FieldType} {a : Array Value} {s : State} {m : MethodId} {meth : Method} {c : Code} (h1 : s.methodNamed? y = some m) (h2 : s.vm.method? m = some meth) (h3 : meth.code = some c) (h4 : c.code = bytes)
    (h5 : (c.maxLocals == mx && c.exceptionTable.isEmpty && decide (c.maxStack ≤ mostOperands) && decide (meth.sig.returnType = rt) && !meth.locks && decide (parseMethodDescriptor y.desc = some meth.sig)) = true) : (Jvm.Cond.code y bytes mx rt).before a s = true := by
  simp only [Bool.and_eq_true, beq_iff_eq, Bool.not_eq_true', decide_eq_true_eq] at h5
  obtain ⟨⟨⟨⟨⟨g1, g2⟩, g3⟩, g4⟩, g5⟩, g6⟩ := h5
  simp [Cond.before, Cond.holds, Cond.value, h1, h2, h3, h4, g1, g2, g3, g4, g5, g6]
def isCode : Jvm.Cond → Bool
  | .code _ _ _ _ => true
  | _ => false
theorem all_split {L : List Jvm.Cond} {P : Jvm.Cond → Bool} (h1 : L.all (fun c => isCode c || P c) = true) (h2 : ∀ c ∈ L.filter isCode, P c = true) : L.all P = true := by
  refine List.all_eq_true.mpr fun c hc => ?_
  have h := List.all_eq_true.mp h1 c hc
  rcases Bool.eq_false_or_eq_true (isCode c) with hi | hi
  · exact h2 c (List.mem_filter.mpr ⟨hc, hi⟩)
  · simpa [hi] using h
set_option maxRecDepth 65536 in
theorem w_c0 : (Jvm.Cond.code x code maxLocals ret).before args0 about1 = true := code_word (m := ⟨1, 1⟩) (meth := k1m1) (c := k1c1) (by decide +kernel) rfl rfl rfl (by decide +kernel)
set_option maxRecDepth 65536 in
theorem w_c1 : (Jvm.Cond.code ({ cls := "com/example/same_shape/sameshape/service/OrderedPairingPairPinLaw", name := "twoByOne", desc := "(II)[I" } : Jvm.MethodName) method_5_code (5 : Nat) (Option.some (Jvm.ClassFile.FieldType.array Jvm.ClassFile.FieldType.int))).before args0 about1 = true := code_word (m := ⟨1, 4⟩) (meth := k1m4) (c := k1c4) (by decide +kernel) rfl rfl rfl (by decide +kernel)
set_option maxRecDepth 65536 in
theorem w_c2 : (Jvm.Cond.code ({ cls := "com/example/same_shape/sameshape/service/OrderedPairingPairPinLaw", name := "pos", desc := "(I)I" } : Jvm.MethodName) method_3_code (1 : Nat) (Option.some Jvm.ClassFile.FieldType.int)).before args0 about1 = true := code_word (m := ⟨1, 2⟩) (meth := k1m2) (c := k1c2) (by decide +kernel) rfl rfl rfl (by decide +kernel)
set_option maxRecDepth 65536 in
theorem w_c3 : (Jvm.Cond.code ({ cls := "java/lang/Math", name := "max", desc := "(II)I" } : Jvm.MethodName) jdk_29_method_65_code (2 : Nat) (Option.some Jvm.ClassFile.FieldType.int)).before args0 about1 = true := code_word (m := ⟨2, 1⟩) (meth := k2m1) (c := k2c1) (by decide +kernel) rfl rfl rfl (by decide +kernel)
set_option maxRecDepth 65536 in
theorem w_c4 : (Jvm.Cond.code ({ cls := "com/example/same_shape/sameshape/service/OrderedPairingPairPinLaw", name := "lastBest", desc := "(IIII)I" } : Jvm.MethodName) method_4_code (8 : Nat) (Option.some Jvm.ClassFile.FieldType.int)).before args0 about1 = true := code_word (m := ⟨1, 3⟩) (meth := k1m3) (c := k1c3) (by decide +kernel) rfl rfl rfl (by decide +kernel)
set_option maxRecDepth 65536 in
theorem w_c5 : (Jvm.Cond.code ({ cls := "com/example/same_shape/sameshape/service/OrderedPairing", name := "pair", desc := "([III)[I" } : Jvm.MethodName) prog_7_method_2_code (9 : Nat) (Option.some (Jvm.ClassFile.FieldType.array Jvm.ClassFile.FieldType.int))).before args0 about1 = true := code_word (m := ⟨3, 1⟩) (meth := k3m1) (c := k3c1) (by decide +kernel) rfl rfl rfl (by decide +kernel)
set_option maxRecDepth 65536 in
theorem w_c6 : (Jvm.Cond.code ({ cls := "java/util/Arrays", name := "fill", desc := "([II)V" } : Jvm.MethodName) jdk_65_method_103_code (4 : Nat) (Option.none : Option Jvm.ClassFile.FieldType)).before args0 about1 = true := code_word (m := ⟨4, 1⟩) (meth := k4m1) (c := k4c1) (by decide +kernel) rfl rfl rfl (by decide +kernel)
set_option maxRecDepth 65536 in
theorem w_c7 : (Jvm.Cond.code ({ cls := "com/example/same_shape/sameshape/service/OrderedPairingPairPinLaw", name := "same", desc := "([I[I)Z" } : Jvm.MethodName) method_7_code (2 : Nat) (Option.some Jvm.ClassFile.FieldType.boolean)).before args0 about1 = true := code_word (m := ⟨1, 6⟩) (meth := k1m6) (c := k1c6) (by decide +kernel) rfl rfl rfl (by decide +kernel)
set_option maxRecDepth 65536 in
theorem w_c8 : (Jvm.Cond.code ({ cls := "com/example/same_shape/sameshape/service/OrderedPairingPairPinLaw", name := "full", desc := "(IIIIII)[I" } : Jvm.MethodName) method_6_code (17 : Nat) (Option.some (Jvm.ClassFile.FieldType.array Jvm.ClassFile.FieldType.int))).before args0 about1 = true := code_word (m := ⟨1, 5⟩) (meth := k1m5) (c := k1c5) (by decide +kernel) rfl rfl rfl (by decide +kernel)
def codes1 : List Jvm.Cond := [Jvm.Cond.code x code maxLocals ret, Jvm.Cond.code ({ cls := "com/example/same_shape/sameshape/service/OrderedPairingPairPinLaw", name := "twoByOne", desc := "(II)[I" } : Jvm.MethodName) method_5_code (5 : Nat) (Option.some (Jvm.ClassFile.FieldType.array Jvm.ClassFile.FieldType.int)), Jvm.Cond.code ({ cls := "com/example/same_shape/sameshape/service/OrderedPairingPairPinLaw", name := "pos", desc := "(I)I" } : Jvm.MethodName) method_3_code (1 : Nat) (Option.some Jvm.ClassFile.FieldType.int), Jvm.Cond.code ({ cls := "java/lang/Math", name := "max", desc := "(II)I" } : Jvm.MethodName) jdk_29_method_65_code (2 : Nat) (Option.some Jvm.ClassFile.FieldType.int), Jvm.Cond.code ({ cls := "com/example/same_shape/sameshape/service/OrderedPairingPairPinLaw", name := "lastBest", desc := "(IIII)I" } : Jvm.MethodName) method_4_code (8 : Nat) (Option.some Jvm.ClassFile.FieldType.int), Jvm.Cond.code ({ cls := "com/example/same_shape/sameshape/service/OrderedPairing", name := "pair", desc := "([III)[I" } : Jvm.MethodName) prog_7_method_2_code (9 : Nat) (Option.some (Jvm.ClassFile.FieldType.array Jvm.ClassFile.FieldType.int)), Jvm.Cond.code ({ cls := "java/util/Arrays", name := "fill", desc := "([II)V" } : Jvm.MethodName) jdk_65_method_103_code (4 : Nat) (Option.none : Option Jvm.ClassFile.FieldType), Jvm.Cond.code ({ cls := "com/example/same_shape/sameshape/service/OrderedPairingPairPinLaw", name := "same", desc := "([I[I)Z" } : Jvm.MethodName) method_7_code (2 : Nat) (Option.some Jvm.ClassFile.FieldType.boolean), Jvm.Cond.code ({ cls := "com/example/same_shape/sameshape/service/OrderedPairingPairPinLaw", name := "full", desc := "(IIIIII)[I" } : Jvm.MethodName) method_6_code (17 : Nat) (Option.some (Jvm.ClassFile.FieldType.array Jvm.ClassFile.FieldType.int))]
set_option maxRecDepth 65536 in
theorem codes_eq : words1.filter isCode = codes1 := rfl
theorem w_codes : ∀ c ∈ words1.filter isCode, c.before args0 about1 = true := by
  rw [codes_eq]
  intro c hc
  simp only [codes1, List.mem_cons, List.not_mem_nil, or_false] at hc
  rcases hc with rfl | rfl | rfl | rfl | rfl | rfl | rfl | rfl | rfl
  · exact w_c0
  · exact w_c1
  · exact w_c2
  · exact w_c3
  · exact w_c4
  · exact w_c5
  · exact w_c6
  · exact w_c7
  · exact w_c8
set_option maxRecDepth 65536 in
theorem w_t1 : (words1.take 24).all (fun c => isCode c || c.before args0 about1) = true := by decide +kernel
set_option maxRecDepth 65536 in
theorem w_t2 : (words1.drop 24).all (fun c => isCode c || c.before args0 about1) = true := by decide +kernel
theorem w_tables : (allAtoms (Jvm.Cond.code x code maxLocals ret :: tables_1)).before args0 about1 = true := by
  rw [allAtoms_all]
  show words1.all (fun c => c.before args0 about1) = true
  refine all_split ?_ w_codes
  rw [← List.take_append_drop 24 words1, List.all_append, w_t1, w_t2]
  rfl
set_option maxRecDepth 65536 in
theorem w_case : (Jvm.Cond.and given_1 narrow_1).before args0 about1 = true := by decide +kernel
theorem w_applies : (headSpec (Jvm.Cond.code x code maxLocals ret :: tables_1) room_1).applies x e0.platform about1 = true :=
  (Spec.applies_iff w_frames).mpr ⟨w_running, w_runnable, w_alone, w_named, w_hears, w_ripe, w_room, w_tables⟩
theorem atStart : AtStart classFile x code maxLocals ret World_1 tables_1 room_1 Calls_1 rest_1 Pre_1 launch0 p0 e0 about1 theMethod args0 below0 :=
  ⟨lists_1, trivial, launch0.admits_env _ _ _, launch0.least_env, fairChoices_fair.cas, fairChoices_fair.clock, w_frames, w_args, w_heap, w_applies, trivial, trivial, w_case⟩
end start1
theorem witness_1 : WitnessClaimed_1 := ⟨start1.p0, start1.e0, start1.about1, start1.theMethod, start1.args0, start1.below0, start1.atStart⟩
end Jvm.Pilot.@@N@@
