import JvmDerived
import JvmDerived.Pilot.@@N@@Statement
import JvmDerived.Pilot.@@N@@Code
set_option linter.unusedVariables false
set_option linter.unusedSimpArgs false
namespace Jvm.Pilot.@@N@@
open Jvm Jvm.ClassFile Sem Op Lib Jvm.Free Jvm.Stand Jvm.LawKit Jvm.RoadKit Bundle Jvm.Pilot.@@N@@.Jvm.D
section Own
/-- from any state that stands at this heap, pc, locals and stack the run comes to an end that Q takes -/
def Wk (l : Launch) (Z : State) (n0 : Nat) (own nm : String) (bytes : ByteArray) (maxL : Nat) (ret : Option FieldType) (R : Room) (kc ks : Nat) (Q : Option Value → Heap → Prop) (h : Heap) (cl sl pc : Nat) (ls : Array Slot) (st : List Value) : Prop :=
  ∀ (p : Program) (e : Env) (s : State) (m : MethodId) (args : Array Value) (below : List Frame) (meth : Method) (c : Code) (T : State) (locs : List Loc),
    p.tables.exec = Jvm.exec → c.code = bytes → c.maxLocals = maxL → s.vm.findClass own = some m.cls → meth.name = nm → meth.sig.returnType = ret → meth.locks = false → Z.Warmed39 s.vm →
    Stand p l e R s m args below meth c T locs cl sl → T.heap = h → Fr n0 locs →
    ∃ s₂ o, Steps p.tables e below (T.setTop (mkF m pc ls st)) s₂ ∧ s₂.status = .running ∧ Ended s₂ below o ∧ ∃ v L, o = .returned v ∧ (Fr n0 L ∧ Q v s₂.heap) ∧ FrameEnd s o s₂ L kc ks
/-- a method's contract: from heap h, with the arguments as', it returns as Q says; new places alone are written -/
def Met (l : Launch) (Z : State) (n0 : Nat) (y : MethodName) (bytes : ByteArray) (maxL : Nat) (ret : Option FieldType) (rm : Room) (as' : Array Value) (h : Heap) (Q : Option Value → Heap → Prop) : Prop :=
  ∀ ws : List Jvm.Cond, MetFree l y (head1 (Jvm.Cond.code y bytes maxL ret :: ws) rm) (fun a U => a = as' ∧ Z.Warmed39 U.vm ∧ U.heap = h) (fun _ _ _ _ _ => True) (fun _ U o U' => ∃ v L, o = .returned v ∧ (Fr n0 L ∧ Q v U'.heap) ∧ FrameEnd U o U' L rm.cells rm.slots)
def icP : ClassFile.Cond → Int32 → Int32 → Prop
  | .eq, x, y => x = y | .ne, x, y => ¬ x = y | .lt, x, y => x < y | .ge, x, y => ¬ x < y | .gt, x, y => y < x | .le, x, y => ¬ y < x
def icN : ClassFile.Cond → Int32 → Int32 → Prop
  | .eq, x, y => ¬ x = y | .ne, x, y => x = y | .lt, x, y => ¬ x < y | .ge, x, y => x < y | .gt, x, y => ¬ y < x | .le, x, y => y < x
def acP : ACond → Value → Value → Prop
  | .eq, x, y => x = y | .ne, x, y => ¬ x = y
def acN : ACond → Value → Value → Prop
  | .eq, x, y => ¬ x = y | .ne, x, y => x = y
theorem ic_t {cd : ClassFile.Cond} {x y : Int32} (q : icP cd x y) : if_icmp.holds cd x y = true := by
  cases cd
  · exact (teq q).1
  · exact (feq q).2
  · exact (tlt q).1
  · exact (flt q).2.1
  · exact (tlt q).2.2.1
  · exact (flt q).2.2.2
theorem ic_f {cd : ClassFile.Cond} {x y : Int32} (q : icN cd x y) : if_icmp.holds cd x y = false := by
  cases cd
  · exact (feq q).1
  · exact (teq q).2
  · exact (flt q).1
  · exact (tlt q).2.1
  · exact (flt q).2.2.1
  · exact (tlt q).2.2.2
theorem ic_or (cd : ClassFile.Cond) (x y : Int32) : icP cd x y ∨ icN cd x y := by
  cases cd <;> simp only [icP, icN] <;> first | exact Decidable.em _ | exact (Decidable.em _).symm
theorem ac_t {cd : ACond} {x y : Value} (q : acP cd x y) : XT.acmp cd x y = true := by
  cases cd
  · exact decide_eq_true (show x = y from q)
  · exact decide_eq_true (show x ≠ y from q)
theorem ac_f {cd : ACond} {x y : Value} (q : acN cd x y) : XT.acmp cd x y = false := by
  cases cd
  · exact decide_eq_false (show ¬ x = y from q)
  · exact decide_eq_false (fun z : x ≠ y => z q)
theorem ac_or (cd : ACond) (x y : Value) : acP cd x y ∨ acN cd x y := by
  cases cd <;> simp only [acP, acN] <;> first | exact Classical.em _ | exact (Classical.em _).symm
variable {l : Launch} {Z : State} {a0 : Array Value} {n0 : Nat} {own nm : String} {bytes : ByteArray} {maxL : Nat} {ret : Option FieldType} {R : Room} {kc ks : Nat} {Q : Option Value → Heap → Prop} {h : Heap} {cl sl pc q : Nat} {ls ls' : Array Slot} {st st' rest : List Value}
theorem Met.mono {y : MethodName} {rm : Room} {as' : Array Value} {Q' : Option Value → Heap → Prop} (M : Met l Z n0 y bytes maxL ret rm as' h Q) (f : ∀ v h', Q v h' → Q' v h') : Met l Z n0 y bytes maxL ret rm as' h Q' := fun ws p e a1 a2 a3 s m args below b1 b2 b3 b4 => by
  obtain ⟨n, o, c1, c2, c3, v, L, c4, c5, c6⟩ := M ws p e a1 a2 a3 s m args below b1 b2 b3 b4
  exact ⟨n, o, c1, c2, c3, v, L, c4, ⟨c5.1, f _ _ c5.2⟩, c6⟩
theorem Met.of_wk {y : MethodName} {rm : Room} {as' : Array Value} (hp : plainFor y = true) (he : ∀ m, entryFrame m as' maxL = mkF m 0 ls []) (k : Wk l Z n0 y.cls y.name bytes maxL ret rm rm.cells rm.slots Q h 0 0 0 ls []) : Met l Z n0 y bytes maxL ret rm as' h Q := by
  intro ws
  refine MetFree.of_bodySF hp hisR ?_
  intro p e s m args below meth c s₁ Bd hml0 hP hK
  obtain ⟨rfl, hZ, hh⟩ := hP
  have X0 : Stand p l e rm s m args below meth c s₁ [] 0 0 := Stand.of_body Bd
  have e0 : s₁.heap = h := by rw [← hh, Bd.state]; rfl
  rw [he m]
  exact k p e s m _ below meth c s₁ [] Bd.exec Bd.bytes hml0 (findClass_of_methodNamed Bd.named) (name_of_methodNamed Bd.named Bd.method).1 Bd.returns Bd.notSynchronized hZ X0 e0 (Fr.nil n0)
theorem Wk.step (hs : ∀ {p : Program} {e : Env} {s : State} {m : MethodId} {args : Array Value} {below : List Frame} {meth : Method} {c : Code} {T : State} {locs : List Loc}, p.tables.exec = Jvm.exec → c.code = bytes → s.vm.findClass own = some m.cls → Z.Warmed39 s.vm → Stand p l e R s m args below meth c T locs cl sl → T.heap = h →
      ∀ target, Steps p.tables e below (T.setTop (mkF m q ls' st')) target → Steps p.tables e below (T.setTop (mkF m pc ls st)) target)
    (k : Wk l Z n0 own nm bytes maxL ret R kc ks Q h cl sl q ls' st') : Wk l Z n0 own nm bytes maxL ret R kc ks Q h cl sl pc ls st := by
  intro p e s m args below meth c T locs hx hby hml hown hnm hret hlk hZ X eT N
  obtain ⟨s₂, o, h1, r⟩ := k p e s m args below meth c T locs hx hby hml hown hnm hret hlk hZ X eT N
  exact ⟨s₂, o, hs hx hby hown hZ X eT _ h1, r⟩
theorem Wk.stepW (hs : ∀ {p : Program} {e : Env} {s : State} {m : MethodId} {args : Array Value} {below : List Frame} {meth : Method} {c : Code} {T : State} {locs : List Loc}, p.tables.exec = Jvm.exec → c.code = bytes → s.vm.findClass own = some m.cls → Z.Warmed39 s.vm → Stand p l e R s m args below meth c T locs cl sl → T.heap = h →
      ∃ T', Stand p l e R s m args below meth c T' locs cl sl ∧ T'.heap = h ∧ ∀ target, Steps p.tables e below (T'.setTop (mkF m q ls' st')) target → Steps p.tables e below (T.setTop (mkF m pc ls st)) target)
    (k : Wk l Z n0 own nm bytes maxL ret R kc ks Q h cl sl q ls' st') : Wk l Z n0 own nm bytes maxL ret R kc ks Q h cl sl pc ls st := by
  intro p e s m args below meth c T locs hx hby hml hown hnm hret hlk hZ X eT N
  obtain ⟨T', X', eT', st⟩ := hs hx hby hown hZ X eT
  obtain ⟨s₂, o, h1, r⟩ := k p e s m args below meth c T' locs hx hby hml hown hnm hret hlk hZ X' eT' N
  exact ⟨s₂, o, st _ h1, r⟩
theorem Wk.iloadN {i : Fin 4} {v : Int32} (hd : decode bytes pc = .ok (.iload_n i, 1)) (hq : pc + 1 = q) (hl : ls[i.val]? = some (.val (.int v))) (k : Wk l Z n0 own nm bytes maxL ret R kc ks Q h cl sl q ls (.int v :: st)) : Wk l Z n0 own nm bytes maxL ret R kc ks Q h cl sl pc ls st := by
  subst hq; exact Wk.step (fun hx hby _ _ X _ _ k => XS.iloadN X.here hx rfl (hb hby hd) hl k) k
theorem Wk.iload {i : Nat} {v : Int32} (hd : decode bytes pc = .ok (.iload i, 2)) (hq : pc + 2 = q) (hl : ls[i]? = some (.val (.int v))) (k : Wk l Z n0 own nm bytes maxL ret R kc ks Q h cl sl q ls (.int v :: st)) : Wk l Z n0 own nm bytes maxL ret R kc ks Q h cl sl pc ls st := by
  subst hq; exact Wk.step (fun hx hby _ _ X _ _ k => XS.iload X.here hx rfl (hb hby hd) hl k) k
theorem Wk.lloadN {i : Fin 4} {v : Int64} (hd : decode bytes pc = .ok (.lload_n i, 1)) (hq : pc + 1 = q) (hl : ls[i.val]? = some (.val (.long v))) (k : Wk l Z n0 own nm bytes maxL ret R kc ks Q h cl sl q ls (.long v :: st)) : Wk l Z n0 own nm bytes maxL ret R kc ks Q h cl sl pc ls st := by
  subst hq; exact Wk.step (fun hx hby _ _ X _ _ k => XT.lloadN X.here hx rfl (hb hby hd) hl k) k
theorem Wk.lload {i : Nat} {v : Int64} (hd : decode bytes pc = .ok (.lload i, 2)) (hq : pc + 2 = q) (hl : ls[i]? = some (.val (.long v))) (k : Wk l Z n0 own nm bytes maxL ret R kc ks Q h cl sl q ls (.long v :: st)) : Wk l Z n0 own nm bytes maxL ret R kc ks Q h cl sl pc ls st := by
  subst hq; exact Wk.step (fun hx hby _ _ X _ _ k => XT.lload X.here hx rfl (hb hby hd) hl k) k
theorem Wk.aloadN {i : Fin 4} {v : Value} (hd : decode bytes pc = .ok (.aload_n i, 1)) (hq : pc + 1 = q) (hl : ls[i.val]? = some (.val v)) (hv : v.isRef = true) (k : Wk l Z n0 own nm bytes maxL ret R kc ks Q h cl sl q ls (v :: st)) : Wk l Z n0 own nm bytes maxL ret R kc ks Q h cl sl pc ls st := by
  subst hq; exact Wk.step (fun hx hby _ _ X _ _ k => XS.aloadN X.here hx rfl (hb hby hd) hl hv k) k
theorem Wk.aload {i : Nat} {v : Value} (hd : decode bytes pc = .ok (.aload i, 2)) (hq : pc + 2 = q) (hl : ls[i]? = some (.val v)) (hv : v.isRef = true) (k : Wk l Z n0 own nm bytes maxL ret R kc ks Q h cl sl q ls (v :: st)) : Wk l Z n0 own nm bytes maxL ret R kc ks Q h cl sl pc ls st := by
  subst hq; exact Wk.step (fun hx hby _ _ X _ _ k => XS.aload X.here hx rfl (hb hby hd) hl hv k) k
theorem Wk.istoreN {i : Fin 4} {v : Int32} (hd : decode bytes pc = .ok (.istore_n i, 1)) (hq : pc + 1 = q) (hl : storeLocals ls i.val (.int v) = some ls') (k : Wk l Z n0 own nm bytes maxL ret R kc ks Q h cl sl q ls' st) : Wk l Z n0 own nm bytes maxL ret R kc ks Q h cl sl pc ls (.int v :: st) := by
  subst hq; exact Wk.step (fun hx hby _ _ X _ _ k => XS.istoreN X.here hx rfl (hb hby hd) rfl hl k) k
theorem Wk.istore {i : Nat} {v : Int32} (hd : decode bytes pc = .ok (.istore i, 2)) (hq : pc + 2 = q) (hl : storeLocals ls i (.int v) = some ls') (k : Wk l Z n0 own nm bytes maxL ret R kc ks Q h cl sl q ls' st) : Wk l Z n0 own nm bytes maxL ret R kc ks Q h cl sl pc ls (.int v :: st) := by
  subst hq; exact Wk.step (fun hx hby _ _ X _ _ k => XS.istore X.here hx rfl (hb hby hd) rfl hl k) k
theorem Wk.lstoreN {i : Fin 4} {v : Int64} (hd : decode bytes pc = .ok (.lstore_n i, 1)) (hq : pc + 1 = q) (hl : storeLocals ls i.val (.long v) = some ls') (k : Wk l Z n0 own nm bytes maxL ret R kc ks Q h cl sl q ls' st) : Wk l Z n0 own nm bytes maxL ret R kc ks Q h cl sl pc ls (.long v :: st) := by
  subst hq; exact Wk.step (fun hx hby _ _ X _ _ k => XT.lstoreN X.here hx rfl (hb hby hd) rfl hl k) k
theorem Wk.lstore {i : Nat} {v : Int64} (hd : decode bytes pc = .ok (.lstore i, 2)) (hq : pc + 2 = q) (hl : storeLocals ls i (.long v) = some ls') (k : Wk l Z n0 own nm bytes maxL ret R kc ks Q h cl sl q ls' st) : Wk l Z n0 own nm bytes maxL ret R kc ks Q h cl sl pc ls (.long v :: st) := by
  subst hq; exact Wk.step (fun hx hby _ _ X _ _ k => XT.lstore X.here hx rfl (hb hby hd) rfl hl k) k
theorem Wk.astoreN {i : Fin 4} {v : Value} (hd : decode bytes pc = .ok (.astore_n i, 1)) (hq : pc + 1 = q) (hv : v.isRef = true) (hl : storeLocals ls i.val v = some ls') (k : Wk l Z n0 own nm bytes maxL ret R kc ks Q h cl sl q ls' st) : Wk l Z n0 own nm bytes maxL ret R kc ks Q h cl sl pc ls (v :: st) := by
  subst hq; exact Wk.step (fun hx hby _ _ X _ _ k => XS.astoreN X.here hx rfl (hb hby hd) rfl hv hl k) k
theorem Wk.astore {i : Nat} {v : Value} (hd : decode bytes pc = .ok (.astore i, 2)) (hq : pc + 2 = q) (hv : v.isRef = true) (hl : storeLocals ls i v = some ls') (k : Wk l Z n0 own nm bytes maxL ret R kc ks Q h cl sl q ls' st) : Wk l Z n0 own nm bytes maxL ret R kc ks Q h cl sl pc ls (v :: st) := by
  subst hq; exact Wk.step (fun hx hby _ _ X _ _ k => XS.astore X.here hx rfl (hb hby hd) rfl hv hl k) k
theorem Wk.iconst {i : Int} {v : Int32} (hd : decode bytes pc = .ok (.iconst i, 1)) (hq : pc + 1 = q) (hv : Int32.ofInt i = v) (k : Wk l Z n0 own nm bytes maxL ret R kc ks Q h cl sl q ls (.int v :: st)) : Wk l Z n0 own nm bytes maxL ret R kc ks Q h cl sl pc ls st := by
  subst hq hv; exact Wk.step (fun hx hby _ _ X _ _ k => XS.iconst X.here hx rfl (hb hby hd) k) k
theorem Wk.bipush {i : Int} {v : Int32} (hd : decode bytes pc = .ok (.bipush i, 2)) (hq : pc + 2 = q) (hv : (Int8.ofInt i).toInt32 = v) (k : Wk l Z n0 own nm bytes maxL ret R kc ks Q h cl sl q ls (.int v :: st)) : Wk l Z n0 own nm bytes maxL ret R kc ks Q h cl sl pc ls st := by
  subst hq hv; exact Wk.step (fun hx hby _ _ X _ _ k => XS.bipush X.here hx rfl (hb hby hd) k) k
theorem Wk.sipush {i : Int} {v : Int32} (hd : decode bytes pc = .ok (.sipush i, 3)) (hq : pc + 3 = q) (hv : (Int16.ofInt i).toInt32 = v) (k : Wk l Z n0 own nm bytes maxL ret R kc ks Q h cl sl q ls (.int v :: st)) : Wk l Z n0 own nm bytes maxL ret R kc ks Q h cl sl pc ls st := by
  subst hq hv; exact Wk.step (fun hx hby _ _ X _ _ k => XS.sipush X.here hx rfl (hb hby hd) k) k
theorem Wk.lconst {i : Fin 2} {v : Int64} (hd : decode bytes pc = .ok (.lconst i, 1)) (hq : pc + 1 = q) (hv : Int64.ofNat i = v) (k : Wk l Z n0 own nm bytes maxL ret R kc ks Q h cl sl q ls (.long v :: st)) : Wk l Z n0 own nm bytes maxL ret R kc ks Q h cl sl pc ls st := by
  subst hq hv; exact Wk.step (fun hx hby _ _ X _ _ k => XT.lconst X.here hx rfl (hb hby hd) k) k
theorem Wk.null  (hd : decode bytes pc = .ok (.aconst_null, 1)) (hq : pc + 1 = q)  (k : Wk l Z n0 own nm bytes maxL ret R kc ks Q h cl sl q ls (.null :: st)) : Wk l Z n0 own nm bytes maxL ret R kc ks Q h cl sl pc ls st := by
  subst hq; exact Wk.step (fun hx hby _ _ X _ _ k => XS.aconstNull X.here hx rfl (hb hby hd) k) k
theorem Wk.ldcI {i : Nat} {v : Int32} (w : (Jvm.Cond.constant own i v).before a0 Z = true) (hd : decode bytes pc = .ok (.ldc i, 2)) (hq : pc + 2 = q) (k : Wk l Z n0 own nm bytes maxL ret R kc ks Q h cl sl q ls (.int v :: st)) : Wk l Z n0 own nm bytes maxL ret R kc ks Q h cl sl pc ls st := by
  subst hq; exact Wk.step (fun hx hby hown hZ X _ t k => X.ldcInt hx hown (mv hZ w) (g := mkF _ pc ls st) rfl (hb hby hd) t k) k
theorem Wk.ldc2 {i : Nat} {v : Int64} (w : (Jvm.Cond.constantLong own i v).before a0 Z = true) (hd : decode bytes pc = .ok (.ldc2_w i, 3)) (hq : pc + 3 = q) (k : Wk l Z n0 own nm bytes maxL ret R kc ks Q h cl sl q ls (.long v :: st)) : Wk l Z n0 own nm bytes maxL ret R kc ks Q h cl sl pc ls st := by
  subst hq; exact Wk.step (fun hx hby hown hZ X _ t k => X.ldc2Long hx hown (mv hZ w) (g := mkF _ pc ls st) rfl (hb hby hd) t k) k
theorem Wk.iadd {x y v : Int32} (hd : decode bytes pc = .ok (.iadd, 1)) (hq : pc + 1 = q) (hv : x + y = v) (k : Wk l Z n0 own nm bytes maxL ret R kc ks Q h cl sl q ls (.int v :: st)) : Wk l Z n0 own nm bytes maxL ret R kc ks Q h cl sl pc ls (.int y :: .int x :: st) := by
  subst hq hv; exact Wk.step (fun hx hby _ _ X _ _ k => XS.iadd X.here hx rfl (hb hby hd) rfl k) k
theorem Wk.isub {x y v : Int32} (hd : decode bytes pc = .ok (.isub, 1)) (hq : pc + 1 = q) (hv : x - y = v) (k : Wk l Z n0 own nm bytes maxL ret R kc ks Q h cl sl q ls (.int v :: st)) : Wk l Z n0 own nm bytes maxL ret R kc ks Q h cl sl pc ls (.int y :: .int x :: st) := by
  subst hq hv; exact Wk.step (fun hx hby _ _ X _ _ k => XS.isub X.here hx rfl (hb hby hd) rfl k) k
theorem Wk.iand {x y v : Int32} (hd : decode bytes pc = .ok (.iand, 1)) (hq : pc + 1 = q) (hv : x &&& y = v) (k : Wk l Z n0 own nm bytes maxL ret R kc ks Q h cl sl q ls (.int v :: st)) : Wk l Z n0 own nm bytes maxL ret R kc ks Q h cl sl pc ls (.int y :: .int x :: st) := by
  subst hq hv; exact Wk.step (fun hx hby _ _ X _ _ k => XS.iand X.here hx rfl (hb hby hd) rfl k) k
theorem Wk.imul {x y v : Int32} (hd : decode bytes pc = .ok (.imul, 1)) (hq : pc + 1 = q) (hv : x * y = v) (k : Wk l Z n0 own nm bytes maxL ret R kc ks Q h cl sl q ls (.int v :: st)) : Wk l Z n0 own nm bytes maxL ret R kc ks Q h cl sl pc ls (.int y :: .int x :: st) := by
  subst hq hv; exact Wk.step (fun hx hby _ _ X _ _ k => XS.imul X.here hx rfl (hb hby hd) rfl k) k
theorem Wk.ishr {x y v : Int32} (hd : decode bytes pc = .ok (.ishr, 1)) (hq : pc + 1 = q) (hv : x >>> (y &&& 31) = v) (k : Wk l Z n0 own nm bytes maxL ret R kc ks Q h cl sl q ls (.int v :: st)) : Wk l Z n0 own nm bytes maxL ret R kc ks Q h cl sl pc ls (.int y :: .int x :: st) := by
  subst hq hv; exact Wk.step (fun hx hby _ _ X _ _ k => XT.ishr X.here hx rfl (hb hby hd) rfl k) k
theorem Wk.iushr {x y v : Int32} (hd : decode bytes pc = .ok (.iushr, 1)) (hq : pc + 1 = q) (hv : XT.ushr x y = v) (k : Wk l Z n0 own nm bytes maxL ret R kc ks Q h cl sl q ls (.int v :: st)) : Wk l Z n0 own nm bytes maxL ret R kc ks Q h cl sl pc ls (.int y :: .int x :: st) := by
  subst hq hv; exact Wk.step (fun hx hby _ _ X _ _ k => XT.iushr X.here hx rfl (hb hby hd) rfl k) k
theorem Wk.irem {x y v : Int32} (hd : decode bytes pc = .ok (.irem, 1)) (hq : pc + 1 = q) (hy : y ≠ 0) (hv : x % y = v) (k : Wk l Z n0 own nm bytes maxL ret R kc ks Q h cl sl q ls (.int v :: st)) : Wk l Z n0 own nm bytes maxL ret R kc ks Q h cl sl pc ls (.int y :: .int x :: st) := by
  subst hq hv; exact Wk.step (fun hx hby _ _ X _ _ k => iremM X hx (g := mkF _ pc ls (.int y :: .int x :: st)) rfl (hb hby hd) rfl hy k) k
theorem Wk.idiv {x y v : Int32} (hd : decode bytes pc = .ok (.idiv, 1)) (hq : pc + 1 = q) (hy : y ≠ 0) (hv : x / y = v) (k : Wk l Z n0 own nm bytes maxL ret R kc ks Q h cl sl q ls (.int v :: st)) : Wk l Z n0 own nm bytes maxL ret R kc ks Q h cl sl pc ls (.int y :: .int x :: st) := by
  subst hq hv; exact Wk.step (fun hx hby _ _ X _ _ k => XS.idiv X.here hx rfl (hb hby hd) rfl hy k) k
theorem Wk.i2b {x v : Int32} (hd : decode bytes pc = .ok (.i2b, 1)) (hq : pc + 1 = q) (hv : x.toInt8.toInt32 = v) (k : Wk l Z n0 own nm bytes maxL ret R kc ks Q h cl sl q ls (.int v :: st)) : Wk l Z n0 own nm bytes maxL ret R kc ks Q h cl sl pc ls (.int x :: st) := by
  subst hq hv; exact Wk.step (fun hx hby _ _ X _ _ k => XT.i2b X.here hx rfl (hb hby hd) rfl k) k
theorem Wk.i2s {x v : Int32} (hd : decode bytes pc = .ok (.i2s, 1)) (hq : pc + 1 = q) (hv : x.toInt16.toInt32 = v) (k : Wk l Z n0 own nm bytes maxL ret R kc ks Q h cl sl q ls (.int v :: st)) : Wk l Z n0 own nm bytes maxL ret R kc ks Q h cl sl pc ls (.int x :: st) := by
  subst hq hv; exact Wk.step (fun hx hby _ _ X _ _ k => XT.i2s X.here hx rfl (hb hby hd) rfl k) k
theorem Wk.i2l {x : Int32} {v : Int64} (hd : decode bytes pc = .ok (.i2l, 1)) (hq : pc + 1 = q) (hv : x.toInt64 = v) (k : Wk l Z n0 own nm bytes maxL ret R kc ks Q h cl sl q ls (.long v :: st)) : Wk l Z n0 own nm bytes maxL ret R kc ks Q h cl sl pc ls (.int x :: st) := by
  subst hq hv; exact Wk.step (fun hx hby _ _ X _ _ k => XT.i2l X.here hx rfl (hb hby hd) rfl k) k
theorem Wk.l2i {x : Int64} {v : Int32} (hd : decode bytes pc = .ok (.l2i, 1)) (hq : pc + 1 = q) (hv : x.toInt32 = v) (k : Wk l Z n0 own nm bytes maxL ret R kc ks Q h cl sl q ls (.int v :: st)) : Wk l Z n0 own nm bytes maxL ret R kc ks Q h cl sl pc ls (.long x :: st) := by
  subst hq hv; exact Wk.step (fun hx hby _ _ X _ _ k => XT.l2i X.here hx rfl (hb hby hd) rfl k) k
theorem Wk.ladd {x y v : Int64} (hd : decode bytes pc = .ok (.ladd, 1)) (hq : pc + 1 = q) (hv : x + y = v) (k : Wk l Z n0 own nm bytes maxL ret R kc ks Q h cl sl q ls (.long v :: st)) : Wk l Z n0 own nm bytes maxL ret R kc ks Q h cl sl pc ls (.long y :: .long x :: st) := by
  subst hq hv; exact Wk.step (fun hx hby _ _ X _ _ k => XT.ladd X.here hx rfl (hb hby hd) rfl k) k
theorem Wk.lsub {x y v : Int64} (hd : decode bytes pc = .ok (.lsub, 1)) (hq : pc + 1 = q) (hv : x - y = v) (k : Wk l Z n0 own nm bytes maxL ret R kc ks Q h cl sl q ls (.long v :: st)) : Wk l Z n0 own nm bytes maxL ret R kc ks Q h cl sl pc ls (.long y :: .long x :: st) := by
  subst hq hv; exact Wk.step (fun hx hby _ _ X _ _ k => XT.lsub X.here hx rfl (hb hby hd) rfl k) k
theorem Wk.lmul {x y v : Int64} (hd : decode bytes pc = .ok (.lmul, 1)) (hq : pc + 1 = q) (hv : x * y = v) (k : Wk l Z n0 own nm bytes maxL ret R kc ks Q h cl sl q ls (.long v :: st)) : Wk l Z n0 own nm bytes maxL ret R kc ks Q h cl sl pc ls (.long y :: .long x :: st) := by
  subst hq hv; exact Wk.step (fun hx hby _ _ X _ _ k => XT.lmul X.here hx rfl (hb hby hd) rfl k) k
theorem Wk.lneg {x v : Int64} (hd : decode bytes pc = .ok (.lneg, 1)) (hq : pc + 1 = q) (hv : -x = v) (k : Wk l Z n0 own nm bytes maxL ret R kc ks Q h cl sl q ls (.long v :: st)) : Wk l Z n0 own nm bytes maxL ret R kc ks Q h cl sl pc ls (.long x :: st) := by
  subst hq hv; exact Wk.step (fun hx hby _ _ X _ _ k => XT.lneg X.here hx rfl (hb hby hd) rfl k) k
theorem Wk.lcmp {x y : Int64} {v : Int32} (hd : decode bytes pc = .ok (.lcmp, 1)) (hq : pc + 1 = q) (hv : XT.cmpL x y = v) (k : Wk l Z n0 own nm bytes maxL ret R kc ks Q h cl sl q ls (.int v :: st)) : Wk l Z n0 own nm bytes maxL ret R kc ks Q h cl sl pc ls (.long y :: .long x :: st) := by
  subst hq hv; exact Wk.step (fun hx hby _ _ X _ _ k => XT.lcmp X.here hx rfl (hb hby hd) rfl k) k
theorem Wk.iinc {i : Nat} {cst : Int} {x v : Int32} (hd : decode bytes pc = .ok (.iinc i cst, 3)) (hq : pc + 3 = q) (hl : ls[i]? = some (.val (.int x))) (hv : x + Int32.ofInt cst = v) (hl' : storeLocals ls i (.int v) = some ls') (k : Wk l Z n0 own nm bytes maxL ret R kc ks Q h cl sl q ls' st) : Wk l Z n0 own nm bytes maxL ret R kc ks Q h cl sl pc ls st := by
  subst hq hv; exact Wk.step (fun hx hby _ _ X _ _ k => XS.iinc X.here hx rfl (hb hby hd) hl hl' k) k
theorem Wk.dup {x : Value} (hd : decode bytes pc = .ok (.dup, 1)) (hq : pc + 1 = q) (hc : x.category = 1) (k : Wk l Z n0 own nm bytes maxL ret R kc ks Q h cl sl q ls (x :: x :: st)) : Wk l Z n0 own nm bytes maxL ret R kc ks Q h cl sl pc ls (x :: st) := by
  subst hq; exact Wk.step (fun hx hby _ _ X _ _ k => XS.dup X.here hx rfl (hb hby hd) rfl hc k) k
theorem Wk.dupX1 {x y : Value} (hd : decode bytes pc = .ok (.dup_x1, 1)) (hq : pc + 1 = q) (hc : x.category = 1) (hc' : y.category = 1) (k : Wk l Z n0 own nm bytes maxL ret R kc ks Q h cl sl q ls (x :: y :: x :: st)) : Wk l Z n0 own nm bytes maxL ret R kc ks Q h cl sl pc ls (x :: y :: st) := by
  subst hq; exact Wk.step (fun hx hby _ _ X _ _ k => XT.dupX1 X.here hx rfl (hb hby hd) rfl hc hc' k) k
theorem Wk.pop {x : Value} (hd : decode bytes pc = .ok (.pop, 1)) (hq : pc + 1 = q) (hc : x.category = 1) (k : Wk l Z n0 own nm bytes maxL ret R kc ks Q h cl sl q ls st) : Wk l Z n0 own nm bytes maxL ret R kc ks Q h cl sl pc ls (x :: st) := by
  subst hq; exact Wk.step (fun hx hby _ _ X _ _ k => XT.pop X.here hx rfl (hb hby hd) rfl hc k) k
theorem Wk.goto {o : Int} (hd : decode bytes pc = .ok (.goto o, 3)) (ho : 0 ≤ (pc : Int) + o) (hp : ((pc : Int) + o).toNat = q) (k : Wk l Z n0 own nm bytes maxL ret R kc ks Q h cl sl q ls st) : Wk l Z n0 own nm bytes maxL ret R kc ks Q h cl sl pc ls st :=
  Wk.step (fun hx hby _ _ X _ _ k => XS.goto X.here hx rfl rfl (hb hby hd) ho hp k) k
theorem Wk.icmpT {cd : ClassFile.Cond} {o : Int} {x y : Int32} (hd : decode bytes pc = .ok (.if_icmp cd o, 3)) (ho : 0 ≤ (pc : Int) + o) (hp : ((pc : Int) + o).toNat = q) (hc : icP cd x y) (k : Wk l Z n0 own nm bytes maxL ret R kc ks Q h cl sl q ls st) : Wk l Z n0 own nm bytes maxL ret R kc ks Q h cl sl pc ls (.int y :: .int x :: st) :=
  Wk.step (fun hx hby _ _ X _ _ k => XS.icmpYes X.here hx rfl rfl (hb hby hd) rfl (ic_t hc) ho hp k) k
theorem Wk.icmpF {cd : ClassFile.Cond} {o : Int} {x y : Int32} (hd : decode bytes pc = .ok (.if_icmp cd o, 3)) (hq : pc + 3 = q) (hc : icN cd x y) (k : Wk l Z n0 own nm bytes maxL ret R kc ks Q h cl sl q ls st) : Wk l Z n0 own nm bytes maxL ret R kc ks Q h cl sl pc ls (.int y :: .int x :: st) := by
  subst hq; exact Wk.step (fun hx hby _ _ X _ _ k => XS.icmpNo X.here hx rfl (hb hby hd) rfl (ic_f hc) k) k
theorem Wk.icmp {cd : ClassFile.Cond} {o : Int} {x y : Int32} {q' : Nat} (hd : decode bytes pc = .ok (.if_icmp cd o, 3)) (ho : 0 ≤ (pc : Int) + o) (hp : ((pc : Int) + o).toNat = q) (hq : pc + 3 = q') (kT : icP cd x y → Wk l Z n0 own nm bytes maxL ret R kc ks Q h cl sl q ls st) (kF : icN cd x y → Wk l Z n0 own nm bytes maxL ret R kc ks Q h cl sl q' ls st) : Wk l Z n0 own nm bytes maxL ret R kc ks Q h cl sl pc ls (.int y :: .int x :: st) :=
  (ic_or cd x y).elim (fun z => Wk.icmpT hd ho hp z (kT z)) (fun z => Wk.icmpF hd hq z (kF z))
theorem Wk.ifcT {cd : ClassFile.Cond} {o : Int} {x : Int32} (hd : decode bytes pc = .ok (.ifCond cd o, 3)) (ho : 0 ≤ (pc : Int) + o) (hp : ((pc : Int) + o).toNat = q) (hc : icP cd x 0) (k : Wk l Z n0 own nm bytes maxL ret R kc ks Q h cl sl q ls st) : Wk l Z n0 own nm bytes maxL ret R kc ks Q h cl sl pc ls (.int x :: st) :=
  Wk.step (fun hx hby _ _ X _ _ k => XS.ifYes X.here hx rfl rfl (hb hby hd) rfl ((if0 cd x).trans (ic_t hc)) ho hp k) k
theorem Wk.ifcF {cd : ClassFile.Cond} {o : Int} {x : Int32} (hd : decode bytes pc = .ok (.ifCond cd o, 3)) (hq : pc + 3 = q) (hc : icN cd x 0) (k : Wk l Z n0 own nm bytes maxL ret R kc ks Q h cl sl q ls st) : Wk l Z n0 own nm bytes maxL ret R kc ks Q h cl sl pc ls (.int x :: st) := by
  subst hq; exact Wk.step (fun hx hby _ _ X _ _ k => XS.ifNo X.here hx rfl (hb hby hd) rfl ((if0 cd x).trans (ic_f hc)) k) k
theorem Wk.ifc {cd : ClassFile.Cond} {o : Int} {x : Int32} {q' : Nat} (hd : decode bytes pc = .ok (.ifCond cd o, 3)) (ho : 0 ≤ (pc : Int) + o) (hp : ((pc : Int) + o).toNat = q) (hq : pc + 3 = q') (kT : icP cd x 0 → Wk l Z n0 own nm bytes maxL ret R kc ks Q h cl sl q ls st) (kF : icN cd x 0 → Wk l Z n0 own nm bytes maxL ret R kc ks Q h cl sl q' ls st) : Wk l Z n0 own nm bytes maxL ret R kc ks Q h cl sl pc ls (.int x :: st) :=
  (ic_or cd x 0).elim (fun z => Wk.ifcT hd ho hp z (kT z)) (fun z => Wk.ifcF hd hq z (kF z))
theorem Wk.acmpT {cd : ACond} {o : Int} {x y : Value} (hd : decode bytes pc = .ok (.if_acmp cd o, 3)) (ho : 0 ≤ (pc : Int) + o) (hp : ((pc : Int) + o).toNat = q) (hx' : x.isRef = true) (hy' : y.isRef = true) (hc : acP cd x y) (k : Wk l Z n0 own nm bytes maxL ret R kc ks Q h cl sl q ls st) : Wk l Z n0 own nm bytes maxL ret R kc ks Q h cl sl pc ls (y :: x :: st) :=
  Wk.step (fun hx hby _ _ X _ _ k => XT.acmpYes X.here hx rfl rfl (hb hby hd) rfl hx' hy' (ac_t hc) ho hp k) k
theorem Wk.acmpF {cd : ACond} {o : Int} {x y : Value} (hd : decode bytes pc = .ok (.if_acmp cd o, 3)) (hq : pc + 3 = q) (hx' : x.isRef = true) (hy' : y.isRef = true) (hc : acN cd x y) (k : Wk l Z n0 own nm bytes maxL ret R kc ks Q h cl sl q ls st) : Wk l Z n0 own nm bytes maxL ret R kc ks Q h cl sl pc ls (y :: x :: st) := by
  subst hq; exact Wk.step (fun hx hby _ _ X _ _ k => XT.acmpNo X.here hx rfl (hb hby hd) rfl hx' hy' (ac_f hc) k) k
theorem Wk.acmp {cd : ACond} {o : Int} {x y : Value} {q' : Nat} (hd : decode bytes pc = .ok (.if_acmp cd o, 3)) (ho : 0 ≤ (pc : Int) + o) (hp : ((pc : Int) + o).toNat = q) (hq : pc + 3 = q') (hx' : x.isRef = true) (hy' : y.isRef = true) (kT : acP cd x y → Wk l Z n0 own nm bytes maxL ret R kc ks Q h cl sl q ls st) (kF : acN cd x y → Wk l Z n0 own nm bytes maxL ret R kc ks Q h cl sl q' ls st) : Wk l Z n0 own nm bytes maxL ret R kc ks Q h cl sl pc ls (y :: x :: st) :=
  (ac_or cd x y).elim (fun z => Wk.acmpT hd ho hp hx' hy' z (kT z)) (fun z => Wk.acmpF hd hq hx' hy' z (kF z))
theorem Wk.ifnullT {o : Int} (hd : decode bytes pc = .ok (.ifnull o, 3)) (ho : 0 ≤ (pc : Int) + o) (hp : ((pc : Int) + o).toNat = q) (k : Wk l Z n0 own nm bytes maxL ret R kc ks Q h cl sl q ls st) : Wk l Z n0 own nm bytes maxL ret R kc ks Q h cl sl pc ls (.null :: st) :=
  Wk.step (fun hx hby _ _ X _ _ k => XS.ifnullYes X.here hx rfl rfl (hb hby hd) rfl ho hp k) k
theorem Wk.ifnullF {o : Int} {b : Addr} (hd : decode bytes pc = .ok (.ifnull o, 3)) (hq : pc + 3 = q) (k : Wk l Z n0 own nm bytes maxL ret R kc ks Q h cl sl q ls st) : Wk l Z n0 own nm bytes maxL ret R kc ks Q h cl sl pc ls (.ref b :: st) := by
  subst hq; exact Wk.step (fun hx hby _ _ X _ _ k => XS.ifnullNo X.here hx rfl (hb hby hd) rfl k) k
theorem Wk.ifnonnullT {o : Int} {b : Addr} (hd : decode bytes pc = .ok (.ifnonnull o, 3)) (ho : 0 ≤ (pc : Int) + o) (hp : ((pc : Int) + o).toNat = q) (k : Wk l Z n0 own nm bytes maxL ret R kc ks Q h cl sl q ls st) : Wk l Z n0 own nm bytes maxL ret R kc ks Q h cl sl pc ls (.ref b :: st) :=
  Wk.step (fun hx hby _ _ X _ _ k => XT.ifnonnullYes X.here hx rfl rfl (hb hby hd) rfl ho hp k) k
theorem Wk.ifnonnullF {o : Int} (hd : decode bytes pc = .ok (.ifnonnull o, 3)) (hq : pc + 3 = q) (k : Wk l Z n0 own nm bytes maxL ret R kc ks Q h cl sl q ls st) : Wk l Z n0 own nm bytes maxL ret R kc ks Q h cl sl pc ls (.null :: st) := by
  subst hq; exact Wk.step (fun hx hby _ _ X _ _ k => XT.ifnonnullNo X.here hx rfl (hb hby hd) rfl k) k
theorem Wk.tsw {dflt low high : Int} {offs : Array Int} {len : Nat} {o : Int} {i : Int32} (hd : decode bytes pc = .ok (.tableswitch dflt low high offs, len)) (hin : ¬ (i.toInt < low ∨ i.toInt > high)) (hoff : offs[(i.toInt - low).toNat]? = some o) (ho : 0 ≤ (pc : Int) + o) (hp : ((pc : Int) + o).toNat = q) (k : Wk l Z n0 own nm bytes maxL ret R kc ks Q h cl sl q ls st) : Wk l Z n0 own nm bytes maxL ret R kc ks Q h cl sl pc ls (.int i :: st) :=
  Wk.step (fun hx hby _ _ X _ _ k => XS.tswIn X.here hx rfl rfl (hb hby hd) rfl hin hoff ho hp k) k
theorem Wk.getS {O n d R0 : String} {i : Nat} {v : Value} (w : (Jvm.Cond.fieldLink own i R0 n d).before a0 Z = true) (via : Via Z R0 O n d) (F : Sta Z h O n d v) (hd : decode bytes pc = .ok (.getstatic i, 3)) (hq : pc + 3 = q) (k : Wk l Z n0 own nm bytes maxL ret R kc ks Q h cl sl q ls (v :: st)) : Wk l Z n0 own nm bytes maxL ret R kc ks Q h cl sl pc ls st := by
  subst hq; exact Wk.stepW (fun hx hby hown hZ X eT => RoadKit.getS (host := "") X hx hZ hown w via eT F (g := mkF _ pc ls st) rfl (hb hby hd)) k
theorem Wk.getF {O n d R0 : String} {i : Nat} {a : Addr} {v : Value} (w : (Jvm.Cond.fieldLink own i R0 n d).before a0 Z = true) (via : Via Z R0 O n d) (F : Fld Z h a O n d v) (hd : decode bytes pc = .ok (.getfield i, 3)) (hq : pc + 3 = q) (k : Wk l Z n0 own nm bytes maxL ret R kc ks Q h cl sl q ls (v :: st)) : Wk l Z n0 own nm bytes maxL ret R kc ks Q h cl sl pc ls (.ref a :: st) := by
  subst hq; exact Wk.stepW (fun hx hby hown hZ X eT => RoadKit.getF (host := "") X hx hZ hown (Or.inl w) via eT F (g := mkF _ pc ls (.ref a :: st)) rfl rfl (hb hby hd)) k
theorem Wk.alen {a : Addr} {c0 : Cell} {ty : FieldType} {v : Int32} (A : Arr Z h a c0 ty) (hv : c0.slots.size.toInt32 = v) (hd : decode bytes pc = .ok (.arraylength, 1)) (hq : pc + 1 = q) (k : Wk l Z n0 own nm bytes maxL ret R kc ks Q h cl sl q ls (.int v :: st)) : Wk l Z n0 own nm bytes maxL ret R kc ks Q h cl sl pc ls (.ref a :: st) := by
  subst hq hv; exact Wk.step (fun hx hby _ hZ X eT t k => X.arraylength hx (by rw [eT]; exact A.1) (State.isArrayOf_alike hZ.alike A.2.1) (g := mkF _ pc ls (.ref a :: st)) rfl rfl (hb hby hd) t k) k
theorem Wk.aaload {a : Addr} {c0 : Cell} {ty : FieldType} {j : Int32} {v : Value} (A : Arr Z h a c0 ty) (hty : ty.isReference = true) (hin : ¬ (j < 0 ∨ c0.slots.size ≤ j.toNatClampNeg)) (hv : c0.slots[j.toNatClampNeg]? = some v) (hd : decode bytes pc = .ok (.aaload, 1)) (hq : pc + 1 = q) (k : Wk l Z n0 own nm bytes maxL ret R kc ks Q h cl sl q ls (v :: st)) : Wk l Z n0 own nm bytes maxL ret R kc ks Q h cl sl pc ls (.int j :: .ref a :: st) := by
  subst hq; exact Wk.step (fun hx hby _ hZ X eT t k => X.aaload hx (by rw [eT]; exact A.1) (State.isArrayOf_alike hZ.alike A.2.1) hty A.2.2 hin hv (g := mkF _ pc ls (.int j :: .ref a :: st)) rfl rfl (hb hby hd) t k) k
theorem Wk.baloadB {a : Addr} {c0 : Cell} {j : Int32} {v : Value} (A : Arr Z h a c0 .byte) (hin : ¬ (j < 0 ∨ c0.slots.size ≤ j.toNatClampNeg)) (hv : c0.slots[j.toNatClampNeg]? = some v) (hd : decode bytes pc = .ok (.baload, 1)) (hq : pc + 1 = q) (k : Wk l Z n0 own nm bytes maxL ret R kc ks Q h cl sl q ls (v :: st)) : Wk l Z n0 own nm bytes maxL ret R kc ks Q h cl sl pc ls (.int j :: .ref a :: st) := by
  subst hq; exact Wk.step (fun hx hby _ hZ X eT t k => X.baloadBytes hx (by rw [eT]; exact A.1) (State.isArrayOf_alike hZ.alike A.2.1) A.2.2 hin hv (g := mkF _ pc ls (.int j :: .ref a :: st)) rfl rfl (hb hby hd) t k) k
theorem Wk.baloadZ {a : Addr} {c0 : Cell} {j : Int32} {v : Value} (A : Arr Z h a c0 .boolean) (hin : ¬ (j < 0 ∨ c0.slots.size ≤ j.toNatClampNeg)) (hv : c0.slots[j.toNatClampNeg]? = some v) (hd : decode bytes pc = .ok (.baload, 1)) (hq : pc + 1 = q) (k : Wk l Z n0 own nm bytes maxL ret R kc ks Q h cl sl q ls (v :: st)) : Wk l Z n0 own nm bytes maxL ret R kc ks Q h cl sl pc ls (.int j :: .ref a :: st) := by
  subst hq; exact Wk.step (fun hx hby _ hZ X eT t k => X.baloadBooleans hx (by rw [eT]; exact A.1) (State.isArrayOf_alike hZ.alike A.2.1) A.2.2 hin hv (g := mkF _ pc ls (.int j :: .ref a :: st)) rfl rfl (hb hby hd) t k) k
theorem Wk.retG {w : Value} {t : FieldType} {i : Instr} (hret : ret = some t) (hn : narrow t w = w)
    (hi : (i = .ireturn ∧ (t = .int ∨ t = .boolean ∨ t = .byte ∨ t = .char ∨ t = .short) ∧ ∃ z, w = .int z) ∨ (i = .lreturn ∧ t = .long ∧ ∃ z, w = .long z) ∨ (i = .dreturn ∧ t = .double ∧ ∃ z, w = .double z) ∨ (i = .freturn ∧ t = .float ∧ ∃ z, w = .float z) ∨ (i = .areturn ∧ t.isReference = true ∧ w.isRef = true))
    (hd : decode bytes pc = .ok (i, 1)) (hc : cl ≤ kc) (hs : sl ≤ ks) (hQ : Q (some w) h) : Wk l Z n0 own nm bytes maxL ret R kc ks Q h cl sl pc ls (w :: st) := by
  intro p e s m args below meth c T locs hx hby hml hown hnm hr hlk hZ X eT N
  obtain ⟨fs, hr', hrun, hended, hW, hsame⟩ := X.leave (v := some w) (fun q => by rw [hr, hret] at q; cases q) hlk
  exact ⟨_, _, RoadKit.retOut X hx (hr.trans hret) hn hi (hb hby hd) hr', hrun, hended, _, _, rfl, ⟨N, by show Q _ T.heap; rw [eT]; exact hQ⟩, ⟨_, rfl⟩, hW, hsame.mono hc hs⟩
theorem Wk.retI {z : Int32} (hret : ret = some .int) (hd : decode bytes pc = .ok (.ireturn, 1)) (hc : cl ≤ kc) (hs : sl ≤ ks) (hQ : Q (some (.int z)) h) : Wk l Z n0 own nm bytes maxL ret R kc ks Q h cl sl pc ls (.int z :: st) :=
  Wk.retG hret rfl (Or.inl ⟨rfl, Or.inl rfl, z, rfl⟩) hd hc hs hQ
theorem Wk.retZ {z : Int32} (hret : ret = some .boolean) (hz : narrow .boolean (.int z) = .int z) (hd : decode bytes pc = .ok (.ireturn, 1)) (hc : cl ≤ kc) (hs : sl ≤ ks) (hQ : Q (some (.int z)) h) : Wk l Z n0 own nm bytes maxL ret R kc ks Q h cl sl pc ls (.int z :: st) :=
  Wk.retG hret hz (Or.inl ⟨rfl, Or.inr (Or.inl rfl), z, rfl⟩) hd hc hs hQ
theorem Wk.retB {z : Int32} (hret : ret = some .byte) (hz : narrow .byte (.int z) = .int z) (hd : decode bytes pc = .ok (.ireturn, 1)) (hc : cl ≤ kc) (hs : sl ≤ ks) (hQ : Q (some (.int z)) h) : Wk l Z n0 own nm bytes maxL ret R kc ks Q h cl sl pc ls (.int z :: st) :=
  Wk.retG hret hz (Or.inl ⟨rfl, Or.inr (Or.inr (Or.inl rfl)), z, rfl⟩) hd hc hs hQ
theorem Wk.retL {z : Int64} (hret : ret = some .long) (hd : decode bytes pc = .ok (.lreturn, 1)) (hc : cl ≤ kc) (hs : sl ≤ ks) (hQ : Q (some (.long z)) h) : Wk l Z n0 own nm bytes maxL ret R kc ks Q h cl sl pc ls (.long z :: st) :=
  Wk.retG hret rfl (Or.inr (Or.inl ⟨rfl, rfl, z, rfl⟩)) hd hc hs hQ
theorem own_narR {t : FieldType} {w : Value} (h1 : t.isReference = true) (h2 : w.isRef = true) : narrow t w = w := by
  cases t <;> cases w <;> first | rfl | (simp [FieldType.isReference] at h1; done) | (simp [Value.isRef] at h2; done)
theorem Wk.retA {w : Value} {t : FieldType} (hret : ret = some t) (ht : t.isReference = true) (hw : w.isRef = true) (hd : decode bytes pc = .ok (.areturn, 1)) (hc : cl ≤ kc) (hs : sl ≤ ks) (hQ : Q (some w) h) : Wk l Z n0 own nm bytes maxL ret R kc ks Q h cl sl pc ls (w :: st) :=
  Wk.retG hret (own_narR ht hw) (Or.inr (Or.inr (Or.inr (Or.inr ⟨rfl, ht, hw⟩)))) hd hc hs hQ
theorem Wk.retV (hret : ret = none) (hd : decode bytes pc = .ok (.return_, 1)) (hc : cl ≤ kc) (hs : sl ≤ ks) (hQ : Q none h) : Wk l Z n0 own nm bytes maxL ret R kc ks Q h cl sl pc ls [] := by
  intro p e s m args below meth c T locs hx hby hml hown hnm hr hlk hZ X eT N
  obtain ⟨fs, hr', hrun, hended, hW, hsame⟩ := X.leave (v := none) (fun _ => rfl) hlk
  exact ⟨_, _, X.returnOut hx (hr.trans hret) (hb hby hd) hr', hrun, hended, _, _, rfl, ⟨N, by show Q _ T.heap; rw [eT]; exact hQ⟩, ⟨_, rfl⟩, hW, hsame.mono hc hs⟩
theorem Wk.callS {i : Nat} {y : MethodName} {by' : ByteArray} {mL : Nat} {rt : Option FieldType} {rm : Room} {argsL rest : List Value} {Q' : Value → Heap → Prop} {ps : List FieldType} {r' : Option FieldType}
    (hM : Met l Z n0 y by' mL rt rm argsL.toArray h (fun v h' => ∃ w, v = some w ∧ Q' w h'))
    (w1 : (Jvm.Cond.methodLink own i y).before a0 Z = true) (w2 : (Jvm.Cond.static y).before a0 Z = true) (w3 : (Jvm.Cond.initialized y.cls).before a0 Z = true) (w4 : (Jvm.Cond.code y by' mL rt).before a0 Z = true) (hy : y.cls ≠ "java/lang/invoke/MethodHandle" ∧ y.cls ≠ "java/lang/invoke/VarHandle")
    (hds : parseMethodDescriptor y.desc = some ⟨ps, r'⟩) (hln : argsL.length = ps.length) (hst : st = argsL.reverse ++ rest) (hls : ls.size = maxL) (hd : decode bytes pc = .ok (.invokestatic i, 3)) (hq : pc + 3 = q)
    {W : Nat} (hW : (rest.map fun v => v.category).sum = W) (hf : rm.frames + 1 ≤ R.frames) (hlo : W + (mL + 11) + rm.locals ≤ R.locals) (hce : cl + rm.cells ≤ R.cells) (hsl : sl + rm.slots ≤ R.slots)
    (k : ∀ w h', Q' w h' → Wk l Z n0 own nm bytes maxL ret R kc ks Q h' (cl + rm.cells) (sl + rm.slots) q ls (w :: rest)) : Wk l Z n0 own nm bytes maxL ret R kc ks Q h cl sl pc ls st := by
  subst hq hst hW
  intro p e s m args below meth c T locs hx hby hml hown hnm hr hlk hZ X eT N
  obtain ⟨v, _, ⟨T', L', k', n'⟩, -, X', ⟨Lc, ⟨N', hQ⟩, l', y', z'⟩, stp⟩ := Jvm.LawKit.callS X hx (y := y) hown (mvT hZ w1) (mvT hZ w2) (mvT hZ w3) (mvT hZ w4) hy (backOf (W := (rest.map fun v => v.category).sum) (Q := fun v h' L => Fr n0 L ∧ (fun v h' => ∃ w, v = some w ∧ Q' w h') v h') (hM []) hZ w4 w3 hf hlo) (g := mkF m pc ls (argsL.reverse ++ rest)) rfl (by rw [hml]; exact hls) (argsL := argsL) (rest := rest) (lenOf hds hln) rfl (by show 2 * 0 + _ ≤ _; omega) (hb hby hd) (fun _ _ => ⟨rfl, eT, hce, hsl⟩)
  dsimp only [Pt.U, Pt.locs, Pt.cells, Pt.slots] at X' l' y' z' stp hQ
  subst l' y' z'
  obtain ⟨w, rfl, hQ⟩ := hQ
  obtain ⟨s₂, o, h1, r⟩ := k w T'.heap hQ p e s m args below meth c T' _ hx hby hml hown hnm hr hlk hZ X' rfl (Fr.app N N')
  exact ⟨s₂, o, stp _ h1, r⟩
theorem Wk.callS1 {i : Nat} {y : MethodName} {by' : ByteArray} {mL : Nat} {rt : Option FieldType} {fr lo : Nat} {argsL rest : List Value} {v0 : Value} {ps : List FieldType} {r' : Option FieldType}
    (hM : Met l Z n0 y by' mL rt ⟨fr, 0, 0, lo⟩ argsL.toArray h (fun v h' => v = some v0 ∧ h' = h))
    (w1 : (Jvm.Cond.methodLink own i y).before a0 Z = true) (w2 : (Jvm.Cond.static y).before a0 Z = true) (w3 : (Jvm.Cond.initialized y.cls).before a0 Z = true) (w4 : (Jvm.Cond.code y by' mL rt).before a0 Z = true) (hy : y.cls ≠ "java/lang/invoke/MethodHandle" ∧ y.cls ≠ "java/lang/invoke/VarHandle")
    (hds : parseMethodDescriptor y.desc = some ⟨ps, r'⟩) (hln : argsL.length = ps.length) (hst : st = argsL.reverse ++ rest) (hls : ls.size = maxL) (hd : decode bytes pc = .ok (.invokestatic i, 3)) (hq : pc + 3 = q)
    {W : Nat} (hW : (rest.map fun v => v.category).sum = W) (hf : fr + 1 ≤ R.frames) (hlo : W + (mL + 11) + lo ≤ R.locals) (hce : cl ≤ R.cells) (hsl : sl ≤ R.slots)
    (k : Wk l Z n0 own nm bytes maxL ret R kc ks Q h cl sl q ls (v0 :: rest)) : Wk l Z n0 own nm bytes maxL ret R kc ks Q h cl sl pc ls st :=
  Wk.callS (Q' := fun w h' => w = v0 ∧ h' = h) (rm := ⟨fr, 0, 0, lo⟩) (hM.mono fun v h' z => ⟨v0, z.1, rfl, z.2⟩) w1 w2 w3 w4 hy hds hln hst hls hd hq hW hf hlo hce hsl (fun w h' z => by obtain ⟨rfl, rfl⟩ := z; exact k)
theorem Wk.callS0 {i : Nat} {y : MethodName} {by' : ByteArray} {mL : Nat} {rt : Option FieldType} {rm : Room} {argsL rest : List Value} {Q' : Heap → Prop} {ps : List FieldType} {r' : Option FieldType}
    (hM : Met l Z n0 y by' mL rt rm argsL.toArray h (fun v h' => v = none ∧ Q' h'))
    (w1 : (Jvm.Cond.methodLink own i y).before a0 Z = true) (w2 : (Jvm.Cond.static y).before a0 Z = true) (w3 : (Jvm.Cond.initialized y.cls).before a0 Z = true) (w4 : (Jvm.Cond.code y by' mL rt).before a0 Z = true) (hy : y.cls ≠ "java/lang/invoke/MethodHandle" ∧ y.cls ≠ "java/lang/invoke/VarHandle")
    (hds : parseMethodDescriptor y.desc = some ⟨ps, r'⟩) (hln : argsL.length = ps.length) (hst : st = argsL.reverse ++ rest) (hls : ls.size = maxL) (hd : decode bytes pc = .ok (.invokestatic i, 3)) (hq : pc + 3 = q)
    {W : Nat} (hW : (rest.map fun v => v.category).sum = W) (hf : rm.frames + 1 ≤ R.frames) (hlo : W + (mL + 11) + rm.locals ≤ R.locals) (hce : cl + rm.cells ≤ R.cells) (hsl : sl + rm.slots ≤ R.slots)
    (k : ∀ h', Q' h' → Wk l Z n0 own nm bytes maxL ret R kc ks Q h' (cl + rm.cells) (sl + rm.slots) q ls rest) : Wk l Z n0 own nm bytes maxL ret R kc ks Q h cl sl pc ls st := by
  subst hq hst hW
  intro p e s m args below meth c T locs hx hby hml hown hnm hr hlk hZ X eT N
  obtain ⟨v, _, ⟨T', L', k', n'⟩, -, X', ⟨Lc, ⟨N', hQ⟩, l', y', z'⟩, stp⟩ := Jvm.LawKit.callS X hx (y := y) hown (mvT hZ w1) (mvT hZ w2) (mvT hZ w3) (mvT hZ w4) hy (backOf (W := (rest.map fun v => v.category).sum) (Q := fun v h' L => Fr n0 L ∧ (fun v h' => v = none ∧ Q' h') v h') (hM []) hZ w4 w3 hf hlo) (g := mkF m pc ls (argsL.reverse ++ rest)) rfl (by rw [hml]; exact hls) (argsL := argsL) (rest := rest) (lenOf hds hln) rfl (by show 2 * 0 + _ ≤ _; omega) (hb hby hd) (fun _ _ => ⟨rfl, eT, hce, hsl⟩)
  dsimp only [Pt.U, Pt.locs, Pt.cells, Pt.slots] at X' l' y' z' stp hQ
  subst l' y' z'
  obtain ⟨rfl, hQ⟩ := hQ
  obtain ⟨s₂, o, h1, r⟩ := k T'.heap hQ p e s m args below meth c T' _ hx hby hml hown hnm hr hlk hZ X' rfl (Fr.app N N')
  exact ⟨s₂, o, stp _ h1, r⟩
theorem Wk.callV {i : Nat} {C : String} {y : MethodName} {by' : ByteArray} {mL : Nat} {rt : Option FieldType} {rm : Room} {a : Addr} {argsL rest : List Value} {Q' : Value → Heap → Prop} {ps : List FieldType} {r' : Option FieldType}
    (hM : Met l Z n0 y by' mL rt rm (.ref a :: argsL).toArray h (fun v h' => ∃ w, v = some w ∧ Q' w h')) (E : Exa Z h a C)
    (w1 : (Jvm.Cond.methodLink own i y).before a0 Z = true) (w2 : (Jvm.Cond.declares y).before a0 Z = true) (w3 : (Jvm.Cond.selects C y y).before a0 Z = true) (w4 : (Jvm.Cond.instanceMethod y).before a0 Z = true) (w5 : (Jvm.Cond.code y by' mL rt).before a0 Z = true) (w6 : (Jvm.Cond.initialized y.cls).before a0 Z = true) (hy : y.cls ≠ "java/lang/invoke/MethodHandle" ∧ y.cls ≠ "java/lang/invoke/VarHandle")
    (hds : parseMethodDescriptor y.desc = some ⟨ps, r'⟩) (hln : argsL.length = ps.length) (hst : st = argsL.reverse ++ .ref a :: rest) (hls : ls.size = maxL) (hd : decode bytes pc = .ok (.invokevirtual i, 3)) (hq : pc + 3 = q)
    {W : Nat} (hW : (rest.map fun v => v.category).sum = W) (hf : rm.frames + 1 ≤ R.frames) (hlo : W + (mL + 11) + rm.locals ≤ R.locals) (hce : cl + rm.cells ≤ R.cells) (hsl : sl + rm.slots ≤ R.slots)
    (k : ∀ w h', Q' w h' → Wk l Z n0 own nm bytes maxL ret R kc ks Q h' (cl + rm.cells) (sl + rm.slots) q ls (w :: rest)) : Wk l Z n0 own nm bytes maxL ret R kc ks Q h cl sl pc ls st := by
  subst hq hst hW
  intro p e s m args below meth c T locs hx hby hml hown hnm hr hlk hZ X eT N
  obtain ⟨cq, kq, q1, q2, q3⟩ := isOf hZ eT E
  obtain ⟨v, _, ⟨T', L', k', n'⟩, -, X', ⟨Lc, ⟨N', hQ⟩, l', y', z'⟩, stp⟩ := X.virtualBack hx (y := y) (z := y) hown (mvT hZ w1) (mvT hZ w2) (notFace_of_selects (args := #[]) (mvT hZ w3)) (mvT hZ w3) (mvT hZ w4) hy (backOf (W := (rest.map fun v => v.category).sum) (Q := fun v h' L => Fr n0 L ∧ (fun v h' => ∃ w, v = some w ∧ Q' w h') v h') (hM []) hZ w5 w6 hf hlo) q1 q3 (g := mkF m pc ls (argsL.reverse ++ .ref a :: rest)) rfl (by rw [hml]; exact hls) (Steps.refl _) (argsL := argsL) (rest := rest) (lenOf hds hln) rfl (by show 2 * 0 + _ ≤ _; omega) (hb hby hd) (fun _ _ => ⟨rfl, eT, hce, hsl⟩)
  dsimp only [Pt.U, Pt.locs, Pt.cells, Pt.slots] at X' l' y' z' stp hQ
  subst l' y' z'
  obtain ⟨w, rfl, hQ⟩ := hQ
  obtain ⟨s₂, o, h1, r⟩ := k w T'.heap hQ p e s m args below meth c T' _ hx hby hml hown hnm hr hlk hZ X' rfl (Fr.app N N')
  exact ⟨s₂, o, stp.trans h1, r⟩
theorem Wk.callV1 {i : Nat} {C : String} {y : MethodName} {by' : ByteArray} {mL : Nat} {rt : Option FieldType} {fr lo : Nat} {a : Addr} {argsL rest : List Value} {v0 : Value} {ps : List FieldType} {r' : Option FieldType}
    (hM : Met l Z n0 y by' mL rt ⟨fr, 0, 0, lo⟩ (.ref a :: argsL).toArray h (fun v h' => v = some v0 ∧ h' = h)) (E : Exa Z h a C)
    (w1 : (Jvm.Cond.methodLink own i y).before a0 Z = true) (w2 : (Jvm.Cond.declares y).before a0 Z = true) (w3 : (Jvm.Cond.selects C y y).before a0 Z = true) (w4 : (Jvm.Cond.instanceMethod y).before a0 Z = true) (w5 : (Jvm.Cond.code y by' mL rt).before a0 Z = true) (w6 : (Jvm.Cond.initialized y.cls).before a0 Z = true) (hy : y.cls ≠ "java/lang/invoke/MethodHandle" ∧ y.cls ≠ "java/lang/invoke/VarHandle")
    (hds : parseMethodDescriptor y.desc = some ⟨ps, r'⟩) (hln : argsL.length = ps.length) (hst : st = argsL.reverse ++ .ref a :: rest) (hls : ls.size = maxL) (hd : decode bytes pc = .ok (.invokevirtual i, 3)) (hq : pc + 3 = q)
    {W : Nat} (hW : (rest.map fun v => v.category).sum = W) (hf : fr + 1 ≤ R.frames) (hlo : W + (mL + 11) + lo ≤ R.locals) (hce : cl ≤ R.cells) (hsl : sl ≤ R.slots)
    (k : Wk l Z n0 own nm bytes maxL ret R kc ks Q h cl sl q ls (v0 :: rest)) : Wk l Z n0 own nm bytes maxL ret R kc ks Q h cl sl pc ls st :=
  Wk.callV (Q' := fun w h' => w = v0 ∧ h' = h) (rm := ⟨fr, 0, 0, lo⟩) (hM.mono fun v h' z => ⟨v0, z.1, rfl, z.2⟩) E w1 w2 w3 w4 w5 w6 hy hds hln hst hls hd hq hW hf hlo hce hsl (fun w h' z => by obtain ⟨rfl, rfl⟩ := z; exact k)
theorem Wk.callV0 {i : Nat} {C : String} {y : MethodName} {by' : ByteArray} {mL : Nat} {rt : Option FieldType} {rm : Room} {a : Addr} {argsL rest : List Value} {Q' : Heap → Prop} {ps : List FieldType} {r' : Option FieldType}
    (hM : Met l Z n0 y by' mL rt rm (.ref a :: argsL).toArray h (fun v h' => v = none ∧ Q' h')) (E : Exa Z h a C)
    (w1 : (Jvm.Cond.methodLink own i y).before a0 Z = true) (w2 : (Jvm.Cond.declares y).before a0 Z = true) (w3 : (Jvm.Cond.selects C y y).before a0 Z = true) (w4 : (Jvm.Cond.instanceMethod y).before a0 Z = true) (w5 : (Jvm.Cond.code y by' mL rt).before a0 Z = true) (w6 : (Jvm.Cond.initialized y.cls).before a0 Z = true) (hy : y.cls ≠ "java/lang/invoke/MethodHandle" ∧ y.cls ≠ "java/lang/invoke/VarHandle")
    (hds : parseMethodDescriptor y.desc = some ⟨ps, r'⟩) (hln : argsL.length = ps.length) (hst : st = argsL.reverse ++ .ref a :: rest) (hls : ls.size = maxL) (hd : decode bytes pc = .ok (.invokevirtual i, 3)) (hq : pc + 3 = q)
    {W : Nat} (hW : (rest.map fun v => v.category).sum = W) (hf : rm.frames + 1 ≤ R.frames) (hlo : W + (mL + 11) + rm.locals ≤ R.locals) (hce : cl + rm.cells ≤ R.cells) (hsl : sl + rm.slots ≤ R.slots)
    (k : ∀ h', Q' h' → Wk l Z n0 own nm bytes maxL ret R kc ks Q h' (cl + rm.cells) (sl + rm.slots) q ls rest) : Wk l Z n0 own nm bytes maxL ret R kc ks Q h cl sl pc ls st := by
  subst hq hst hW
  intro p e s m args below meth c T locs hx hby hml hown hnm hr hlk hZ X eT N
  obtain ⟨cq, kq, q1, q2, q3⟩ := isOf hZ eT E
  obtain ⟨v, _, ⟨T', L', k', n'⟩, -, X', ⟨Lc, ⟨N', hQ⟩, l', y', z'⟩, stp⟩ := X.virtualBack hx (y := y) (z := y) hown (mvT hZ w1) (mvT hZ w2) (notFace_of_selects (args := #[]) (mvT hZ w3)) (mvT hZ w3) (mvT hZ w4) hy (backOf (W := (rest.map fun v => v.category).sum) (Q := fun v h' L => Fr n0 L ∧ (fun v h' => v = none ∧ Q' h') v h') (hM []) hZ w5 w6 hf hlo) q1 q3 (g := mkF m pc ls (argsL.reverse ++ .ref a :: rest)) rfl (by rw [hml]; exact hls) (Steps.refl _) (argsL := argsL) (rest := rest) (lenOf hds hln) rfl (by show 2 * 0 + _ ≤ _; omega) (hb hby hd) (fun _ _ => ⟨rfl, eT, hce, hsl⟩)
  dsimp only [Pt.U, Pt.locs, Pt.cells, Pt.slots] at X' l' y' z' stp hQ
  subst l' y' z'
  obtain ⟨rfl, hQ⟩ := hQ
  obtain ⟨s₂, o, h1, r⟩ := k T'.heap hQ p e s m args below meth c T' _ hx hby hml hown hnm hr hlk hZ X' rfl (Fr.app N N')
  exact ⟨s₂, o, stp.trans h1, r⟩
theorem Wk.callU {i : Nat} {C owner : String} {y z : MethodName} {by' : ByteArray} {mL : Nat} {rt : Option FieldType} {rm : Room} {a : Addr} {argsL rest : List Value} {Q' : Value → Heap → Prop} {ps : List FieldType} {r' : Option FieldType}
    (hM : Met l Z n0 z by' mL rt rm (.ref a :: argsL).toArray h (fun v h' => ∃ w, v = some w ∧ Q' w h')) (E : Exa Z h a C)
    (w1 : (Jvm.Cond.methodLink own i y).before a0 Z = true) (w2 : (Jvm.Cond.sameMethod y.cls owner y.name y.desc).before a0 Z = true) (w3 : (Jvm.Cond.declares ⟨owner, y.name, y.desc⟩).before a0 Z = true) (w4 : (Jvm.Cond.selects C y z).before a0 Z = true) (w5 : (Jvm.Cond.instanceMethod z).before a0 Z = true) (w6 : (Jvm.Cond.code z by' mL rt).before a0 Z = true) (w7 : (Jvm.Cond.initialized z.cls).before a0 Z = true) (hy : owner ≠ "java/lang/invoke/MethodHandle" ∧ owner ≠ "java/lang/invoke/VarHandle")
    (hds : parseMethodDescriptor y.desc = some ⟨ps, r'⟩) (hln : argsL.length = ps.length) (hst : st = argsL.reverse ++ .ref a :: rest) (hls : ls.size = maxL) (hd : decode bytes pc = .ok (.invokevirtual i, 3)) (hq : pc + 3 = q)
    {W : Nat} (hW : (rest.map fun v => v.category).sum = W) (hf : rm.frames + 1 ≤ R.frames) (hlo : W + (mL + 11) + rm.locals ≤ R.locals) (hce : cl + rm.cells ≤ R.cells) (hsl : sl + rm.slots ≤ R.slots)
    (k : ∀ w h', Q' w h' → Wk l Z n0 own nm bytes maxL ret R kc ks Q h' (cl + rm.cells) (sl + rm.slots) q ls (w :: rest)) : Wk l Z n0 own nm bytes maxL ret R kc ks Q h cl sl pc ls st := by
  subst hq hst hW
  intro p e s m args below meth c T locs hx hby hml hown hnm hr hlk hZ X eT N
  obtain ⟨cq, kq, q1, q2, q3⟩ := isOf hZ eT E
  obtain ⟨v, _, ⟨T', L', k', n'⟩, -, X', ⟨Lc, ⟨N', hQ⟩, l', y', z'⟩, stp⟩ := X.virtualBackUp hx (x := y) (y := z) (owner := owner) hown (mvT hZ w1) (mvT hZ w2) (mvT hZ w3) hy (mvT hZ w4) (mvT hZ w5) (backOf (W := (rest.map fun v => v.category).sum) (Q := fun v h' L => Fr n0 L ∧ (fun v h' => ∃ w, v = some w ∧ Q' w h') v h') (hM []) hZ w6 w7 hf hlo) q1 q3 (g := mkF m pc ls (argsL.reverse ++ .ref a :: rest)) rfl (by rw [hml]; exact hls) (Steps.refl _) (argsL := argsL) (rest := rest) (lenOf hds hln) rfl (by show 2 * 0 + _ ≤ _; omega) (hb hby hd) (fun _ _ => ⟨rfl, eT, hce, hsl⟩)
  dsimp only [Pt.U, Pt.locs, Pt.cells, Pt.slots] at X' l' y' z' stp hQ
  subst l' y' z'
  obtain ⟨w, rfl, hQ⟩ := hQ
  obtain ⟨s₂, o, h1, r⟩ := k w T'.heap hQ p e s m args below meth c T' _ hx hby hml hown hnm hr hlk hZ X' rfl (Fr.app N N')
  exact ⟨s₂, o, stp.trans h1, r⟩
theorem Wk.callU1 {i : Nat} {C owner : String} {y z : MethodName} {by' : ByteArray} {mL : Nat} {rt : Option FieldType} {fr lo : Nat} {a : Addr} {argsL rest : List Value} {v0 : Value} {ps : List FieldType} {r' : Option FieldType}
    (hM : Met l Z n0 z by' mL rt ⟨fr, 0, 0, lo⟩ (.ref a :: argsL).toArray h (fun v h' => v = some v0 ∧ h' = h)) (E : Exa Z h a C)
    (w1 : (Jvm.Cond.methodLink own i y).before a0 Z = true) (w2 : (Jvm.Cond.sameMethod y.cls owner y.name y.desc).before a0 Z = true) (w3 : (Jvm.Cond.declares ⟨owner, y.name, y.desc⟩).before a0 Z = true) (w4 : (Jvm.Cond.selects C y z).before a0 Z = true) (w5 : (Jvm.Cond.instanceMethod z).before a0 Z = true) (w6 : (Jvm.Cond.code z by' mL rt).before a0 Z = true) (w7 : (Jvm.Cond.initialized z.cls).before a0 Z = true) (hy : owner ≠ "java/lang/invoke/MethodHandle" ∧ owner ≠ "java/lang/invoke/VarHandle")
    (hds : parseMethodDescriptor y.desc = some ⟨ps, r'⟩) (hln : argsL.length = ps.length) (hst : st = argsL.reverse ++ .ref a :: rest) (hls : ls.size = maxL) (hd : decode bytes pc = .ok (.invokevirtual i, 3)) (hq : pc + 3 = q)
    {W : Nat} (hW : (rest.map fun v => v.category).sum = W) (hf : fr + 1 ≤ R.frames) (hlo : W + (mL + 11) + lo ≤ R.locals) (hce : cl ≤ R.cells) (hsl : sl ≤ R.slots)
    (k : Wk l Z n0 own nm bytes maxL ret R kc ks Q h cl sl q ls (v0 :: rest)) : Wk l Z n0 own nm bytes maxL ret R kc ks Q h cl sl pc ls st :=
  Wk.callU (Q' := fun w h' => w = v0 ∧ h' = h) (rm := ⟨fr, 0, 0, lo⟩) (hM.mono fun v h' z => ⟨v0, z.1, rfl, z.2⟩) E w1 w2 w3 w4 w5 w6 w7 hy hds hln hst hls hd hq hW hf hlo hce hsl (fun w h' z => by obtain ⟨rfl, rfl⟩ := z; exact k)
theorem Wk.callS2 {i : Nat} {y : MethodName} {by' : ByteArray} {mL : Nat} {rt : Option FieldType} {fr lo : Nat} {argsL rest : List Value} {P : Value → Prop} {ps : List FieldType} {r' : Option FieldType}
    (hM : Met l Z n0 y by' mL rt ⟨fr, 0, 0, lo⟩ argsL.toArray h (fun v h' => (∃ w, v = some w ∧ P w) ∧ h' = h))
    (w1 : (Jvm.Cond.methodLink own i y).before a0 Z = true) (w2 : (Jvm.Cond.static y).before a0 Z = true) (w3 : (Jvm.Cond.initialized y.cls).before a0 Z = true) (w4 : (Jvm.Cond.code y by' mL rt).before a0 Z = true) (hy : y.cls ≠ "java/lang/invoke/MethodHandle" ∧ y.cls ≠ "java/lang/invoke/VarHandle")
    (hds : parseMethodDescriptor y.desc = some ⟨ps, r'⟩) (hln : argsL.length = ps.length) (hst : st = argsL.reverse ++ rest) (hls : ls.size = maxL) (hd : decode bytes pc = .ok (.invokestatic i, 3)) (hq : pc + 3 = q)
    {W : Nat} (hW : (rest.map fun v => v.category).sum = W) (hf : fr + 1 ≤ R.frames) (hlo : W + (mL + 11) + lo ≤ R.locals) (hce : cl ≤ R.cells) (hsl : sl ≤ R.slots)
    (k : ∀ w, P w → Wk l Z n0 own nm bytes maxL ret R kc ks Q h cl sl q ls (w :: rest)) : Wk l Z n0 own nm bytes maxL ret R kc ks Q h cl sl pc ls st :=
  Wk.callS (Q' := fun w h' => P w ∧ h' = h) (rm := ⟨fr, 0, 0, lo⟩) (hM.mono fun v h' z => by obtain ⟨⟨w, e, p⟩, q⟩ := z; exact ⟨w, e, p, q⟩) w1 w2 w3 w4 hy hds hln hst hls hd hq hW hf hlo hce hsl (fun w h' z => by obtain ⟨z1, rfl⟩ := z; exact k w z1)
theorem Wk.callV2 {i : Nat} {C : String} {y : MethodName} {a : Addr} {by' : ByteArray} {mL : Nat} {rt : Option FieldType} {fr lo : Nat} {argsL rest : List Value} {P : Value → Prop} {ps : List FieldType} {r' : Option FieldType}
    (hM : Met l Z n0 y by' mL rt ⟨fr, 0, 0, lo⟩ (.ref a :: argsL).toArray h (fun v h' => (∃ w, v = some w ∧ P w) ∧ h' = h)) (E : Exa Z h a C)
    (w1 : (Jvm.Cond.methodLink own i y).before a0 Z = true) (w2 : (Jvm.Cond.declares y).before a0 Z = true) (w3 : (Jvm.Cond.selects C y y).before a0 Z = true) (w4 : (Jvm.Cond.instanceMethod y).before a0 Z = true) (w5 : (Jvm.Cond.code y by' mL rt).before a0 Z = true) (w6 : (Jvm.Cond.initialized y.cls).before a0 Z = true) (hy : y.cls ≠ "java/lang/invoke/MethodHandle" ∧ y.cls ≠ "java/lang/invoke/VarHandle")
    (hds : parseMethodDescriptor y.desc = some ⟨ps, r'⟩) (hln : argsL.length = ps.length) (hst : st = argsL.reverse ++ .ref a :: rest) (hls : ls.size = maxL) (hd : decode bytes pc = .ok (.invokevirtual i, 3)) (hq : pc + 3 = q)
    {W : Nat} (hW : (rest.map fun v => v.category).sum = W) (hf : fr + 1 ≤ R.frames) (hlo : W + (mL + 11) + lo ≤ R.locals) (hce : cl ≤ R.cells) (hsl : sl ≤ R.slots)
    (k : ∀ w, P w → Wk l Z n0 own nm bytes maxL ret R kc ks Q h cl sl q ls (w :: rest)) : Wk l Z n0 own nm bytes maxL ret R kc ks Q h cl sl pc ls st :=
  Wk.callV (Q' := fun w h' => P w ∧ h' = h) (rm := ⟨fr, 0, 0, lo⟩) (hM.mono fun v h' z => by obtain ⟨⟨w, e, p⟩, q⟩ := z; exact ⟨w, e, p, q⟩) E w1 w2 w3 w4 w5 w6 hy hds hln hst hls hd hq hW hf hlo hce hsl (fun w h' z => by obtain ⟨z1, rfl⟩ := z; exact k w z1)
/-! the case's words -/
theorem own_exa {args : Array Value} {C n d K : String} (hx : (Jvm.Cond.exactly (.static C n d) K).value args Z none Z [] = some true) (wi : (Jvm.Cond.initialized C).before args Z = true) (wl : (Jvm.Cond.laysStatic C n d).before args Z = true) :
    ∃ a, (Term.static C n d).eval args Z none [] Z = some (.ref a) ∧ Sta Z Z.heap C n d (.ref a) ∧ Exa Z Z.heap a K := by
  obtain ⟨a, ev⟩ := exa_v hx
  exact ⟨a, ev, Sta.start ev (Or.inr ⟨wi, wl⟩), Exa.start ev hx⟩
theorem own_arr {args : Array Value} {C n d : String} {ty : FieldType} (hx : (Jvm.Cond.arrayOf (.static C n d) ty).value args Z none Z [] = some true) (wi : (Jvm.Cond.initialized C).before args Z = true) (wl : (Jvm.Cond.laysStatic C n d).before args Z = true) :
    ∃ a c, (Term.static C n d).eval args Z none [] Z = some (.ref a) ∧ Sta Z Z.heap C n d (.ref a) ∧ Arr Z Z.heap a c ty := by
  obtain ⟨a, ev⟩ := arr_v hx
  obtain ⟨c, A⟩ := Arr.start ev hx
  exact ⟨a, c, ev, Sta.start ev (Or.inr ⟨wi, wl⟩), A⟩
theorem own_eqi {args : Array Value} {t u : Term} {y : Int32} {idx : List Nat} (h : (Jvm.Cond.eq t u).value args Z none Z idx = some true) (hu : u.eval args Z none idx Z = some (.int y)) : t.eval args Z none idx Z = some (.int y) := by
  obtain ⟨x, y', h1, h2, k1, k2⟩ := cmp_v (Or.inl h)
  cases hu.symm.trans h2
  obtain ⟨z, rfl⟩ := k2
  have e : z = y := by simpa [Cond.value, h1, hu] using h
  rw [h1, e]
theorem own_eqr {args : Array Value} {t u : Term} {y : Addr} {idx : List Nat} (h : (Jvm.Cond.eq t u).value args Z none Z idx = some true) (hu : u.eval args Z none idx Z = some (.ref y)) : t.eval args Z none idx Z = some (.ref y) := by
  obtain ⟨x, y', h1, h2, k1, k2⟩ := cmp_v (Or.inl h)
  cases hu.symm.trans h2
  have e := gotT (eq_R h1 hu k2.2 rfl) h
  rw [h1, e]
theorem own_fld {args : Array Value} {t : Term} {O f d : String} {a : Addr} {v : Value} (ev : t.eval args Z none [] Z = some (.ref a)) (e : (Term.field t O f d).eval args Z none [] Z = some v) : Fld Z Z.heap a O f d v :=
  Fld.start ((fld_at ev).symm.trans e)
theorem own_len {args : Array Value} {t : Term} {a : Addr} {c : Cell} {ty : FieldType} {n : Int32} {k : Nat} (ev : t.eval args Z none [] Z = some (.ref a)) (A : Arr Z Z.heap a c ty) (e : (Term.length t).eval args Z none [] Z = some (.int n)) (hk : n.toInt = (k : Int)) : c.slots.size = k := by
  have hA : Z.arrayAt? a = some c := A.fin (Vm.Alike.refl _)
  have hs : c.slots.size < 2 ^ 31 := by
    by_cases q : c.slots.size < 2 ^ 31
    · exact q
    · simp [Term.eval, ev, hA, q] at e
  have e2 := (len_f ev hA hs).symm.trans e
  have e3 : c.slots.size.toInt32 = n := by injection e2 with e2; injection e2
  have e4 := len_toInt hs
  rw [e3, hk] at e4
  exact (Int.ofNat.inj e4).symm
theorem own_elem {args : Array Value} {t : Term} {a : Addr} {c : Cell} {ty : FieldType} {i : Int32} {v : Value} {idx : List Nat} (ev : t.eval args Z none idx Z = some (.ref a)) (A : Arr Z Z.heap a c ty) (e : (Term.elem t (.int i)).eval args Z none idx Z = some v) : c.slots[i.toNatClampNeg]? = some v :=
  (elem_in e ev (Term.int_eval i) A.1).2
theorem own_all {args : Array Value} {C n d : String} {c : Jvm.Cond} {a : Addr} {cl : Cell} {ty : FieldType} (ev : (Term.static C n d).eval args Z none [] Z = some (.ref a)) (A : Arr Z Z.heap a cl ty) (h : (Jvm.Cond.all (.static C n d) c).value args Z none Z [] = some true) (k : Nat) (hk : k < cl.slots.size) : c.value args Z none Z [k] = some true :=
  Cond.all_elim ev (A.fin (Vm.Alike.refl _)) h k hk
theorem own_tk {args : Array Value} {C n d : String} {a : Addr} {cl : Cell} {ty : FieldType} {v : Int32} {k : Nat} (ev : (Term.static C n d).eval args Z none [] Z = some (.ref a)) (A : Arr Z Z.heap a cl ty) (hk : k < 256) (h : (Jvm.Cond.eq (.elem (.static C n d) (.index 0)) (.int v)).value args Z none Z [k] = some true) : cl.slots[k]? = some (.int v) := by
  have ev' : (Term.static C n d).eval args Z none [k] Z = some (.ref a) := ev
  have e := (elem_in (own_eqi h (Term.int_eval v)) ev' (Term.index_eval k) A.1).2
  have q : k.toInt32.toNatClampNeg = k := by simp only [Int32.toNatClampNeg, len_toInt (show k < 2 ^ 31 by omega)]; rfl
  rwa [q] at e
theorem own_or {args : Array Value} {G X : Jvm.Cond} {P : Prop} [Decidable P] {idx : List Nat} (h : (Jvm.Cond.or G X).value args Z none Z idx = some true) (hG : G.value args Z none Z idx = some (decide P)) (np : ¬ P) : X.value args Z none Z idx = some true := by
  rwa [Cond.or_of_right (by rw [hG]; simp [np])] at h
theorem own_kle {a : Int32} {k m : Nat} (ha : a.toInt = (m : Int)) (hk : k < 256) : a ≤ k.toInt32 ↔ m ≤ k := by
  rw [Int32.le_iff_toInt_le, ha, len_toInt (show k < 2 ^ 31 by omega)]; omega
theorem own_klt {a : Int32} {k m : Nat} (ha : a.toInt = (m : Int)) (hk : k < 256) : k.toInt32 < a ↔ k < m := by
  rw [Int32.lt_iff_toInt_lt, ha, len_toInt (show k < 2 ^ 31 by omega)]; omega
theorem own_neR {a b : Addr} (h : a ≠ b) : ¬ (Value.ref a) = (Value.ref b) := fun e => h (Value.ref.inj e)
theorem own_neN {a : Addr} : ¬ (Value.ref a) = Value.null := fun e => nomatch e
theorem own_nNe {a : Addr} : ¬ Value.null = (Value.ref a) := fun e => nomatch e
/-- (x & 0x7fffffff) % n lies from 0 to n - 1 -/
theorem own_mod (x n : Int32) (hn : 0 < n.toInt) : 0 ≤ ((x &&& 2147483647) % n).toInt ∧ ((x &&& 2147483647) % n).toInt < n.toInt := by
  have h1 := c_and x 2147483647 (by decide)
  rw [Int32.toInt_mod]
  have h2 := Int.tmod_nonneg n.toInt h1.1
  have h3 := Int.tmod_lt_of_pos (x &&& 2147483647).toInt hn
  exact ⟨h2, h3⟩
theorem own_cl_lt (x y : Int64) : XT.cmpL x y < 0 ↔ x < y := by unfold XT.cmpL; split <;> (try split) <;> simp_all [Int64.lt_iff_toInt_lt, ← Int64.toInt_inj] <;> omega
theorem own_cl_gt (x y : Int64) : 0 < XT.cmpL x y ↔ y < x := by unfold XT.cmpL; split <;> (try split) <;> simp_all [Int64.lt_iff_toInt_lt, ← Int64.toInt_inj] <;> omega
theorem own_cl_eq (x y : Int64) : XT.cmpL x y = 0 ↔ x = y := by unfold XT.cmpL; split <;> (try split) <;> simp_all [Int64.lt_iff_toInt_lt, ← Int64.toInt_inj] <;> omega
theorem own_i32 {x y : Int32} (e : x.toInt = y.toInt) : x = y := Int32.toInt_inj.mp e
end Own

theorem w_0 {a0 : Array Value} {Z : State} (hw : ∀ d ∈ tables_1, d.before a0 Z = true) : (Jvm.Cond.methodLink "com/example/tallykey/tallykey/HttpSyntaxIsTokenPinLaw" (7 : Nat) ({ cls := "com/example/tallykey/tallykey/HttpSyntax", name := "isToken", desc := "(B)Z" } : Jvm.MethodName)).before a0 Z = true := hw _ (List.mem_of_getElem? (i := 0) rfl)
theorem w_1 {a0 : Array Value} {Z : State} (hw : ∀ d ∈ tables_1, d.before a0 Z = true) : (Jvm.Cond.static ({ cls := "com/example/tallykey/tallykey/HttpSyntax", name := "isToken", desc := "(B)Z" } : Jvm.MethodName)).before a0 Z = true := hw _ (List.mem_of_getElem? (i := 1) rfl)
theorem w_2 {a0 : Array Value} {Z : State} (hw : ∀ d ∈ tables_1, d.before a0 Z = true) : (Jvm.Cond.initialized "com/example/tallykey/tallykey/HttpSyntax").before a0 Z = true := hw _ (List.mem_of_getElem? (i := 2) rfl)
theorem w_3 {a0 : Array Value} {Z : State} (hw : ∀ d ∈ tables_1, d.before a0 Z = true) : (Jvm.Cond.code ({ cls := "com/example/tallykey/tallykey/HttpSyntax", name := "isToken", desc := "(B)Z" } : Jvm.MethodName) prog_5_method_2_code (1 : Nat) (Option.some Jvm.ClassFile.FieldType.boolean)).before a0 Z = true := hw _ (List.mem_of_getElem? (i := 3) rfl)
theorem w_4 {a0 : Array Value} {Z : State} (hw : ∀ d ∈ tables_1, d.before a0 Z = true) : (Jvm.Cond.fieldLink "com/example/tallykey/tallykey/HttpSyntax" (7 : Nat) "com/example/tallykey/tallykey/HttpSyntax" "TOKEN" "[Z").before a0 Z = true := hw _ (List.mem_of_getElem? (i := 4) rfl)
theorem w_5 {a0 : Array Value} {Z : State} (hw : ∀ d ∈ tables_1, d.before a0 Z = true) : (Jvm.Cond.laysStatic "com/example/tallykey/tallykey/HttpSyntax" "TOKEN" "[Z").before a0 Z = true := hw _ (List.mem_of_getElem? (i := 5) rfl)
theorem w_6 {a0 : Array Value} {Z : State} (hw : ∀ d ∈ tables_1, d.before a0 Z = true) : (Jvm.Cond.methodLink "com/example/tallykey/tallykey/HttpSyntaxIsTokenPinLaw" (13 : Nat) ({ cls := "com/example/tallykey/tallykey/HttpSyntaxIsTokenPinLaw", name := "expected", desc := "(I)Z" } : Jvm.MethodName)).before a0 Z = true := hw _ (List.mem_of_getElem? (i := 6) rfl)
theorem w_7 {a0 : Array Value} {Z : State} (hw : ∀ d ∈ tables_1, d.before a0 Z = true) : (Jvm.Cond.static ({ cls := "com/example/tallykey/tallykey/HttpSyntaxIsTokenPinLaw", name := "expected", desc := "(I)Z" } : Jvm.MethodName)).before a0 Z = true := hw _ (List.mem_of_getElem? (i := 7) rfl)
theorem w_8 {a0 : Array Value} {Z : State} (hw : ∀ d ∈ tables_1, d.before a0 Z = true) : (Jvm.Cond.initialized "com/example/tallykey/tallykey/HttpSyntaxIsTokenPinLaw").before a0 Z = true := hw _ (List.mem_of_getElem? (i := 8) rfl)
theorem w_9 {a0 : Array Value} {Z : State} (hw : ∀ d ∈ tables_1, d.before a0 Z = true) : (Jvm.Cond.code ({ cls := "com/example/tallykey/tallykey/HttpSyntaxIsTokenPinLaw", name := "expected", desc := "(I)Z" } : Jvm.MethodName) method_3_code (1 : Nat) (Option.some Jvm.ClassFile.FieldType.boolean)).before a0 Z = true := hw _ (List.mem_of_getElem? (i := 9) rfl)
theorem pn_0 : plainName "com/example/tallykey/tallykey/HttpSyntaxIsTokenPinLaw" = true := by first | (simp [plainName, overriddenIn]; done) | decide +kernel
theorem pn_1 : plainName "com/example/tallykey/tallykey/HttpSyntax" = true := by first | (simp [plainName, overriddenIn]; done) | decide +kernel
theorem pd_0 : parseMethodDescriptor "(B)Z" = some ⟨[.byte], (some .boolean)⟩ := by decide +kernel
theorem pd_1 : parseMethodDescriptor "(I)Z" = some ⟨[.int], (some .boolean)⟩ := by decide +kernel
theorem d1_0 : decode prog_5_method_2_code 0 = .ok (.getstatic 7, 3) := by decide +kernel
theorem d1_3 : decode prog_5_method_2_code 3 = .ok (.iload_n 0, 1) := by decide +kernel
theorem d1_4 : decode prog_5_method_2_code 4 = .ok (.sipush 255, 3) := by decide +kernel
theorem d1_7 : decode prog_5_method_2_code 7 = .ok (.iand, 1) := by decide +kernel
theorem d1_8 : decode prog_5_method_2_code 8 = .ok (.baload, 1) := by decide +kernel
theorem d1_9 : decode prog_5_method_2_code 9 = .ok (.ireturn, 1) := by decide +kernel
theorem d2_0 : decode method_3_code 0 = .ok (.iload_n 0, 1) := by decide +kernel
theorem d2_1 : decode method_3_code 1 = .ok (.bipush 48, 2) := by decide +kernel
theorem d2_3 : decode method_3_code 3 = .ok (.if_icmp .lt 11, 3) := by decide +kernel
theorem d2_6 : decode method_3_code 6 = .ok (.iload_n 0, 1) := by decide +kernel
theorem d2_7 : decode method_3_code 7 = .ok (.bipush 57, 2) := by decide +kernel
theorem d2_9 : decode method_3_code 9 = .ok (.if_icmp .gt 5, 3) := by decide +kernel
theorem d2_12 : decode method_3_code 12 = .ok (.iconst 1, 1) := by decide +kernel
theorem d2_13 : decode method_3_code 13 = .ok (.ireturn, 1) := by decide +kernel
theorem d2_14 : decode method_3_code 14 = .ok (.iload_n 0, 1) := by decide +kernel
theorem d2_15 : decode method_3_code 15 = .ok (.bipush 65, 2) := by decide +kernel
theorem d2_17 : decode method_3_code 17 = .ok (.if_icmp .lt 11, 3) := by decide +kernel
theorem d2_20 : decode method_3_code 20 = .ok (.iload_n 0, 1) := by decide +kernel
theorem d2_21 : decode method_3_code 21 = .ok (.bipush 90, 2) := by decide +kernel
theorem d2_23 : decode method_3_code 23 = .ok (.if_icmp .gt 5, 3) := by decide +kernel
theorem d2_26 : decode method_3_code 26 = .ok (.iconst 1, 1) := by decide +kernel
theorem d2_27 : decode method_3_code 27 = .ok (.ireturn, 1) := by decide +kernel
theorem d2_28 : decode method_3_code 28 = .ok (.iload_n 0, 1) := by decide +kernel
theorem d2_29 : decode method_3_code 29 = .ok (.bipush 97, 2) := by decide +kernel
theorem d2_31 : decode method_3_code 31 = .ok (.if_icmp .lt 11, 3) := by decide +kernel
theorem d2_34 : decode method_3_code 34 = .ok (.iload_n 0, 1) := by decide +kernel
theorem d2_35 : decode method_3_code 35 = .ok (.bipush 122, 2) := by decide +kernel
theorem d2_37 : decode method_3_code 37 = .ok (.if_icmp .gt 5, 3) := by decide +kernel
theorem d2_40 : decode method_3_code 40 = .ok (.iconst 1, 1) := by decide +kernel
theorem d2_41 : decode method_3_code 41 = .ok (.ireturn, 1) := by decide +kernel
theorem d2_42 : decode method_3_code 42 = .ok (.iload_n 0, 1) := by decide +kernel
theorem d2_43 : decode method_3_code 43 = .ok (.bipush 33, 2) := by decide +kernel
theorem d2_45 : decode method_3_code 45 = .ok (.if_icmp .eq 87, 3) := by decide +kernel
theorem d2_48 : decode method_3_code 48 = .ok (.iload_n 0, 1) := by decide +kernel
theorem d2_49 : decode method_3_code 49 = .ok (.bipush 35, 2) := by decide +kernel
theorem d2_51 : decode method_3_code 51 = .ok (.if_icmp .eq 81, 3) := by decide +kernel
theorem d2_54 : decode method_3_code 54 = .ok (.iload_n 0, 1) := by decide +kernel
theorem d2_55 : decode method_3_code 55 = .ok (.bipush 36, 2) := by decide +kernel
theorem d2_57 : decode method_3_code 57 = .ok (.if_icmp .eq 75, 3) := by decide +kernel
theorem d2_60 : decode method_3_code 60 = .ok (.iload_n 0, 1) := by decide +kernel
theorem d2_61 : decode method_3_code 61 = .ok (.bipush 37, 2) := by decide +kernel
theorem d2_63 : decode method_3_code 63 = .ok (.if_icmp .eq 69, 3) := by decide +kernel
theorem d2_66 : decode method_3_code 66 = .ok (.iload_n 0, 1) := by decide +kernel
theorem d2_67 : decode method_3_code 67 = .ok (.bipush 38, 2) := by decide +kernel
theorem d2_69 : decode method_3_code 69 = .ok (.if_icmp .eq 63, 3) := by decide +kernel
theorem d2_72 : decode method_3_code 72 = .ok (.iload_n 0, 1) := by decide +kernel
theorem d2_73 : decode method_3_code 73 = .ok (.bipush 39, 2) := by decide +kernel
theorem d2_75 : decode method_3_code 75 = .ok (.if_icmp .eq 57, 3) := by decide +kernel
theorem d2_78 : decode method_3_code 78 = .ok (.iload_n 0, 1) := by decide +kernel
theorem d2_79 : decode method_3_code 79 = .ok (.bipush 42, 2) := by decide +kernel
theorem d2_81 : decode method_3_code 81 = .ok (.if_icmp .eq 51, 3) := by decide +kernel
theorem d2_84 : decode method_3_code 84 = .ok (.iload_n 0, 1) := by decide +kernel
theorem d2_85 : decode method_3_code 85 = .ok (.bipush 43, 2) := by decide +kernel
theorem d2_87 : decode method_3_code 87 = .ok (.if_icmp .eq 45, 3) := by decide +kernel
theorem d2_90 : decode method_3_code 90 = .ok (.iload_n 0, 1) := by decide +kernel
theorem d2_91 : decode method_3_code 91 = .ok (.bipush 45, 2) := by decide +kernel
theorem d2_93 : decode method_3_code 93 = .ok (.if_icmp .eq 39, 3) := by decide +kernel
theorem d2_96 : decode method_3_code 96 = .ok (.iload_n 0, 1) := by decide +kernel
theorem d2_97 : decode method_3_code 97 = .ok (.bipush 46, 2) := by decide +kernel
theorem d2_99 : decode method_3_code 99 = .ok (.if_icmp .eq 33, 3) := by decide +kernel
theorem d2_102 : decode method_3_code 102 = .ok (.iload_n 0, 1) := by decide +kernel
theorem d2_103 : decode method_3_code 103 = .ok (.bipush 94, 2) := by decide +kernel
theorem d2_105 : decode method_3_code 105 = .ok (.if_icmp .eq 27, 3) := by decide +kernel
theorem d2_108 : decode method_3_code 108 = .ok (.iload_n 0, 1) := by decide +kernel
theorem d2_109 : decode method_3_code 109 = .ok (.bipush 95, 2) := by decide +kernel
theorem d2_111 : decode method_3_code 111 = .ok (.if_icmp .eq 21, 3) := by decide +kernel
theorem d2_114 : decode method_3_code 114 = .ok (.iload_n 0, 1) := by decide +kernel
theorem d2_115 : decode method_3_code 115 = .ok (.bipush 96, 2) := by decide +kernel
theorem d2_117 : decode method_3_code 117 = .ok (.if_icmp .eq 15, 3) := by decide +kernel
theorem d2_120 : decode method_3_code 120 = .ok (.iload_n 0, 1) := by decide +kernel
theorem d2_121 : decode method_3_code 121 = .ok (.bipush 124, 2) := by decide +kernel
theorem d2_123 : decode method_3_code 123 = .ok (.if_icmp .eq 9, 3) := by decide +kernel
theorem d2_126 : decode method_3_code 126 = .ok (.iload_n 0, 1) := by decide +kernel
theorem d2_127 : decode method_3_code 127 = .ok (.bipush 126, 2) := by decide +kernel
theorem d2_129 : decode method_3_code 129 = .ok (.if_icmp .ne 7, 3) := by decide +kernel
theorem d2_132 : decode method_3_code 132 = .ok (.iconst 1, 1) := by decide +kernel
theorem d2_133 : decode method_3_code 133 = .ok (.goto 4, 3) := by decide +kernel
theorem d2_136 : decode method_3_code 136 = .ok (.iconst 0, 1) := by decide +kernel
theorem d2_137 : decode method_3_code 137 = .ok (.ireturn, 1) := by decide +kernel
def tabN (k : Nat) : Int32 := if (33 ≤ k ∧ k ≤ 33) ∨ (35 ≤ k ∧ k ≤ 39) ∨ (42 ≤ k ∧ k ≤ 43) ∨ (45 ≤ k ∧ k ≤ 46) ∨ (48 ≤ k ∧ k ≤ 57) ∨ (65 ≤ k ∧ k ≤ 90) ∨ (94 ≤ k ∧ k ≤ 122) ∨ (124 ≤ k ∧ k ≤ 124) ∨ (126 ≤ k ∧ k ≤ 126) then 1 else 0
theorem tab1 {k : Nat} (q : (33 ≤ k ∧ k ≤ 33) ∨ (35 ≤ k ∧ k ≤ 39) ∨ (42 ≤ k ∧ k ≤ 43) ∨ (45 ≤ k ∧ k ≤ 46) ∨ (48 ≤ k ∧ k ≤ 57) ∨ (65 ≤ k ∧ k ≤ 90) ∨ (94 ≤ k ∧ k ≤ 122) ∨ (124 ≤ k ∧ k ≤ 124) ∨ (126 ≤ k ∧ k ≤ 126)) : tabN k = 1 := if_pos q
theorem tab0 {k : Nat} (q : ¬ ((33 ≤ k ∧ k ≤ 33) ∨ (35 ≤ k ∧ k ≤ 39) ∨ (42 ≤ k ∧ k ≤ 43) ∨ (45 ≤ k ∧ k ≤ 46) ∨ (48 ≤ k ∧ k ≤ 57) ∨ (65 ≤ k ∧ k ≤ 90) ∨ (94 ≤ k ∧ k ≤ 122) ∨ (124 ≤ k ∧ k ≤ 124) ∨ (126 ≤ k ∧ k ≤ 126))) : tabN k = 0 := if_neg q
theorem tab_nar (k : Nat) : narrow .boolean (.int (tabN k)) = .int (tabN k) := by
  by_cases q : (33 ≤ k ∧ k ≤ 33) ∨ (35 ≤ k ∧ k ≤ 39) ∨ (42 ≤ k ∧ k ≤ 43) ∨ (45 ≤ k ∧ k ≤ 46) ∨ (48 ≤ k ∧ k ≤ 57) ∨ (65 ≤ k ∧ k ≤ 90) ∨ (94 ≤ k ∧ k ≤ 122) ∨ (124 ≤ k ∧ k ≤ 124) ∨ (126 ≤ k ∧ k ≤ 126)
  · rw [tab1 q]; rfl
  · rw [tab0 q]; rfl
theorem own_255 (x : Int32) : 0 ≤ (x &&& (255 : Int32)).toInt ∧ (x &&& (255 : Int32)).toInt ≤ 255 := c_and x 255 (by decide)
theorem own_in {x : Int32} {n : Nat} (h1 : 0 ≤ x.toInt) (h2 : x.toInt < (n : Int)) : ¬ (x < 0 ∨ n ≤ x.toNatClampNeg) := by
  simp only [Int32.lt_iff_toInt_lt, Int32.reduceToInt, Int32.toNatClampNeg]; omega
theorem own_clamp {x : Int32} (h1 : 0 ≤ x.toInt) : (x.toNatClampNeg : Int) = x.toInt := by simp only [Int32.toNatClampNeg]; omega
def OwnF (Z : State) (h : Heap)  (a_T : Addr) (c_T : Cell) : Prop := (Sta Z h "com/example/tallykey/tallykey/HttpSyntax" "TOKEN" "[Z" (.ref a_T)) ∧ (Arr Z h a_T c_T .boolean) ∧ (c_T.slots.size = 256) ∧ (∀ k, k < 256 → c_T.slots[k]? = some (Value.int (tabN k)))
theorem OwnF.s_T {Z : State} {h : Heap}  {a_T : Addr} {c_T : Cell} (F : OwnF Z h  a_T c_T) : Sta Z h "com/example/tallykey/tallykey/HttpSyntax" "TOKEN" "[Z" (.ref a_T) := F.1
theorem OwnF.r_T {Z : State} {h : Heap}  {a_T : Addr} {c_T : Cell} (F : OwnF Z h  a_T c_T) : Arr Z h a_T c_T .boolean := F.2.1
theorem OwnF.z_T {Z : State} {h : Heap}  {a_T : Addr} {c_T : Cell} (F : OwnF Z h  a_T c_T) : c_T.slots.size = 256 := F.2.2.1
theorem OwnF.t_T {Z : State} {h : Heap}  {a_T : Addr} {c_T : Cell} (F : OwnF Z h  a_T c_T) : ∀ k, k < 256 → c_T.slots[k]? = some (Value.int (tabN k)) := F.2.2.2
set_option maxRecDepth 65536 in
set_option maxHeartbeats 40000000 in
theorem m_exp {l : Launch} {Z : State} {a0 : Array Value} {n0 : Nat} {h : Heap}  {a_T : Addr} {c_T : Cell} (hw : ∀ d ∈ tables_1, d.before a0 Z = true) (F : OwnF Z h  a_T c_T) (z0 : Int32) (r1 : 0 ≤ z0.toInt) (r2 : z0.toInt ≤ 255) : Met l Z n0 (⟨"com/example/tallykey/tallykey/HttpSyntaxIsTokenPinLaw", "expected", "(I)Z"⟩ : MethodName) method_3_code 1 (Option.some Jvm.ClassFile.FieldType.boolean) (⟨0, 0, 0, 0⟩ : Room) #[(.int z0)] h (fun v h' => v = some (.int (tabN z0.toNatClampNeg)) ∧ h' = h) := by
  refine Met.of_wk (ls := #[.val (.int z0)]) (plainFor_of_name pn_0) (fun _ => rfl) ?_
  show Wk l Z n0 "com/example/tallykey/tallykey/HttpSyntaxIsTokenPinLaw" "expected" method_3_code 1 (Option.some Jvm.ClassFile.FieldType.boolean) (⟨0, 0, 0, 0⟩ : Room) 0 0 (fun v h' => v = some (.int (tabN z0.toNatClampNeg)) ∧ h' = h) h 0 0 0 #[.val (.int z0)] []
  have r3 := own_clamp r1
  refine Wk.iloadN (q := 1) d2_0 rfl rfl ?_
  refine Wk.bipush (q := 3) (v := (48 : Int32)) d2_1 rfl rfl ?_
  refine Wk.icmp (q := 14) (q' := 6) d2_3 (by decide) rfl rfl (fun (h1 : z0 < (48 : Int32)) => ?_) (fun (h1 : ¬ z0 < (48 : Int32)) => ?_)
  · refine Wk.iloadN (q := 15) d2_14 rfl rfl ?_
    refine Wk.bipush (q := 17) (v := (65 : Int32)) d2_15 rfl rfl ?_
    refine Wk.icmp (q := 28) (q' := 20) d2_17 (by decide) rfl rfl (fun (h2 : z0 < (65 : Int32)) => ?_) (fun (h2 : ¬ z0 < (65 : Int32)) => ?_)
    · refine Wk.iloadN (q := 29) d2_28 rfl rfl ?_
      refine Wk.bipush (q := 31) (v := (97 : Int32)) d2_29 rfl rfl ?_
      refine Wk.icmp (q := 42) (q' := 34) d2_31 (by decide) rfl rfl (fun (h3 : z0 < (97 : Int32)) => ?_) (fun (h3 : ¬ z0 < (97 : Int32)) => ?_)
      · refine Wk.iloadN (q := 43) d2_42 rfl rfl ?_
        refine Wk.bipush (q := 45) (v := (33 : Int32)) d2_43 rfl rfl ?_
        refine Wk.icmp (q := 132) (q' := 48) d2_45 (by decide) rfl rfl (fun (h4 : z0 = (33 : Int32)) => ?_) (fun (h4 : ¬ z0 = (33 : Int32)) => ?_)
        · refine Wk.iconst (q := 133) (v := (1 : Int32)) d2_132 rfl rfl ?_
          refine Wk.goto (q := 137) d2_133 (by decide) rfl ?_
          simp only [Int32.lt_iff_toInt_lt, ← Int32.toInt_inj, Int32.reduceToInt] at h1 h2 h3 h4
          exact Wk.retZ rfl rfl d2_137 (by decide) (by decide) ⟨by rw [tab1 (by omega)], rfl⟩
        · refine Wk.iloadN (q := 49) d2_48 rfl rfl ?_
          refine Wk.bipush (q := 51) (v := (35 : Int32)) d2_49 rfl rfl ?_
          refine Wk.icmp (q := 132) (q' := 54) d2_51 (by decide) rfl rfl (fun (h5 : z0 = (35 : Int32)) => ?_) (fun (h5 : ¬ z0 = (35 : Int32)) => ?_)
          · refine Wk.iconst (q := 133) (v := (1 : Int32)) d2_132 rfl rfl ?_
            refine Wk.goto (q := 137) d2_133 (by decide) rfl ?_
            simp only [Int32.lt_iff_toInt_lt, ← Int32.toInt_inj, Int32.reduceToInt] at h1 h2 h3 h4 h5
            exact Wk.retZ rfl rfl d2_137 (by decide) (by decide) ⟨by rw [tab1 (by omega)], rfl⟩
          · refine Wk.iloadN (q := 55) d2_54 rfl rfl ?_
            refine Wk.bipush (q := 57) (v := (36 : Int32)) d2_55 rfl rfl ?_
            refine Wk.icmp (q := 132) (q' := 60) d2_57 (by decide) rfl rfl (fun (h6 : z0 = (36 : Int32)) => ?_) (fun (h6 : ¬ z0 = (36 : Int32)) => ?_)
            · refine Wk.iconst (q := 133) (v := (1 : Int32)) d2_132 rfl rfl ?_
              refine Wk.goto (q := 137) d2_133 (by decide) rfl ?_
              simp only [Int32.lt_iff_toInt_lt, ← Int32.toInt_inj, Int32.reduceToInt] at h1 h2 h3 h4 h5 h6
              exact Wk.retZ rfl rfl d2_137 (by decide) (by decide) ⟨by rw [tab1 (by omega)], rfl⟩
            · refine Wk.iloadN (q := 61) d2_60 rfl rfl ?_
              refine Wk.bipush (q := 63) (v := (37 : Int32)) d2_61 rfl rfl ?_
              refine Wk.icmp (q := 132) (q' := 66) d2_63 (by decide) rfl rfl (fun (h7 : z0 = (37 : Int32)) => ?_) (fun (h7 : ¬ z0 = (37 : Int32)) => ?_)
              · refine Wk.iconst (q := 133) (v := (1 : Int32)) d2_132 rfl rfl ?_
                refine Wk.goto (q := 137) d2_133 (by decide) rfl ?_
                simp only [Int32.lt_iff_toInt_lt, ← Int32.toInt_inj, Int32.reduceToInt] at h1 h2 h3 h4 h5 h6 h7
                exact Wk.retZ rfl rfl d2_137 (by decide) (by decide) ⟨by rw [tab1 (by omega)], rfl⟩
              · refine Wk.iloadN (q := 67) d2_66 rfl rfl ?_
                refine Wk.bipush (q := 69) (v := (38 : Int32)) d2_67 rfl rfl ?_
                refine Wk.icmp (q := 132) (q' := 72) d2_69 (by decide) rfl rfl (fun (h8 : z0 = (38 : Int32)) => ?_) (fun (h8 : ¬ z0 = (38 : Int32)) => ?_)
                · refine Wk.iconst (q := 133) (v := (1 : Int32)) d2_132 rfl rfl ?_
                  refine Wk.goto (q := 137) d2_133 (by decide) rfl ?_
                  simp only [Int32.lt_iff_toInt_lt, ← Int32.toInt_inj, Int32.reduceToInt] at h1 h2 h3 h4 h5 h6 h7 h8
                  exact Wk.retZ rfl rfl d2_137 (by decide) (by decide) ⟨by rw [tab1 (by omega)], rfl⟩
                · refine Wk.iloadN (q := 73) d2_72 rfl rfl ?_
                  refine Wk.bipush (q := 75) (v := (39 : Int32)) d2_73 rfl rfl ?_
                  refine Wk.icmp (q := 132) (q' := 78) d2_75 (by decide) rfl rfl (fun (h9 : z0 = (39 : Int32)) => ?_) (fun (h9 : ¬ z0 = (39 : Int32)) => ?_)
                  · refine Wk.iconst (q := 133) (v := (1 : Int32)) d2_132 rfl rfl ?_
                    refine Wk.goto (q := 137) d2_133 (by decide) rfl ?_
                    simp only [Int32.lt_iff_toInt_lt, ← Int32.toInt_inj, Int32.reduceToInt] at h1 h2 h3 h4 h5 h6 h7 h8 h9
                    exact Wk.retZ rfl rfl d2_137 (by decide) (by decide) ⟨by rw [tab1 (by omega)], rfl⟩
                  · refine Wk.iloadN (q := 79) d2_78 rfl rfl ?_
                    refine Wk.bipush (q := 81) (v := (42 : Int32)) d2_79 rfl rfl ?_
                    refine Wk.icmp (q := 132) (q' := 84) d2_81 (by decide) rfl rfl (fun (h10 : z0 = (42 : Int32)) => ?_) (fun (h10 : ¬ z0 = (42 : Int32)) => ?_)
                    · refine Wk.iconst (q := 133) (v := (1 : Int32)) d2_132 rfl rfl ?_
                      refine Wk.goto (q := 137) d2_133 (by decide) rfl ?_
                      simp only [Int32.lt_iff_toInt_lt, ← Int32.toInt_inj, Int32.reduceToInt] at h1 h2 h3 h4 h5 h6 h7 h8 h9 h10
                      exact Wk.retZ rfl rfl d2_137 (by decide) (by decide) ⟨by rw [tab1 (by omega)], rfl⟩
                    · refine Wk.iloadN (q := 85) d2_84 rfl rfl ?_
                      refine Wk.bipush (q := 87) (v := (43 : Int32)) d2_85 rfl rfl ?_
                      refine Wk.icmp (q := 132) (q' := 90) d2_87 (by decide) rfl rfl (fun (h11 : z0 = (43 : Int32)) => ?_) (fun (h11 : ¬ z0 = (43 : Int32)) => ?_)
                      · refine Wk.iconst (q := 133) (v := (1 : Int32)) d2_132 rfl rfl ?_
                        refine Wk.goto (q := 137) d2_133 (by decide) rfl ?_
                        simp only [Int32.lt_iff_toInt_lt, ← Int32.toInt_inj, Int32.reduceToInt] at h1 h2 h3 h4 h5 h6 h7 h8 h9 h10 h11
                        exact Wk.retZ rfl rfl d2_137 (by decide) (by decide) ⟨by rw [tab1 (by omega)], rfl⟩
                      · refine Wk.iloadN (q := 91) d2_90 rfl rfl ?_
                        refine Wk.bipush (q := 93) (v := (45 : Int32)) d2_91 rfl rfl ?_
                        refine Wk.icmp (q := 132) (q' := 96) d2_93 (by decide) rfl rfl (fun (h12 : z0 = (45 : Int32)) => ?_) (fun (h12 : ¬ z0 = (45 : Int32)) => ?_)
                        · refine Wk.iconst (q := 133) (v := (1 : Int32)) d2_132 rfl rfl ?_
                          refine Wk.goto (q := 137) d2_133 (by decide) rfl ?_
                          simp only [Int32.lt_iff_toInt_lt, ← Int32.toInt_inj, Int32.reduceToInt] at h1 h2 h3 h4 h5 h6 h7 h8 h9 h10 h11 h12
                          exact Wk.retZ rfl rfl d2_137 (by decide) (by decide) ⟨by rw [tab1 (by omega)], rfl⟩
                        · refine Wk.iloadN (q := 97) d2_96 rfl rfl ?_
                          refine Wk.bipush (q := 99) (v := (46 : Int32)) d2_97 rfl rfl ?_
                          refine Wk.icmp (q := 132) (q' := 102) d2_99 (by decide) rfl rfl (fun (h13 : z0 = (46 : Int32)) => ?_) (fun (h13 : ¬ z0 = (46 : Int32)) => ?_)
                          · refine Wk.iconst (q := 133) (v := (1 : Int32)) d2_132 rfl rfl ?_
                            refine Wk.goto (q := 137) d2_133 (by decide) rfl ?_
                            simp only [Int32.lt_iff_toInt_lt, ← Int32.toInt_inj, Int32.reduceToInt] at h1 h2 h3 h4 h5 h6 h7 h8 h9 h10 h11 h12 h13
                            exact Wk.retZ rfl rfl d2_137 (by decide) (by decide) ⟨by rw [tab1 (by omega)], rfl⟩
                          · refine Wk.iloadN (q := 103) d2_102 rfl rfl ?_
                            refine Wk.bipush (q := 105) (v := (94 : Int32)) d2_103 rfl rfl ?_
                            refine Wk.icmp (q := 132) (q' := 108) d2_105 (by decide) rfl rfl (fun (h14 : z0 = (94 : Int32)) => ?_) (fun (h14 : ¬ z0 = (94 : Int32)) => ?_)
                            · refine Wk.iconst (q := 133) (v := (1 : Int32)) d2_132 rfl rfl ?_
                              refine Wk.goto (q := 137) d2_133 (by decide) rfl ?_
                              simp only [Int32.lt_iff_toInt_lt, ← Int32.toInt_inj, Int32.reduceToInt] at h1 h2 h3 h4 h5 h6 h7 h8 h9 h10 h11 h12 h13 h14
                              exact Wk.retZ rfl rfl d2_137 (by decide) (by decide) ⟨by rw [tab1 (by omega)], rfl⟩
                            · refine Wk.iloadN (q := 109) d2_108 rfl rfl ?_
                              refine Wk.bipush (q := 111) (v := (95 : Int32)) d2_109 rfl rfl ?_
                              refine Wk.icmp (q := 132) (q' := 114) d2_111 (by decide) rfl rfl (fun (h15 : z0 = (95 : Int32)) => ?_) (fun (h15 : ¬ z0 = (95 : Int32)) => ?_)
                              · refine Wk.iconst (q := 133) (v := (1 : Int32)) d2_132 rfl rfl ?_
                                refine Wk.goto (q := 137) d2_133 (by decide) rfl ?_
                                simp only [Int32.lt_iff_toInt_lt, ← Int32.toInt_inj, Int32.reduceToInt] at h1 h2 h3 h4 h5 h6 h7 h8 h9 h10 h11 h12 h13 h14 h15
                                exact Wk.retZ rfl rfl d2_137 (by decide) (by decide) ⟨by rw [tab1 (by omega)], rfl⟩
                              · refine Wk.iloadN (q := 115) d2_114 rfl rfl ?_
                                refine Wk.bipush (q := 117) (v := (96 : Int32)) d2_115 rfl rfl ?_
                                refine Wk.icmp (q := 132) (q' := 120) d2_117 (by decide) rfl rfl (fun (h16 : z0 = (96 : Int32)) => ?_) (fun (h16 : ¬ z0 = (96 : Int32)) => ?_)
                                · refine Wk.iconst (q := 133) (v := (1 : Int32)) d2_132 rfl rfl ?_
                                  refine Wk.goto (q := 137) d2_133 (by decide) rfl ?_
                                  simp only [Int32.lt_iff_toInt_lt, ← Int32.toInt_inj, Int32.reduceToInt] at h1 h2 h3 h4 h5 h6 h7 h8 h9 h10 h11 h12 h13 h14 h15 h16
                                  exact Wk.retZ rfl rfl d2_137 (by decide) (by decide) ⟨by rw [tab1 (by omega)], rfl⟩
                                · refine Wk.iloadN (q := 121) d2_120 rfl rfl ?_
                                  refine Wk.bipush (q := 123) (v := (124 : Int32)) d2_121 rfl rfl ?_
                                  refine Wk.icmp (q := 132) (q' := 126) d2_123 (by decide) rfl rfl (fun (h17 : z0 = (124 : Int32)) => ?_) (fun (h17 : ¬ z0 = (124 : Int32)) => ?_)
                                  · refine Wk.iconst (q := 133) (v := (1 : Int32)) d2_132 rfl rfl ?_
                                    refine Wk.goto (q := 137) d2_133 (by decide) rfl ?_
                                    simp only [Int32.lt_iff_toInt_lt, ← Int32.toInt_inj, Int32.reduceToInt] at h1 h2 h3 h4 h5 h6 h7 h8 h9 h10 h11 h12 h13 h14 h15 h16 h17
                                    exact Wk.retZ rfl rfl d2_137 (by decide) (by decide) ⟨by rw [tab1 (by omega)], rfl⟩
                                  · refine Wk.iloadN (q := 127) d2_126 rfl rfl ?_
                                    refine Wk.bipush (q := 129) (v := (126 : Int32)) d2_127 rfl rfl ?_
                                    refine Wk.icmp (q := 136) (q' := 132) d2_129 (by decide) rfl rfl (fun (h18 : ¬ z0 = (126 : Int32)) => ?_) (fun (h18 : z0 = (126 : Int32)) => ?_)
                                    · refine Wk.iconst (q := 137) (v := (0 : Int32)) d2_136 rfl rfl ?_
                                      simp only [Int32.lt_iff_toInt_lt, ← Int32.toInt_inj, Int32.reduceToInt] at h1 h2 h3 h4 h5 h6 h7 h8 h9 h10 h11 h12 h13 h14 h15 h16 h17 h18
                                      exact Wk.retZ rfl rfl d2_137 (by decide) (by decide) ⟨by rw [tab0 (by omega)], rfl⟩
                                    · refine Wk.iconst (q := 133) (v := (1 : Int32)) d2_132 rfl rfl ?_
                                      refine Wk.goto (q := 137) d2_133 (by decide) rfl ?_
                                      simp only [Int32.lt_iff_toInt_lt, ← Int32.toInt_inj, Int32.reduceToInt] at h1 h2 h3 h4 h5 h6 h7 h8 h9 h10 h11 h12 h13 h14 h15 h16 h17 h18
                                      exact Wk.retZ rfl rfl d2_137 (by decide) (by decide) ⟨by rw [tab1 (by omega)], rfl⟩
      · refine Wk.iloadN (q := 35) d2_34 rfl rfl ?_
        refine Wk.bipush (q := 37) (v := (122 : Int32)) d2_35 rfl rfl ?_
        refine Wk.icmp (q := 42) (q' := 40) d2_37 (by decide) rfl rfl (fun (h19 : (122 : Int32) < z0) => ?_) (fun (h19 : ¬ (122 : Int32) < z0) => ?_)
        · refine Wk.iloadN (q := 43) d2_42 rfl rfl ?_
          refine Wk.bipush (q := 45) (v := (33 : Int32)) d2_43 rfl rfl ?_
          refine Wk.icmp (q := 132) (q' := 48) d2_45 (by decide) rfl rfl (fun (h20 : z0 = (33 : Int32)) => ?_) (fun (h20 : ¬ z0 = (33 : Int32)) => ?_)
          · refine Wk.iconst (q := 133) (v := (1 : Int32)) d2_132 rfl rfl ?_
            refine Wk.goto (q := 137) d2_133 (by decide) rfl ?_
            simp only [Int32.lt_iff_toInt_lt, ← Int32.toInt_inj, Int32.reduceToInt] at h1 h2 h3 h19 h20
            exact Wk.retZ rfl rfl d2_137 (by decide) (by decide) ⟨by rw [tab1 (by omega)], rfl⟩
          · refine Wk.iloadN (q := 49) d2_48 rfl rfl ?_
            refine Wk.bipush (q := 51) (v := (35 : Int32)) d2_49 rfl rfl ?_
            refine Wk.icmp (q := 132) (q' := 54) d2_51 (by decide) rfl rfl (fun (h21 : z0 = (35 : Int32)) => ?_) (fun (h21 : ¬ z0 = (35 : Int32)) => ?_)
            · refine Wk.iconst (q := 133) (v := (1 : Int32)) d2_132 rfl rfl ?_
              refine Wk.goto (q := 137) d2_133 (by decide) rfl ?_
              simp only [Int32.lt_iff_toInt_lt, ← Int32.toInt_inj, Int32.reduceToInt] at h1 h2 h3 h19 h20 h21
              exact Wk.retZ rfl rfl d2_137 (by decide) (by decide) ⟨by rw [tab1 (by omega)], rfl⟩
            · refine Wk.iloadN (q := 55) d2_54 rfl rfl ?_
              refine Wk.bipush (q := 57) (v := (36 : Int32)) d2_55 rfl rfl ?_
              refine Wk.icmp (q := 132) (q' := 60) d2_57 (by decide) rfl rfl (fun (h22 : z0 = (36 : Int32)) => ?_) (fun (h22 : ¬ z0 = (36 : Int32)) => ?_)
              · refine Wk.iconst (q := 133) (v := (1 : Int32)) d2_132 rfl rfl ?_
                refine Wk.goto (q := 137) d2_133 (by decide) rfl ?_
                simp only [Int32.lt_iff_toInt_lt, ← Int32.toInt_inj, Int32.reduceToInt] at h1 h2 h3 h19 h20 h21 h22
                exact Wk.retZ rfl rfl d2_137 (by decide) (by decide) ⟨by rw [tab1 (by omega)], rfl⟩
              · refine Wk.iloadN (q := 61) d2_60 rfl rfl ?_
                refine Wk.bipush (q := 63) (v := (37 : Int32)) d2_61 rfl rfl ?_
                refine Wk.icmp (q := 132) (q' := 66) d2_63 (by decide) rfl rfl (fun (h23 : z0 = (37 : Int32)) => ?_) (fun (h23 : ¬ z0 = (37 : Int32)) => ?_)
                · refine Wk.iconst (q := 133) (v := (1 : Int32)) d2_132 rfl rfl ?_
                  refine Wk.goto (q := 137) d2_133 (by decide) rfl ?_
                  simp only [Int32.lt_iff_toInt_lt, ← Int32.toInt_inj, Int32.reduceToInt] at h1 h2 h3 h19 h20 h21 h22 h23
                  exact Wk.retZ rfl rfl d2_137 (by decide) (by decide) ⟨by rw [tab1 (by omega)], rfl⟩
                · refine Wk.iloadN (q := 67) d2_66 rfl rfl ?_
                  refine Wk.bipush (q := 69) (v := (38 : Int32)) d2_67 rfl rfl ?_
                  refine Wk.icmp (q := 132) (q' := 72) d2_69 (by decide) rfl rfl (fun (h24 : z0 = (38 : Int32)) => ?_) (fun (h24 : ¬ z0 = (38 : Int32)) => ?_)
                  · refine Wk.iconst (q := 133) (v := (1 : Int32)) d2_132 rfl rfl ?_
                    refine Wk.goto (q := 137) d2_133 (by decide) rfl ?_
                    simp only [Int32.lt_iff_toInt_lt, ← Int32.toInt_inj, Int32.reduceToInt] at h1 h2 h3 h19 h20 h21 h22 h23 h24
                    exact Wk.retZ rfl rfl d2_137 (by decide) (by decide) ⟨by rw [tab1 (by omega)], rfl⟩
                  · refine Wk.iloadN (q := 73) d2_72 rfl rfl ?_
                    refine Wk.bipush (q := 75) (v := (39 : Int32)) d2_73 rfl rfl ?_
                    refine Wk.icmp (q := 132) (q' := 78) d2_75 (by decide) rfl rfl (fun (h25 : z0 = (39 : Int32)) => ?_) (fun (h25 : ¬ z0 = (39 : Int32)) => ?_)
                    · refine Wk.iconst (q := 133) (v := (1 : Int32)) d2_132 rfl rfl ?_
                      refine Wk.goto (q := 137) d2_133 (by decide) rfl ?_
                      simp only [Int32.lt_iff_toInt_lt, ← Int32.toInt_inj, Int32.reduceToInt] at h1 h2 h3 h19 h20 h21 h22 h23 h24 h25
                      exact Wk.retZ rfl rfl d2_137 (by decide) (by decide) ⟨by rw [tab1 (by omega)], rfl⟩
                    · refine Wk.iloadN (q := 79) d2_78 rfl rfl ?_
                      refine Wk.bipush (q := 81) (v := (42 : Int32)) d2_79 rfl rfl ?_
                      refine Wk.icmp (q := 132) (q' := 84) d2_81 (by decide) rfl rfl (fun (h26 : z0 = (42 : Int32)) => ?_) (fun (h26 : ¬ z0 = (42 : Int32)) => ?_)
                      · refine Wk.iconst (q := 133) (v := (1 : Int32)) d2_132 rfl rfl ?_
                        refine Wk.goto (q := 137) d2_133 (by decide) rfl ?_
                        simp only [Int32.lt_iff_toInt_lt, ← Int32.toInt_inj, Int32.reduceToInt] at h1 h2 h3 h19 h20 h21 h22 h23 h24 h25 h26
                        exact Wk.retZ rfl rfl d2_137 (by decide) (by decide) ⟨by rw [tab1 (by omega)], rfl⟩
                      · refine Wk.iloadN (q := 85) d2_84 rfl rfl ?_
                        refine Wk.bipush (q := 87) (v := (43 : Int32)) d2_85 rfl rfl ?_
                        refine Wk.icmp (q := 132) (q' := 90) d2_87 (by decide) rfl rfl (fun (h27 : z0 = (43 : Int32)) => ?_) (fun (h27 : ¬ z0 = (43 : Int32)) => ?_)
                        · refine Wk.iconst (q := 133) (v := (1 : Int32)) d2_132 rfl rfl ?_
                          refine Wk.goto (q := 137) d2_133 (by decide) rfl ?_
                          simp only [Int32.lt_iff_toInt_lt, ← Int32.toInt_inj, Int32.reduceToInt] at h1 h2 h3 h19 h20 h21 h22 h23 h24 h25 h26 h27
                          exact Wk.retZ rfl rfl d2_137 (by decide) (by decide) ⟨by rw [tab1 (by omega)], rfl⟩
                        · refine Wk.iloadN (q := 91) d2_90 rfl rfl ?_
                          refine Wk.bipush (q := 93) (v := (45 : Int32)) d2_91 rfl rfl ?_
                          refine Wk.icmp (q := 132) (q' := 96) d2_93 (by decide) rfl rfl (fun (h28 : z0 = (45 : Int32)) => ?_) (fun (h28 : ¬ z0 = (45 : Int32)) => ?_)
                          · refine Wk.iconst (q := 133) (v := (1 : Int32)) d2_132 rfl rfl ?_
                            refine Wk.goto (q := 137) d2_133 (by decide) rfl ?_
                            simp only [Int32.lt_iff_toInt_lt, ← Int32.toInt_inj, Int32.reduceToInt] at h1 h2 h3 h19 h20 h21 h22 h23 h24 h25 h26 h27 h28
                            exact Wk.retZ rfl rfl d2_137 (by decide) (by decide) ⟨by rw [tab1 (by omega)], rfl⟩
                          · refine Wk.iloadN (q := 97) d2_96 rfl rfl ?_
                            refine Wk.bipush (q := 99) (v := (46 : Int32)) d2_97 rfl rfl ?_
                            refine Wk.icmp (q := 132) (q' := 102) d2_99 (by decide) rfl rfl (fun (h29 : z0 = (46 : Int32)) => ?_) (fun (h29 : ¬ z0 = (46 : Int32)) => ?_)
                            · refine Wk.iconst (q := 133) (v := (1 : Int32)) d2_132 rfl rfl ?_
                              refine Wk.goto (q := 137) d2_133 (by decide) rfl ?_
                              simp only [Int32.lt_iff_toInt_lt, ← Int32.toInt_inj, Int32.reduceToInt] at h1 h2 h3 h19 h20 h21 h22 h23 h24 h25 h26 h27 h28 h29
                              exact Wk.retZ rfl rfl d2_137 (by decide) (by decide) ⟨by rw [tab1 (by omega)], rfl⟩
                            · refine Wk.iloadN (q := 103) d2_102 rfl rfl ?_
                              refine Wk.bipush (q := 105) (v := (94 : Int32)) d2_103 rfl rfl ?_
                              refine Wk.icmp (q := 132) (q' := 108) d2_105 (by decide) rfl rfl (fun (h30 : z0 = (94 : Int32)) => ?_) (fun (h30 : ¬ z0 = (94 : Int32)) => ?_)
                              · refine Wk.iconst (q := 133) (v := (1 : Int32)) d2_132 rfl rfl ?_
                                refine Wk.goto (q := 137) d2_133 (by decide) rfl ?_
                                simp only [Int32.lt_iff_toInt_lt, ← Int32.toInt_inj, Int32.reduceToInt] at h1 h2 h3 h19 h20 h21 h22 h23 h24 h25 h26 h27 h28 h29 h30
                                exact Wk.retZ rfl rfl d2_137 (by decide) (by decide) ⟨by rw [tab1 (by omega)], rfl⟩
                              · refine Wk.iloadN (q := 109) d2_108 rfl rfl ?_
                                refine Wk.bipush (q := 111) (v := (95 : Int32)) d2_109 rfl rfl ?_
                                refine Wk.icmp (q := 132) (q' := 114) d2_111 (by decide) rfl rfl (fun (h31 : z0 = (95 : Int32)) => ?_) (fun (h31 : ¬ z0 = (95 : Int32)) => ?_)
                                · refine Wk.iconst (q := 133) (v := (1 : Int32)) d2_132 rfl rfl ?_
                                  refine Wk.goto (q := 137) d2_133 (by decide) rfl ?_
                                  simp only [Int32.lt_iff_toInt_lt, ← Int32.toInt_inj, Int32.reduceToInt] at h1 h2 h3 h19 h20 h21 h22 h23 h24 h25 h26 h27 h28 h29 h30 h31
                                  exact Wk.retZ rfl rfl d2_137 (by decide) (by decide) ⟨by rw [tab1 (by omega)], rfl⟩
                                · refine Wk.iloadN (q := 115) d2_114 rfl rfl ?_
                                  refine Wk.bipush (q := 117) (v := (96 : Int32)) d2_115 rfl rfl ?_
                                  refine Wk.icmp (q := 132) (q' := 120) d2_117 (by decide) rfl rfl (fun (h32 : z0 = (96 : Int32)) => ?_) (fun (h32 : ¬ z0 = (96 : Int32)) => ?_)
                                  · refine Wk.iconst (q := 133) (v := (1 : Int32)) d2_132 rfl rfl ?_
                                    refine Wk.goto (q := 137) d2_133 (by decide) rfl ?_
                                    simp only [Int32.lt_iff_toInt_lt, ← Int32.toInt_inj, Int32.reduceToInt] at h1 h2 h3 h19 h20 h21 h22 h23 h24 h25 h26 h27 h28 h29 h30 h31 h32
                                    exact Wk.retZ rfl rfl d2_137 (by decide) (by decide) ⟨by rw [tab1 (by omega)], rfl⟩
                                  · refine Wk.iloadN (q := 121) d2_120 rfl rfl ?_
                                    refine Wk.bipush (q := 123) (v := (124 : Int32)) d2_121 rfl rfl ?_
                                    refine Wk.icmp (q := 132) (q' := 126) d2_123 (by decide) rfl rfl (fun (h33 : z0 = (124 : Int32)) => ?_) (fun (h33 : ¬ z0 = (124 : Int32)) => ?_)
                                    · refine Wk.iconst (q := 133) (v := (1 : Int32)) d2_132 rfl rfl ?_
                                      refine Wk.goto (q := 137) d2_133 (by decide) rfl ?_
                                      simp only [Int32.lt_iff_toInt_lt, ← Int32.toInt_inj, Int32.reduceToInt] at h1 h2 h3 h19 h20 h21 h22 h23 h24 h25 h26 h27 h28 h29 h30 h31 h32 h33
                                      exact Wk.retZ rfl rfl d2_137 (by decide) (by decide) ⟨by rw [tab1 (by omega)], rfl⟩
                                    · refine Wk.iloadN (q := 127) d2_126 rfl rfl ?_
                                      refine Wk.bipush (q := 129) (v := (126 : Int32)) d2_127 rfl rfl ?_
                                      refine Wk.icmp (q := 136) (q' := 132) d2_129 (by decide) rfl rfl (fun (h34 : ¬ z0 = (126 : Int32)) => ?_) (fun (h34 : z0 = (126 : Int32)) => ?_)
                                      · refine Wk.iconst (q := 137) (v := (0 : Int32)) d2_136 rfl rfl ?_
                                        simp only [Int32.lt_iff_toInt_lt, ← Int32.toInt_inj, Int32.reduceToInt] at h1 h2 h3 h19 h20 h21 h22 h23 h24 h25 h26 h27 h28 h29 h30 h31 h32 h33 h34
                                        exact Wk.retZ rfl rfl d2_137 (by decide) (by decide) ⟨by rw [tab0 (by omega)], rfl⟩
                                      · refine Wk.iconst (q := 133) (v := (1 : Int32)) d2_132 rfl rfl ?_
                                        refine Wk.goto (q := 137) d2_133 (by decide) rfl ?_
                                        simp only [Int32.lt_iff_toInt_lt, ← Int32.toInt_inj, Int32.reduceToInt] at h1 h2 h3 h19 h20 h21 h22 h23 h24 h25 h26 h27 h28 h29 h30 h31 h32 h33 h34
                                        exact Wk.retZ rfl rfl d2_137 (by decide) (by decide) ⟨by rw [tab1 (by omega)], rfl⟩
        · refine Wk.iconst (q := 41) (v := (1 : Int32)) d2_40 rfl rfl ?_
          simp only [Int32.lt_iff_toInt_lt, ← Int32.toInt_inj, Int32.reduceToInt] at h1 h2 h3 h19
          exact Wk.retZ rfl rfl d2_41 (by decide) (by decide) ⟨by rw [tab1 (by omega)], rfl⟩
    · refine Wk.iloadN (q := 21) d2_20 rfl rfl ?_
      refine Wk.bipush (q := 23) (v := (90 : Int32)) d2_21 rfl rfl ?_
      refine Wk.icmp (q := 28) (q' := 26) d2_23 (by decide) rfl rfl (fun (h35 : (90 : Int32) < z0) => ?_) (fun (h35 : ¬ (90 : Int32) < z0) => ?_)
      · refine Wk.iloadN (q := 29) d2_28 rfl rfl ?_
        refine Wk.bipush (q := 31) (v := (97 : Int32)) d2_29 rfl rfl ?_
        refine Wk.icmp (q := 42) (q' := 34) d2_31 (by decide) rfl rfl (fun (h36 : z0 < (97 : Int32)) => ?_) (fun (h36 : ¬ z0 < (97 : Int32)) => ?_)
        · refine Wk.iloadN (q := 43) d2_42 rfl rfl ?_
          refine Wk.bipush (q := 45) (v := (33 : Int32)) d2_43 rfl rfl ?_
          refine Wk.icmp (q := 132) (q' := 48) d2_45 (by decide) rfl rfl (fun (h37 : z0 = (33 : Int32)) => ?_) (fun (h37 : ¬ z0 = (33 : Int32)) => ?_)
          · refine Wk.iconst (q := 133) (v := (1 : Int32)) d2_132 rfl rfl ?_
            refine Wk.goto (q := 137) d2_133 (by decide) rfl ?_
            simp only [Int32.lt_iff_toInt_lt, ← Int32.toInt_inj, Int32.reduceToInt] at h1 h2 h35 h36 h37
            exact Wk.retZ rfl rfl d2_137 (by decide) (by decide) ⟨by rw [tab1 (by omega)], rfl⟩
          · refine Wk.iloadN (q := 49) d2_48 rfl rfl ?_
            refine Wk.bipush (q := 51) (v := (35 : Int32)) d2_49 rfl rfl ?_
            refine Wk.icmp (q := 132) (q' := 54) d2_51 (by decide) rfl rfl (fun (h38 : z0 = (35 : Int32)) => ?_) (fun (h38 : ¬ z0 = (35 : Int32)) => ?_)
            · refine Wk.iconst (q := 133) (v := (1 : Int32)) d2_132 rfl rfl ?_
              refine Wk.goto (q := 137) d2_133 (by decide) rfl ?_
              simp only [Int32.lt_iff_toInt_lt, ← Int32.toInt_inj, Int32.reduceToInt] at h1 h2 h35 h36 h37 h38
              exact Wk.retZ rfl rfl d2_137 (by decide) (by decide) ⟨by rw [tab1 (by omega)], rfl⟩
            · refine Wk.iloadN (q := 55) d2_54 rfl rfl ?_
              refine Wk.bipush (q := 57) (v := (36 : Int32)) d2_55 rfl rfl ?_
              refine Wk.icmp (q := 132) (q' := 60) d2_57 (by decide) rfl rfl (fun (h39 : z0 = (36 : Int32)) => ?_) (fun (h39 : ¬ z0 = (36 : Int32)) => ?_)
              · refine Wk.iconst (q := 133) (v := (1 : Int32)) d2_132 rfl rfl ?_
                refine Wk.goto (q := 137) d2_133 (by decide) rfl ?_
                simp only [Int32.lt_iff_toInt_lt, ← Int32.toInt_inj, Int32.reduceToInt] at h1 h2 h35 h36 h37 h38 h39
                exact Wk.retZ rfl rfl d2_137 (by decide) (by decide) ⟨by rw [tab1 (by omega)], rfl⟩
              · refine Wk.iloadN (q := 61) d2_60 rfl rfl ?_
                refine Wk.bipush (q := 63) (v := (37 : Int32)) d2_61 rfl rfl ?_
                refine Wk.icmp (q := 132) (q' := 66) d2_63 (by decide) rfl rfl (fun (h40 : z0 = (37 : Int32)) => ?_) (fun (h40 : ¬ z0 = (37 : Int32)) => ?_)
                · refine Wk.iconst (q := 133) (v := (1 : Int32)) d2_132 rfl rfl ?_
                  refine Wk.goto (q := 137) d2_133 (by decide) rfl ?_
                  simp only [Int32.lt_iff_toInt_lt, ← Int32.toInt_inj, Int32.reduceToInt] at h1 h2 h35 h36 h37 h38 h39 h40
                  exact Wk.retZ rfl rfl d2_137 (by decide) (by decide) ⟨by rw [tab1 (by omega)], rfl⟩
                · refine Wk.iloadN (q := 67) d2_66 rfl rfl ?_
                  refine Wk.bipush (q := 69) (v := (38 : Int32)) d2_67 rfl rfl ?_
                  refine Wk.icmp (q := 132) (q' := 72) d2_69 (by decide) rfl rfl (fun (h41 : z0 = (38 : Int32)) => ?_) (fun (h41 : ¬ z0 = (38 : Int32)) => ?_)
                  · refine Wk.iconst (q := 133) (v := (1 : Int32)) d2_132 rfl rfl ?_
                    refine Wk.goto (q := 137) d2_133 (by decide) rfl ?_
                    simp only [Int32.lt_iff_toInt_lt, ← Int32.toInt_inj, Int32.reduceToInt] at h1 h2 h35 h36 h37 h38 h39 h40 h41
                    exact Wk.retZ rfl rfl d2_137 (by decide) (by decide) ⟨by rw [tab1 (by omega)], rfl⟩
                  · refine Wk.iloadN (q := 73) d2_72 rfl rfl ?_
                    refine Wk.bipush (q := 75) (v := (39 : Int32)) d2_73 rfl rfl ?_
                    refine Wk.icmp (q := 132) (q' := 78) d2_75 (by decide) rfl rfl (fun (h42 : z0 = (39 : Int32)) => ?_) (fun (h42 : ¬ z0 = (39 : Int32)) => ?_)
                    · refine Wk.iconst (q := 133) (v := (1 : Int32)) d2_132 rfl rfl ?_
                      refine Wk.goto (q := 137) d2_133 (by decide) rfl ?_
                      simp only [Int32.lt_iff_toInt_lt, ← Int32.toInt_inj, Int32.reduceToInt] at h1 h2 h35 h36 h37 h38 h39 h40 h41 h42
                      exact Wk.retZ rfl rfl d2_137 (by decide) (by decide) ⟨by rw [tab1 (by omega)], rfl⟩
                    · refine Wk.iloadN (q := 79) d2_78 rfl rfl ?_
                      refine Wk.bipush (q := 81) (v := (42 : Int32)) d2_79 rfl rfl ?_
                      refine Wk.icmp (q := 132) (q' := 84) d2_81 (by decide) rfl rfl (fun (h43 : z0 = (42 : Int32)) => ?_) (fun (h43 : ¬ z0 = (42 : Int32)) => ?_)
                      · refine Wk.iconst (q := 133) (v := (1 : Int32)) d2_132 rfl rfl ?_
                        refine Wk.goto (q := 137) d2_133 (by decide) rfl ?_
                        simp only [Int32.lt_iff_toInt_lt, ← Int32.toInt_inj, Int32.reduceToInt] at h1 h2 h35 h36 h37 h38 h39 h40 h41 h42 h43
                        exact Wk.retZ rfl rfl d2_137 (by decide) (by decide) ⟨by rw [tab1 (by omega)], rfl⟩
                      · refine Wk.iloadN (q := 85) d2_84 rfl rfl ?_
                        refine Wk.bipush (q := 87) (v := (43 : Int32)) d2_85 rfl rfl ?_
                        refine Wk.icmp (q := 132) (q' := 90) d2_87 (by decide) rfl rfl (fun (h44 : z0 = (43 : Int32)) => ?_) (fun (h44 : ¬ z0 = (43 : Int32)) => ?_)
                        · refine Wk.iconst (q := 133) (v := (1 : Int32)) d2_132 rfl rfl ?_
                          refine Wk.goto (q := 137) d2_133 (by decide) rfl ?_
                          simp only [Int32.lt_iff_toInt_lt, ← Int32.toInt_inj, Int32.reduceToInt] at h1 h2 h35 h36 h37 h38 h39 h40 h41 h42 h43 h44
                          exact Wk.retZ rfl rfl d2_137 (by decide) (by decide) ⟨by rw [tab1 (by omega)], rfl⟩
                        · refine Wk.iloadN (q := 91) d2_90 rfl rfl ?_
                          refine Wk.bipush (q := 93) (v := (45 : Int32)) d2_91 rfl rfl ?_
                          refine Wk.icmp (q := 132) (q' := 96) d2_93 (by decide) rfl rfl (fun (h45 : z0 = (45 : Int32)) => ?_) (fun (h45 : ¬ z0 = (45 : Int32)) => ?_)
                          · refine Wk.iconst (q := 133) (v := (1 : Int32)) d2_132 rfl rfl ?_
                            refine Wk.goto (q := 137) d2_133 (by decide) rfl ?_
                            simp only [Int32.lt_iff_toInt_lt, ← Int32.toInt_inj, Int32.reduceToInt] at h1 h2 h35 h36 h37 h38 h39 h40 h41 h42 h43 h44 h45
                            exact Wk.retZ rfl rfl d2_137 (by decide) (by decide) ⟨by rw [tab1 (by omega)], rfl⟩
                          · refine Wk.iloadN (q := 97) d2_96 rfl rfl ?_
                            refine Wk.bipush (q := 99) (v := (46 : Int32)) d2_97 rfl rfl ?_
                            refine Wk.icmp (q := 132) (q' := 102) d2_99 (by decide) rfl rfl (fun (h46 : z0 = (46 : Int32)) => ?_) (fun (h46 : ¬ z0 = (46 : Int32)) => ?_)
                            · refine Wk.iconst (q := 133) (v := (1 : Int32)) d2_132 rfl rfl ?_
                              refine Wk.goto (q := 137) d2_133 (by decide) rfl ?_
                              simp only [Int32.lt_iff_toInt_lt, ← Int32.toInt_inj, Int32.reduceToInt] at h1 h2 h35 h36 h37 h38 h39 h40 h41 h42 h43 h44 h45 h46
                              exact Wk.retZ rfl rfl d2_137 (by decide) (by decide) ⟨by rw [tab1 (by omega)], rfl⟩
                            · refine Wk.iloadN (q := 103) d2_102 rfl rfl ?_
                              refine Wk.bipush (q := 105) (v := (94 : Int32)) d2_103 rfl rfl ?_
                              refine Wk.icmp (q := 132) (q' := 108) d2_105 (by decide) rfl rfl (fun (h47 : z0 = (94 : Int32)) => ?_) (fun (h47 : ¬ z0 = (94 : Int32)) => ?_)
                              · refine Wk.iconst (q := 133) (v := (1 : Int32)) d2_132 rfl rfl ?_
                                refine Wk.goto (q := 137) d2_133 (by decide) rfl ?_
                                simp only [Int32.lt_iff_toInt_lt, ← Int32.toInt_inj, Int32.reduceToInt] at h1 h2 h35 h36 h37 h38 h39 h40 h41 h42 h43 h44 h45 h46 h47
                                exact Wk.retZ rfl rfl d2_137 (by decide) (by decide) ⟨by rw [tab1 (by omega)], rfl⟩
                              · refine Wk.iloadN (q := 109) d2_108 rfl rfl ?_
                                refine Wk.bipush (q := 111) (v := (95 : Int32)) d2_109 rfl rfl ?_
                                refine Wk.icmp (q := 132) (q' := 114) d2_111 (by decide) rfl rfl (fun (h48 : z0 = (95 : Int32)) => ?_) (fun (h48 : ¬ z0 = (95 : Int32)) => ?_)
                                · refine Wk.iconst (q := 133) (v := (1 : Int32)) d2_132 rfl rfl ?_
                                  refine Wk.goto (q := 137) d2_133 (by decide) rfl ?_
                                  simp only [Int32.lt_iff_toInt_lt, ← Int32.toInt_inj, Int32.reduceToInt] at h1 h2 h35 h36 h37 h38 h39 h40 h41 h42 h43 h44 h45 h46 h47 h48
                                  exact Wk.retZ rfl rfl d2_137 (by decide) (by decide) ⟨by rw [tab1 (by omega)], rfl⟩
                                · refine Wk.iloadN (q := 115) d2_114 rfl rfl ?_
                                  refine Wk.bipush (q := 117) (v := (96 : Int32)) d2_115 rfl rfl ?_
                                  refine Wk.icmp (q := 132) (q' := 120) d2_117 (by decide) rfl rfl (fun (h49 : z0 = (96 : Int32)) => ?_) (fun (h49 : ¬ z0 = (96 : Int32)) => ?_)
                                  · refine Wk.iconst (q := 133) (v := (1 : Int32)) d2_132 rfl rfl ?_
                                    refine Wk.goto (q := 137) d2_133 (by decide) rfl ?_
                                    simp only [Int32.lt_iff_toInt_lt, ← Int32.toInt_inj, Int32.reduceToInt] at h1 h2 h35 h36 h37 h38 h39 h40 h41 h42 h43 h44 h45 h46 h47 h48 h49
                                    exact Wk.retZ rfl rfl d2_137 (by decide) (by decide) ⟨by rw [tab1 (by omega)], rfl⟩
                                  · refine Wk.iloadN (q := 121) d2_120 rfl rfl ?_
                                    refine Wk.bipush (q := 123) (v := (124 : Int32)) d2_121 rfl rfl ?_
                                    refine Wk.icmp (q := 132) (q' := 126) d2_123 (by decide) rfl rfl (fun (h50 : z0 = (124 : Int32)) => ?_) (fun (h50 : ¬ z0 = (124 : Int32)) => ?_)
                                    · refine Wk.iconst (q := 133) (v := (1 : Int32)) d2_132 rfl rfl ?_
                                      refine Wk.goto (q := 137) d2_133 (by decide) rfl ?_
                                      simp only [Int32.lt_iff_toInt_lt, ← Int32.toInt_inj, Int32.reduceToInt] at h1 h2 h35 h36 h37 h38 h39 h40 h41 h42 h43 h44 h45 h46 h47 h48 h49 h50
                                      exact Wk.retZ rfl rfl d2_137 (by decide) (by decide) ⟨by rw [tab1 (by omega)], rfl⟩
                                    · refine Wk.iloadN (q := 127) d2_126 rfl rfl ?_
                                      refine Wk.bipush (q := 129) (v := (126 : Int32)) d2_127 rfl rfl ?_
                                      refine Wk.icmp (q := 136) (q' := 132) d2_129 (by decide) rfl rfl (fun (h51 : ¬ z0 = (126 : Int32)) => ?_) (fun (h51 : z0 = (126 : Int32)) => ?_)
                                      · refine Wk.iconst (q := 137) (v := (0 : Int32)) d2_136 rfl rfl ?_
                                        simp only [Int32.lt_iff_toInt_lt, ← Int32.toInt_inj, Int32.reduceToInt] at h1 h2 h35 h36 h37 h38 h39 h40 h41 h42 h43 h44 h45 h46 h47 h48 h49 h50 h51
                                        exact Wk.retZ rfl rfl d2_137 (by decide) (by decide) ⟨by rw [tab0 (by omega)], rfl⟩
                                      · refine Wk.iconst (q := 133) (v := (1 : Int32)) d2_132 rfl rfl ?_
                                        refine Wk.goto (q := 137) d2_133 (by decide) rfl ?_
                                        simp only [Int32.lt_iff_toInt_lt, ← Int32.toInt_inj, Int32.reduceToInt] at h1 h2 h35 h36 h37 h38 h39 h40 h41 h42 h43 h44 h45 h46 h47 h48 h49 h50 h51
                                        exact Wk.retZ rfl rfl d2_137 (by decide) (by decide) ⟨by rw [tab1 (by omega)], rfl⟩
        · refine Wk.iloadN (q := 35) d2_34 rfl rfl ?_
          refine Wk.bipush (q := 37) (v := (122 : Int32)) d2_35 rfl rfl ?_
          refine Wk.icmp (q := 42) (q' := 40) d2_37 (by decide) rfl rfl (fun (h52 : (122 : Int32) < z0) => ?_) (fun (h52 : ¬ (122 : Int32) < z0) => ?_)
          · refine Wk.iloadN (q := 43) d2_42 rfl rfl ?_
            refine Wk.bipush (q := 45) (v := (33 : Int32)) d2_43 rfl rfl ?_
            refine Wk.icmp (q := 132) (q' := 48) d2_45 (by decide) rfl rfl (fun (h53 : z0 = (33 : Int32)) => ?_) (fun (h53 : ¬ z0 = (33 : Int32)) => ?_)
            · refine Wk.iconst (q := 133) (v := (1 : Int32)) d2_132 rfl rfl ?_
              refine Wk.goto (q := 137) d2_133 (by decide) rfl ?_
              simp only [Int32.lt_iff_toInt_lt, ← Int32.toInt_inj, Int32.reduceToInt] at h1 h2 h35 h36 h52 h53
              exact Wk.retZ rfl rfl d2_137 (by decide) (by decide) ⟨by rw [tab1 (by omega)], rfl⟩
            · refine Wk.iloadN (q := 49) d2_48 rfl rfl ?_
              refine Wk.bipush (q := 51) (v := (35 : Int32)) d2_49 rfl rfl ?_
              refine Wk.icmp (q := 132) (q' := 54) d2_51 (by decide) rfl rfl (fun (h54 : z0 = (35 : Int32)) => ?_) (fun (h54 : ¬ z0 = (35 : Int32)) => ?_)
              · refine Wk.iconst (q := 133) (v := (1 : Int32)) d2_132 rfl rfl ?_
                refine Wk.goto (q := 137) d2_133 (by decide) rfl ?_
                simp only [Int32.lt_iff_toInt_lt, ← Int32.toInt_inj, Int32.reduceToInt] at h1 h2 h35 h36 h52 h53 h54
                exact Wk.retZ rfl rfl d2_137 (by decide) (by decide) ⟨by rw [tab1 (by omega)], rfl⟩
              · refine Wk.iloadN (q := 55) d2_54 rfl rfl ?_
                refine Wk.bipush (q := 57) (v := (36 : Int32)) d2_55 rfl rfl ?_
                refine Wk.icmp (q := 132) (q' := 60) d2_57 (by decide) rfl rfl (fun (h55 : z0 = (36 : Int32)) => ?_) (fun (h55 : ¬ z0 = (36 : Int32)) => ?_)
                · refine Wk.iconst (q := 133) (v := (1 : Int32)) d2_132 rfl rfl ?_
                  refine Wk.goto (q := 137) d2_133 (by decide) rfl ?_
                  simp only [Int32.lt_iff_toInt_lt, ← Int32.toInt_inj, Int32.reduceToInt] at h1 h2 h35 h36 h52 h53 h54 h55
                  exact Wk.retZ rfl rfl d2_137 (by decide) (by decide) ⟨by rw [tab1 (by omega)], rfl⟩
                · refine Wk.iloadN (q := 61) d2_60 rfl rfl ?_
                  refine Wk.bipush (q := 63) (v := (37 : Int32)) d2_61 rfl rfl ?_
                  refine Wk.icmp (q := 132) (q' := 66) d2_63 (by decide) rfl rfl (fun (h56 : z0 = (37 : Int32)) => ?_) (fun (h56 : ¬ z0 = (37 : Int32)) => ?_)
                  · refine Wk.iconst (q := 133) (v := (1 : Int32)) d2_132 rfl rfl ?_
                    refine Wk.goto (q := 137) d2_133 (by decide) rfl ?_
                    simp only [Int32.lt_iff_toInt_lt, ← Int32.toInt_inj, Int32.reduceToInt] at h1 h2 h35 h36 h52 h53 h54 h55 h56
                    exact Wk.retZ rfl rfl d2_137 (by decide) (by decide) ⟨by rw [tab1 (by omega)], rfl⟩
                  · refine Wk.iloadN (q := 67) d2_66 rfl rfl ?_
                    refine Wk.bipush (q := 69) (v := (38 : Int32)) d2_67 rfl rfl ?_
                    refine Wk.icmp (q := 132) (q' := 72) d2_69 (by decide) rfl rfl (fun (h57 : z0 = (38 : Int32)) => ?_) (fun (h57 : ¬ z0 = (38 : Int32)) => ?_)
                    · refine Wk.iconst (q := 133) (v := (1 : Int32)) d2_132 rfl rfl ?_
                      refine Wk.goto (q := 137) d2_133 (by decide) rfl ?_
                      simp only [Int32.lt_iff_toInt_lt, ← Int32.toInt_inj, Int32.reduceToInt] at h1 h2 h35 h36 h52 h53 h54 h55 h56 h57
                      exact Wk.retZ rfl rfl d2_137 (by decide) (by decide) ⟨by rw [tab1 (by omega)], rfl⟩
                    · refine Wk.iloadN (q := 73) d2_72 rfl rfl ?_
                      refine Wk.bipush (q := 75) (v := (39 : Int32)) d2_73 rfl rfl ?_
                      refine Wk.icmp (q := 132) (q' := 78) d2_75 (by decide) rfl rfl (fun (h58 : z0 = (39 : Int32)) => ?_) (fun (h58 : ¬ z0 = (39 : Int32)) => ?_)
                      · refine Wk.iconst (q := 133) (v := (1 : Int32)) d2_132 rfl rfl ?_
                        refine Wk.goto (q := 137) d2_133 (by decide) rfl ?_
                        simp only [Int32.lt_iff_toInt_lt, ← Int32.toInt_inj, Int32.reduceToInt] at h1 h2 h35 h36 h52 h53 h54 h55 h56 h57 h58
                        exact Wk.retZ rfl rfl d2_137 (by decide) (by decide) ⟨by rw [tab1 (by omega)], rfl⟩
                      · refine Wk.iloadN (q := 79) d2_78 rfl rfl ?_
                        refine Wk.bipush (q := 81) (v := (42 : Int32)) d2_79 rfl rfl ?_
                        refine Wk.icmp (q := 132) (q' := 84) d2_81 (by decide) rfl rfl (fun (h59 : z0 = (42 : Int32)) => ?_) (fun (h59 : ¬ z0 = (42 : Int32)) => ?_)
                        · refine Wk.iconst (q := 133) (v := (1 : Int32)) d2_132 rfl rfl ?_
                          refine Wk.goto (q := 137) d2_133 (by decide) rfl ?_
                          simp only [Int32.lt_iff_toInt_lt, ← Int32.toInt_inj, Int32.reduceToInt] at h1 h2 h35 h36 h52 h53 h54 h55 h56 h57 h58 h59
                          exact Wk.retZ rfl rfl d2_137 (by decide) (by decide) ⟨by rw [tab1 (by omega)], rfl⟩
                        · refine Wk.iloadN (q := 85) d2_84 rfl rfl ?_
                          refine Wk.bipush (q := 87) (v := (43 : Int32)) d2_85 rfl rfl ?_
                          refine Wk.icmp (q := 132) (q' := 90) d2_87 (by decide) rfl rfl (fun (h60 : z0 = (43 : Int32)) => ?_) (fun (h60 : ¬ z0 = (43 : Int32)) => ?_)
                          · refine Wk.iconst (q := 133) (v := (1 : Int32)) d2_132 rfl rfl ?_
                            refine Wk.goto (q := 137) d2_133 (by decide) rfl ?_
                            simp only [Int32.lt_iff_toInt_lt, ← Int32.toInt_inj, Int32.reduceToInt] at h1 h2 h35 h36 h52 h53 h54 h55 h56 h57 h58 h59 h60
                            exact Wk.retZ rfl rfl d2_137 (by decide) (by decide) ⟨by rw [tab1 (by omega)], rfl⟩
                          · refine Wk.iloadN (q := 91) d2_90 rfl rfl ?_
                            refine Wk.bipush (q := 93) (v := (45 : Int32)) d2_91 rfl rfl ?_
                            refine Wk.icmp (q := 132) (q' := 96) d2_93 (by decide) rfl rfl (fun (h61 : z0 = (45 : Int32)) => ?_) (fun (h61 : ¬ z0 = (45 : Int32)) => ?_)
                            · refine Wk.iconst (q := 133) (v := (1 : Int32)) d2_132 rfl rfl ?_
                              refine Wk.goto (q := 137) d2_133 (by decide) rfl ?_
                              simp only [Int32.lt_iff_toInt_lt, ← Int32.toInt_inj, Int32.reduceToInt] at h1 h2 h35 h36 h52 h53 h54 h55 h56 h57 h58 h59 h60 h61
                              exact Wk.retZ rfl rfl d2_137 (by decide) (by decide) ⟨by rw [tab1 (by omega)], rfl⟩
                            · refine Wk.iloadN (q := 97) d2_96 rfl rfl ?_
                              refine Wk.bipush (q := 99) (v := (46 : Int32)) d2_97 rfl rfl ?_
                              refine Wk.icmp (q := 132) (q' := 102) d2_99 (by decide) rfl rfl (fun (h62 : z0 = (46 : Int32)) => ?_) (fun (h62 : ¬ z0 = (46 : Int32)) => ?_)
                              · refine Wk.iconst (q := 133) (v := (1 : Int32)) d2_132 rfl rfl ?_
                                refine Wk.goto (q := 137) d2_133 (by decide) rfl ?_
                                simp only [Int32.lt_iff_toInt_lt, ← Int32.toInt_inj, Int32.reduceToInt] at h1 h2 h35 h36 h52 h53 h54 h55 h56 h57 h58 h59 h60 h61 h62
                                exact Wk.retZ rfl rfl d2_137 (by decide) (by decide) ⟨by rw [tab1 (by omega)], rfl⟩
                              · refine Wk.iloadN (q := 103) d2_102 rfl rfl ?_
                                refine Wk.bipush (q := 105) (v := (94 : Int32)) d2_103 rfl rfl ?_
                                refine Wk.icmp (q := 132) (q' := 108) d2_105 (by decide) rfl rfl (fun (h63 : z0 = (94 : Int32)) => ?_) (fun (h63 : ¬ z0 = (94 : Int32)) => ?_)
                                · refine Wk.iconst (q := 133) (v := (1 : Int32)) d2_132 rfl rfl ?_
                                  refine Wk.goto (q := 137) d2_133 (by decide) rfl ?_
                                  simp only [Int32.lt_iff_toInt_lt, ← Int32.toInt_inj, Int32.reduceToInt] at h1 h2 h35 h36 h52 h53 h54 h55 h56 h57 h58 h59 h60 h61 h62 h63
                                  exact Wk.retZ rfl rfl d2_137 (by decide) (by decide) ⟨by rw [tab1 (by omega)], rfl⟩
                                · refine Wk.iloadN (q := 109) d2_108 rfl rfl ?_
                                  refine Wk.bipush (q := 111) (v := (95 : Int32)) d2_109 rfl rfl ?_
                                  refine Wk.icmp (q := 132) (q' := 114) d2_111 (by decide) rfl rfl (fun (h64 : z0 = (95 : Int32)) => ?_) (fun (h64 : ¬ z0 = (95 : Int32)) => ?_)
                                  · refine Wk.iconst (q := 133) (v := (1 : Int32)) d2_132 rfl rfl ?_
                                    refine Wk.goto (q := 137) d2_133 (by decide) rfl ?_
                                    simp only [Int32.lt_iff_toInt_lt, ← Int32.toInt_inj, Int32.reduceToInt] at h1 h2 h35 h36 h52 h53 h54 h55 h56 h57 h58 h59 h60 h61 h62 h63 h64
                                    exact Wk.retZ rfl rfl d2_137 (by decide) (by decide) ⟨by rw [tab1 (by omega)], rfl⟩
                                  · refine Wk.iloadN (q := 115) d2_114 rfl rfl ?_
                                    refine Wk.bipush (q := 117) (v := (96 : Int32)) d2_115 rfl rfl ?_
                                    refine Wk.icmp (q := 132) (q' := 120) d2_117 (by decide) rfl rfl (fun (h65 : z0 = (96 : Int32)) => ?_) (fun (h65 : ¬ z0 = (96 : Int32)) => ?_)
                                    · refine Wk.iconst (q := 133) (v := (1 : Int32)) d2_132 rfl rfl ?_
                                      refine Wk.goto (q := 137) d2_133 (by decide) rfl ?_
                                      simp only [Int32.lt_iff_toInt_lt, ← Int32.toInt_inj, Int32.reduceToInt] at h1 h2 h35 h36 h52 h53 h54 h55 h56 h57 h58 h59 h60 h61 h62 h63 h64 h65
                                      exact Wk.retZ rfl rfl d2_137 (by decide) (by decide) ⟨by rw [tab1 (by omega)], rfl⟩
                                    · refine Wk.iloadN (q := 121) d2_120 rfl rfl ?_
                                      refine Wk.bipush (q := 123) (v := (124 : Int32)) d2_121 rfl rfl ?_
                                      refine Wk.icmp (q := 132) (q' := 126) d2_123 (by decide) rfl rfl (fun (h66 : z0 = (124 : Int32)) => ?_) (fun (h66 : ¬ z0 = (124 : Int32)) => ?_)
                                      · refine Wk.iconst (q := 133) (v := (1 : Int32)) d2_132 rfl rfl ?_
                                        refine Wk.goto (q := 137) d2_133 (by decide) rfl ?_
                                        simp only [Int32.lt_iff_toInt_lt, ← Int32.toInt_inj, Int32.reduceToInt] at h1 h2 h35 h36 h52 h53 h54 h55 h56 h57 h58 h59 h60 h61 h62 h63 h64 h65 h66
                                        exact Wk.retZ rfl rfl d2_137 (by decide) (by decide) ⟨by rw [tab1 (by omega)], rfl⟩
                                      · refine Wk.iloadN (q := 127) d2_126 rfl rfl ?_
                                        refine Wk.bipush (q := 129) (v := (126 : Int32)) d2_127 rfl rfl ?_
                                        refine Wk.icmp (q := 136) (q' := 132) d2_129 (by decide) rfl rfl (fun (h67 : ¬ z0 = (126 : Int32)) => ?_) (fun (h67 : z0 = (126 : Int32)) => ?_)
                                        · refine Wk.iconst (q := 137) (v := (0 : Int32)) d2_136 rfl rfl ?_
                                          simp only [Int32.lt_iff_toInt_lt, ← Int32.toInt_inj, Int32.reduceToInt] at h1 h2 h35 h36 h52 h53 h54 h55 h56 h57 h58 h59 h60 h61 h62 h63 h64 h65 h66 h67
                                          exact Wk.retZ rfl rfl d2_137 (by decide) (by decide) ⟨by rw [tab0 (by omega)], rfl⟩
                                        · refine Wk.iconst (q := 133) (v := (1 : Int32)) d2_132 rfl rfl ?_
                                          refine Wk.goto (q := 137) d2_133 (by decide) rfl ?_
                                          simp only [Int32.lt_iff_toInt_lt, ← Int32.toInt_inj, Int32.reduceToInt] at h1 h2 h35 h36 h52 h53 h54 h55 h56 h57 h58 h59 h60 h61 h62 h63 h64 h65 h66 h67
                                          exact Wk.retZ rfl rfl d2_137 (by decide) (by decide) ⟨by rw [tab1 (by omega)], rfl⟩
          · refine Wk.iconst (q := 41) (v := (1 : Int32)) d2_40 rfl rfl ?_
            simp only [Int32.lt_iff_toInt_lt, ← Int32.toInt_inj, Int32.reduceToInt] at h1 h2 h35 h36 h52
            exact Wk.retZ rfl rfl d2_41 (by decide) (by decide) ⟨by rw [tab1 (by omega)], rfl⟩
      · refine Wk.iconst (q := 27) (v := (1 : Int32)) d2_26 rfl rfl ?_
        simp only [Int32.lt_iff_toInt_lt, ← Int32.toInt_inj, Int32.reduceToInt] at h1 h2 h35
        exact Wk.retZ rfl rfl d2_27 (by decide) (by decide) ⟨by rw [tab1 (by omega)], rfl⟩
  · refine Wk.iloadN (q := 7) d2_6 rfl rfl ?_
    refine Wk.bipush (q := 9) (v := (57 : Int32)) d2_7 rfl rfl ?_
    refine Wk.icmp (q := 14) (q' := 12) d2_9 (by decide) rfl rfl (fun (h68 : (57 : Int32) < z0) => ?_) (fun (h68 : ¬ (57 : Int32) < z0) => ?_)
    · refine Wk.iloadN (q := 15) d2_14 rfl rfl ?_
      refine Wk.bipush (q := 17) (v := (65 : Int32)) d2_15 rfl rfl ?_
      refine Wk.icmp (q := 28) (q' := 20) d2_17 (by decide) rfl rfl (fun (h69 : z0 < (65 : Int32)) => ?_) (fun (h69 : ¬ z0 < (65 : Int32)) => ?_)
      · refine Wk.iloadN (q := 29) d2_28 rfl rfl ?_
        refine Wk.bipush (q := 31) (v := (97 : Int32)) d2_29 rfl rfl ?_
        refine Wk.icmp (q := 42) (q' := 34) d2_31 (by decide) rfl rfl (fun (h70 : z0 < (97 : Int32)) => ?_) (fun (h70 : ¬ z0 < (97 : Int32)) => ?_)
        · refine Wk.iloadN (q := 43) d2_42 rfl rfl ?_
          refine Wk.bipush (q := 45) (v := (33 : Int32)) d2_43 rfl rfl ?_
          refine Wk.icmp (q := 132) (q' := 48) d2_45 (by decide) rfl rfl (fun (h71 : z0 = (33 : Int32)) => ?_) (fun (h71 : ¬ z0 = (33 : Int32)) => ?_)
          · refine Wk.iconst (q := 133) (v := (1 : Int32)) d2_132 rfl rfl ?_
            refine Wk.goto (q := 137) d2_133 (by decide) rfl ?_
            simp only [Int32.lt_iff_toInt_lt, ← Int32.toInt_inj, Int32.reduceToInt] at h1 h68 h69 h70 h71
            exact Wk.retZ rfl rfl d2_137 (by decide) (by decide) ⟨by rw [tab1 (by omega)], rfl⟩
          · refine Wk.iloadN (q := 49) d2_48 rfl rfl ?_
            refine Wk.bipush (q := 51) (v := (35 : Int32)) d2_49 rfl rfl ?_
            refine Wk.icmp (q := 132) (q' := 54) d2_51 (by decide) rfl rfl (fun (h72 : z0 = (35 : Int32)) => ?_) (fun (h72 : ¬ z0 = (35 : Int32)) => ?_)
            · refine Wk.iconst (q := 133) (v := (1 : Int32)) d2_132 rfl rfl ?_
              refine Wk.goto (q := 137) d2_133 (by decide) rfl ?_
              simp only [Int32.lt_iff_toInt_lt, ← Int32.toInt_inj, Int32.reduceToInt] at h1 h68 h69 h70 h71 h72
              exact Wk.retZ rfl rfl d2_137 (by decide) (by decide) ⟨by rw [tab1 (by omega)], rfl⟩
            · refine Wk.iloadN (q := 55) d2_54 rfl rfl ?_
              refine Wk.bipush (q := 57) (v := (36 : Int32)) d2_55 rfl rfl ?_
              refine Wk.icmp (q := 132) (q' := 60) d2_57 (by decide) rfl rfl (fun (h73 : z0 = (36 : Int32)) => ?_) (fun (h73 : ¬ z0 = (36 : Int32)) => ?_)
              · refine Wk.iconst (q := 133) (v := (1 : Int32)) d2_132 rfl rfl ?_
                refine Wk.goto (q := 137) d2_133 (by decide) rfl ?_
                simp only [Int32.lt_iff_toInt_lt, ← Int32.toInt_inj, Int32.reduceToInt] at h1 h68 h69 h70 h71 h72 h73
                exact Wk.retZ rfl rfl d2_137 (by decide) (by decide) ⟨by rw [tab1 (by omega)], rfl⟩
              · refine Wk.iloadN (q := 61) d2_60 rfl rfl ?_
                refine Wk.bipush (q := 63) (v := (37 : Int32)) d2_61 rfl rfl ?_
                refine Wk.icmp (q := 132) (q' := 66) d2_63 (by decide) rfl rfl (fun (h74 : z0 = (37 : Int32)) => ?_) (fun (h74 : ¬ z0 = (37 : Int32)) => ?_)
                · refine Wk.iconst (q := 133) (v := (1 : Int32)) d2_132 rfl rfl ?_
                  refine Wk.goto (q := 137) d2_133 (by decide) rfl ?_
                  simp only [Int32.lt_iff_toInt_lt, ← Int32.toInt_inj, Int32.reduceToInt] at h1 h68 h69 h70 h71 h72 h73 h74
                  exact Wk.retZ rfl rfl d2_137 (by decide) (by decide) ⟨by rw [tab1 (by omega)], rfl⟩
                · refine Wk.iloadN (q := 67) d2_66 rfl rfl ?_
                  refine Wk.bipush (q := 69) (v := (38 : Int32)) d2_67 rfl rfl ?_
                  refine Wk.icmp (q := 132) (q' := 72) d2_69 (by decide) rfl rfl (fun (h75 : z0 = (38 : Int32)) => ?_) (fun (h75 : ¬ z0 = (38 : Int32)) => ?_)
                  · refine Wk.iconst (q := 133) (v := (1 : Int32)) d2_132 rfl rfl ?_
                    refine Wk.goto (q := 137) d2_133 (by decide) rfl ?_
                    simp only [Int32.lt_iff_toInt_lt, ← Int32.toInt_inj, Int32.reduceToInt] at h1 h68 h69 h70 h71 h72 h73 h74 h75
                    exact Wk.retZ rfl rfl d2_137 (by decide) (by decide) ⟨by rw [tab1 (by omega)], rfl⟩
                  · refine Wk.iloadN (q := 73) d2_72 rfl rfl ?_
                    refine Wk.bipush (q := 75) (v := (39 : Int32)) d2_73 rfl rfl ?_
                    refine Wk.icmp (q := 132) (q' := 78) d2_75 (by decide) rfl rfl (fun (h76 : z0 = (39 : Int32)) => ?_) (fun (h76 : ¬ z0 = (39 : Int32)) => ?_)
                    · refine Wk.iconst (q := 133) (v := (1 : Int32)) d2_132 rfl rfl ?_
                      refine Wk.goto (q := 137) d2_133 (by decide) rfl ?_
                      simp only [Int32.lt_iff_toInt_lt, ← Int32.toInt_inj, Int32.reduceToInt] at h1 h68 h69 h70 h71 h72 h73 h74 h75 h76
                      exact Wk.retZ rfl rfl d2_137 (by decide) (by decide) ⟨by rw [tab1 (by omega)], rfl⟩
                    · refine Wk.iloadN (q := 79) d2_78 rfl rfl ?_
                      refine Wk.bipush (q := 81) (v := (42 : Int32)) d2_79 rfl rfl ?_
                      refine Wk.icmp (q := 132) (q' := 84) d2_81 (by decide) rfl rfl (fun (h77 : z0 = (42 : Int32)) => ?_) (fun (h77 : ¬ z0 = (42 : Int32)) => ?_)
                      · refine Wk.iconst (q := 133) (v := (1 : Int32)) d2_132 rfl rfl ?_
                        refine Wk.goto (q := 137) d2_133 (by decide) rfl ?_
                        simp only [Int32.lt_iff_toInt_lt, ← Int32.toInt_inj, Int32.reduceToInt] at h1 h68 h69 h70 h71 h72 h73 h74 h75 h76 h77
                        exact Wk.retZ rfl rfl d2_137 (by decide) (by decide) ⟨by rw [tab1 (by omega)], rfl⟩
                      · refine Wk.iloadN (q := 85) d2_84 rfl rfl ?_
                        refine Wk.bipush (q := 87) (v := (43 : Int32)) d2_85 rfl rfl ?_
                        refine Wk.icmp (q := 132) (q' := 90) d2_87 (by decide) rfl rfl (fun (h78 : z0 = (43 : Int32)) => ?_) (fun (h78 : ¬ z0 = (43 : Int32)) => ?_)
                        · refine Wk.iconst (q := 133) (v := (1 : Int32)) d2_132 rfl rfl ?_
                          refine Wk.goto (q := 137) d2_133 (by decide) rfl ?_
                          simp only [Int32.lt_iff_toInt_lt, ← Int32.toInt_inj, Int32.reduceToInt] at h1 h68 h69 h70 h71 h72 h73 h74 h75 h76 h77 h78
                          exact Wk.retZ rfl rfl d2_137 (by decide) (by decide) ⟨by rw [tab1 (by omega)], rfl⟩
                        · refine Wk.iloadN (q := 91) d2_90 rfl rfl ?_
                          refine Wk.bipush (q := 93) (v := (45 : Int32)) d2_91 rfl rfl ?_
                          refine Wk.icmp (q := 132) (q' := 96) d2_93 (by decide) rfl rfl (fun (h79 : z0 = (45 : Int32)) => ?_) (fun (h79 : ¬ z0 = (45 : Int32)) => ?_)
                          · refine Wk.iconst (q := 133) (v := (1 : Int32)) d2_132 rfl rfl ?_
                            refine Wk.goto (q := 137) d2_133 (by decide) rfl ?_
                            simp only [Int32.lt_iff_toInt_lt, ← Int32.toInt_inj, Int32.reduceToInt] at h1 h68 h69 h70 h71 h72 h73 h74 h75 h76 h77 h78 h79
                            exact Wk.retZ rfl rfl d2_137 (by decide) (by decide) ⟨by rw [tab1 (by omega)], rfl⟩
                          · refine Wk.iloadN (q := 97) d2_96 rfl rfl ?_
                            refine Wk.bipush (q := 99) (v := (46 : Int32)) d2_97 rfl rfl ?_
                            refine Wk.icmp (q := 132) (q' := 102) d2_99 (by decide) rfl rfl (fun (h80 : z0 = (46 : Int32)) => ?_) (fun (h80 : ¬ z0 = (46 : Int32)) => ?_)
                            · refine Wk.iconst (q := 133) (v := (1 : Int32)) d2_132 rfl rfl ?_
                              refine Wk.goto (q := 137) d2_133 (by decide) rfl ?_
                              simp only [Int32.lt_iff_toInt_lt, ← Int32.toInt_inj, Int32.reduceToInt] at h1 h68 h69 h70 h71 h72 h73 h74 h75 h76 h77 h78 h79 h80
                              exact Wk.retZ rfl rfl d2_137 (by decide) (by decide) ⟨by rw [tab1 (by omega)], rfl⟩
                            · refine Wk.iloadN (q := 103) d2_102 rfl rfl ?_
                              refine Wk.bipush (q := 105) (v := (94 : Int32)) d2_103 rfl rfl ?_
                              refine Wk.icmp (q := 132) (q' := 108) d2_105 (by decide) rfl rfl (fun (h81 : z0 = (94 : Int32)) => ?_) (fun (h81 : ¬ z0 = (94 : Int32)) => ?_)
                              · refine Wk.iconst (q := 133) (v := (1 : Int32)) d2_132 rfl rfl ?_
                                refine Wk.goto (q := 137) d2_133 (by decide) rfl ?_
                                simp only [Int32.lt_iff_toInt_lt, ← Int32.toInt_inj, Int32.reduceToInt] at h1 h68 h69 h70 h71 h72 h73 h74 h75 h76 h77 h78 h79 h80 h81
                                exact Wk.retZ rfl rfl d2_137 (by decide) (by decide) ⟨by rw [tab1 (by omega)], rfl⟩
                              · refine Wk.iloadN (q := 109) d2_108 rfl rfl ?_
                                refine Wk.bipush (q := 111) (v := (95 : Int32)) d2_109 rfl rfl ?_
                                refine Wk.icmp (q := 132) (q' := 114) d2_111 (by decide) rfl rfl (fun (h82 : z0 = (95 : Int32)) => ?_) (fun (h82 : ¬ z0 = (95 : Int32)) => ?_)
                                · refine Wk.iconst (q := 133) (v := (1 : Int32)) d2_132 rfl rfl ?_
                                  refine Wk.goto (q := 137) d2_133 (by decide) rfl ?_
                                  simp only [Int32.lt_iff_toInt_lt, ← Int32.toInt_inj, Int32.reduceToInt] at h1 h68 h69 h70 h71 h72 h73 h74 h75 h76 h77 h78 h79 h80 h81 h82
                                  exact Wk.retZ rfl rfl d2_137 (by decide) (by decide) ⟨by rw [tab1 (by omega)], rfl⟩
                                · refine Wk.iloadN (q := 115) d2_114 rfl rfl ?_
                                  refine Wk.bipush (q := 117) (v := (96 : Int32)) d2_115 rfl rfl ?_
                                  refine Wk.icmp (q := 132) (q' := 120) d2_117 (by decide) rfl rfl (fun (h83 : z0 = (96 : Int32)) => ?_) (fun (h83 : ¬ z0 = (96 : Int32)) => ?_)
                                  · refine Wk.iconst (q := 133) (v := (1 : Int32)) d2_132 rfl rfl ?_
                                    refine Wk.goto (q := 137) d2_133 (by decide) rfl ?_
                                    simp only [Int32.lt_iff_toInt_lt, ← Int32.toInt_inj, Int32.reduceToInt] at h1 h68 h69 h70 h71 h72 h73 h74 h75 h76 h77 h78 h79 h80 h81 h82 h83
                                    exact Wk.retZ rfl rfl d2_137 (by decide) (by decide) ⟨by rw [tab1 (by omega)], rfl⟩
                                  · refine Wk.iloadN (q := 121) d2_120 rfl rfl ?_
                                    refine Wk.bipush (q := 123) (v := (124 : Int32)) d2_121 rfl rfl ?_
                                    refine Wk.icmp (q := 132) (q' := 126) d2_123 (by decide) rfl rfl (fun (h84 : z0 = (124 : Int32)) => ?_) (fun (h84 : ¬ z0 = (124 : Int32)) => ?_)
                                    · refine Wk.iconst (q := 133) (v := (1 : Int32)) d2_132 rfl rfl ?_
                                      refine Wk.goto (q := 137) d2_133 (by decide) rfl ?_
                                      simp only [Int32.lt_iff_toInt_lt, ← Int32.toInt_inj, Int32.reduceToInt] at h1 h68 h69 h70 h71 h72 h73 h74 h75 h76 h77 h78 h79 h80 h81 h82 h83 h84
                                      exact Wk.retZ rfl rfl d2_137 (by decide) (by decide) ⟨by rw [tab1 (by omega)], rfl⟩
                                    · refine Wk.iloadN (q := 127) d2_126 rfl rfl ?_
                                      refine Wk.bipush (q := 129) (v := (126 : Int32)) d2_127 rfl rfl ?_
                                      refine Wk.icmp (q := 136) (q' := 132) d2_129 (by decide) rfl rfl (fun (h85 : ¬ z0 = (126 : Int32)) => ?_) (fun (h85 : z0 = (126 : Int32)) => ?_)
                                      · refine Wk.iconst (q := 137) (v := (0 : Int32)) d2_136 rfl rfl ?_
                                        simp only [Int32.lt_iff_toInt_lt, ← Int32.toInt_inj, Int32.reduceToInt] at h1 h68 h69 h70 h71 h72 h73 h74 h75 h76 h77 h78 h79 h80 h81 h82 h83 h84 h85
                                        exact Wk.retZ rfl rfl d2_137 (by decide) (by decide) ⟨by rw [tab0 (by omega)], rfl⟩
                                      · refine Wk.iconst (q := 133) (v := (1 : Int32)) d2_132 rfl rfl ?_
                                        refine Wk.goto (q := 137) d2_133 (by decide) rfl ?_
                                        simp only [Int32.lt_iff_toInt_lt, ← Int32.toInt_inj, Int32.reduceToInt] at h1 h68 h69 h70 h71 h72 h73 h74 h75 h76 h77 h78 h79 h80 h81 h82 h83 h84 h85
                                        exact Wk.retZ rfl rfl d2_137 (by decide) (by decide) ⟨by rw [tab1 (by omega)], rfl⟩
        · refine Wk.iloadN (q := 35) d2_34 rfl rfl ?_
          refine Wk.bipush (q := 37) (v := (122 : Int32)) d2_35 rfl rfl ?_
          refine Wk.icmp (q := 42) (q' := 40) d2_37 (by decide) rfl rfl (fun (h86 : (122 : Int32) < z0) => ?_) (fun (h86 : ¬ (122 : Int32) < z0) => ?_)
          · refine Wk.iloadN (q := 43) d2_42 rfl rfl ?_
            refine Wk.bipush (q := 45) (v := (33 : Int32)) d2_43 rfl rfl ?_
            refine Wk.icmp (q := 132) (q' := 48) d2_45 (by decide) rfl rfl (fun (h87 : z0 = (33 : Int32)) => ?_) (fun (h87 : ¬ z0 = (33 : Int32)) => ?_)
            · refine Wk.iconst (q := 133) (v := (1 : Int32)) d2_132 rfl rfl ?_
              refine Wk.goto (q := 137) d2_133 (by decide) rfl ?_
              simp only [Int32.lt_iff_toInt_lt, ← Int32.toInt_inj, Int32.reduceToInt] at h1 h68 h69 h70 h86 h87
              exact Wk.retZ rfl rfl d2_137 (by decide) (by decide) ⟨by rw [tab1 (by omega)], rfl⟩
            · refine Wk.iloadN (q := 49) d2_48 rfl rfl ?_
              refine Wk.bipush (q := 51) (v := (35 : Int32)) d2_49 rfl rfl ?_
              refine Wk.icmp (q := 132) (q' := 54) d2_51 (by decide) rfl rfl (fun (h88 : z0 = (35 : Int32)) => ?_) (fun (h88 : ¬ z0 = (35 : Int32)) => ?_)
              · refine Wk.iconst (q := 133) (v := (1 : Int32)) d2_132 rfl rfl ?_
                refine Wk.goto (q := 137) d2_133 (by decide) rfl ?_
                simp only [Int32.lt_iff_toInt_lt, ← Int32.toInt_inj, Int32.reduceToInt] at h1 h68 h69 h70 h86 h87 h88
                exact Wk.retZ rfl rfl d2_137 (by decide) (by decide) ⟨by rw [tab1 (by omega)], rfl⟩
              · refine Wk.iloadN (q := 55) d2_54 rfl rfl ?_
                refine Wk.bipush (q := 57) (v := (36 : Int32)) d2_55 rfl rfl ?_
                refine Wk.icmp (q := 132) (q' := 60) d2_57 (by decide) rfl rfl (fun (h89 : z0 = (36 : Int32)) => ?_) (fun (h89 : ¬ z0 = (36 : Int32)) => ?_)
                · refine Wk.iconst (q := 133) (v := (1 : Int32)) d2_132 rfl rfl ?_
                  refine Wk.goto (q := 137) d2_133 (by decide) rfl ?_
                  simp only [Int32.lt_iff_toInt_lt, ← Int32.toInt_inj, Int32.reduceToInt] at h1 h68 h69 h70 h86 h87 h88 h89
                  exact Wk.retZ rfl rfl d2_137 (by decide) (by decide) ⟨by rw [tab1 (by omega)], rfl⟩
                · refine Wk.iloadN (q := 61) d2_60 rfl rfl ?_
                  refine Wk.bipush (q := 63) (v := (37 : Int32)) d2_61 rfl rfl ?_
                  refine Wk.icmp (q := 132) (q' := 66) d2_63 (by decide) rfl rfl (fun (h90 : z0 = (37 : Int32)) => ?_) (fun (h90 : ¬ z0 = (37 : Int32)) => ?_)
                  · refine Wk.iconst (q := 133) (v := (1 : Int32)) d2_132 rfl rfl ?_
                    refine Wk.goto (q := 137) d2_133 (by decide) rfl ?_
                    simp only [Int32.lt_iff_toInt_lt, ← Int32.toInt_inj, Int32.reduceToInt] at h1 h68 h69 h70 h86 h87 h88 h89 h90
                    exact Wk.retZ rfl rfl d2_137 (by decide) (by decide) ⟨by rw [tab1 (by omega)], rfl⟩
                  · refine Wk.iloadN (q := 67) d2_66 rfl rfl ?_
                    refine Wk.bipush (q := 69) (v := (38 : Int32)) d2_67 rfl rfl ?_
                    refine Wk.icmp (q := 132) (q' := 72) d2_69 (by decide) rfl rfl (fun (h91 : z0 = (38 : Int32)) => ?_) (fun (h91 : ¬ z0 = (38 : Int32)) => ?_)
                    · refine Wk.iconst (q := 133) (v := (1 : Int32)) d2_132 rfl rfl ?_
                      refine Wk.goto (q := 137) d2_133 (by decide) rfl ?_
                      simp only [Int32.lt_iff_toInt_lt, ← Int32.toInt_inj, Int32.reduceToInt] at h1 h68 h69 h70 h86 h87 h88 h89 h90 h91
                      exact Wk.retZ rfl rfl d2_137 (by decide) (by decide) ⟨by rw [tab1 (by omega)], rfl⟩
                    · refine Wk.iloadN (q := 73) d2_72 rfl rfl ?_
                      refine Wk.bipush (q := 75) (v := (39 : Int32)) d2_73 rfl rfl ?_
                      refine Wk.icmp (q := 132) (q' := 78) d2_75 (by decide) rfl rfl (fun (h92 : z0 = (39 : Int32)) => ?_) (fun (h92 : ¬ z0 = (39 : Int32)) => ?_)
                      · refine Wk.iconst (q := 133) (v := (1 : Int32)) d2_132 rfl rfl ?_
                        refine Wk.goto (q := 137) d2_133 (by decide) rfl ?_
                        simp only [Int32.lt_iff_toInt_lt, ← Int32.toInt_inj, Int32.reduceToInt] at h1 h68 h69 h70 h86 h87 h88 h89 h90 h91 h92
                        exact Wk.retZ rfl rfl d2_137 (by decide) (by decide) ⟨by rw [tab1 (by omega)], rfl⟩
                      · refine Wk.iloadN (q := 79) d2_78 rfl rfl ?_
                        refine Wk.bipush (q := 81) (v := (42 : Int32)) d2_79 rfl rfl ?_
                        refine Wk.icmp (q := 132) (q' := 84) d2_81 (by decide) rfl rfl (fun (h93 : z0 = (42 : Int32)) => ?_) (fun (h93 : ¬ z0 = (42 : Int32)) => ?_)
                        · refine Wk.iconst (q := 133) (v := (1 : Int32)) d2_132 rfl rfl ?_
                          refine Wk.goto (q := 137) d2_133 (by decide) rfl ?_
                          simp only [Int32.lt_iff_toInt_lt, ← Int32.toInt_inj, Int32.reduceToInt] at h1 h68 h69 h70 h86 h87 h88 h89 h90 h91 h92 h93
                          exact Wk.retZ rfl rfl d2_137 (by decide) (by decide) ⟨by rw [tab1 (by omega)], rfl⟩
                        · refine Wk.iloadN (q := 85) d2_84 rfl rfl ?_
                          refine Wk.bipush (q := 87) (v := (43 : Int32)) d2_85 rfl rfl ?_
                          refine Wk.icmp (q := 132) (q' := 90) d2_87 (by decide) rfl rfl (fun (h94 : z0 = (43 : Int32)) => ?_) (fun (h94 : ¬ z0 = (43 : Int32)) => ?_)
                          · refine Wk.iconst (q := 133) (v := (1 : Int32)) d2_132 rfl rfl ?_
                            refine Wk.goto (q := 137) d2_133 (by decide) rfl ?_
                            simp only [Int32.lt_iff_toInt_lt, ← Int32.toInt_inj, Int32.reduceToInt] at h1 h68 h69 h70 h86 h87 h88 h89 h90 h91 h92 h93 h94
                            exact Wk.retZ rfl rfl d2_137 (by decide) (by decide) ⟨by rw [tab1 (by omega)], rfl⟩
                          · refine Wk.iloadN (q := 91) d2_90 rfl rfl ?_
                            refine Wk.bipush (q := 93) (v := (45 : Int32)) d2_91 rfl rfl ?_
                            refine Wk.icmp (q := 132) (q' := 96) d2_93 (by decide) rfl rfl (fun (h95 : z0 = (45 : Int32)) => ?_) (fun (h95 : ¬ z0 = (45 : Int32)) => ?_)
                            · refine Wk.iconst (q := 133) (v := (1 : Int32)) d2_132 rfl rfl ?_
                              refine Wk.goto (q := 137) d2_133 (by decide) rfl ?_
                              simp only [Int32.lt_iff_toInt_lt, ← Int32.toInt_inj, Int32.reduceToInt] at h1 h68 h69 h70 h86 h87 h88 h89 h90 h91 h92 h93 h94 h95
                              exact Wk.retZ rfl rfl d2_137 (by decide) (by decide) ⟨by rw [tab1 (by omega)], rfl⟩
                            · refine Wk.iloadN (q := 97) d2_96 rfl rfl ?_
                              refine Wk.bipush (q := 99) (v := (46 : Int32)) d2_97 rfl rfl ?_
                              refine Wk.icmp (q := 132) (q' := 102) d2_99 (by decide) rfl rfl (fun (h96 : z0 = (46 : Int32)) => ?_) (fun (h96 : ¬ z0 = (46 : Int32)) => ?_)
                              · refine Wk.iconst (q := 133) (v := (1 : Int32)) d2_132 rfl rfl ?_
                                refine Wk.goto (q := 137) d2_133 (by decide) rfl ?_
                                simp only [Int32.lt_iff_toInt_lt, ← Int32.toInt_inj, Int32.reduceToInt] at h1 h68 h69 h70 h86 h87 h88 h89 h90 h91 h92 h93 h94 h95 h96
                                exact Wk.retZ rfl rfl d2_137 (by decide) (by decide) ⟨by rw [tab1 (by omega)], rfl⟩
                              · refine Wk.iloadN (q := 103) d2_102 rfl rfl ?_
                                refine Wk.bipush (q := 105) (v := (94 : Int32)) d2_103 rfl rfl ?_
                                refine Wk.icmp (q := 132) (q' := 108) d2_105 (by decide) rfl rfl (fun (h97 : z0 = (94 : Int32)) => ?_) (fun (h97 : ¬ z0 = (94 : Int32)) => ?_)
                                · refine Wk.iconst (q := 133) (v := (1 : Int32)) d2_132 rfl rfl ?_
                                  refine Wk.goto (q := 137) d2_133 (by decide) rfl ?_
                                  simp only [Int32.lt_iff_toInt_lt, ← Int32.toInt_inj, Int32.reduceToInt] at h1 h68 h69 h70 h86 h87 h88 h89 h90 h91 h92 h93 h94 h95 h96 h97
                                  exact Wk.retZ rfl rfl d2_137 (by decide) (by decide) ⟨by rw [tab1 (by omega)], rfl⟩
                                · refine Wk.iloadN (q := 109) d2_108 rfl rfl ?_
                                  refine Wk.bipush (q := 111) (v := (95 : Int32)) d2_109 rfl rfl ?_
                                  refine Wk.icmp (q := 132) (q' := 114) d2_111 (by decide) rfl rfl (fun (h98 : z0 = (95 : Int32)) => ?_) (fun (h98 : ¬ z0 = (95 : Int32)) => ?_)
                                  · refine Wk.iconst (q := 133) (v := (1 : Int32)) d2_132 rfl rfl ?_
                                    refine Wk.goto (q := 137) d2_133 (by decide) rfl ?_
                                    simp only [Int32.lt_iff_toInt_lt, ← Int32.toInt_inj, Int32.reduceToInt] at h1 h68 h69 h70 h86 h87 h88 h89 h90 h91 h92 h93 h94 h95 h96 h97 h98
                                    exact Wk.retZ rfl rfl d2_137 (by decide) (by decide) ⟨by rw [tab1 (by omega)], rfl⟩
                                  · refine Wk.iloadN (q := 115) d2_114 rfl rfl ?_
                                    refine Wk.bipush (q := 117) (v := (96 : Int32)) d2_115 rfl rfl ?_
                                    refine Wk.icmp (q := 132) (q' := 120) d2_117 (by decide) rfl rfl (fun (h99 : z0 = (96 : Int32)) => ?_) (fun (h99 : ¬ z0 = (96 : Int32)) => ?_)
                                    · refine Wk.iconst (q := 133) (v := (1 : Int32)) d2_132 rfl rfl ?_
                                      refine Wk.goto (q := 137) d2_133 (by decide) rfl ?_
                                      simp only [Int32.lt_iff_toInt_lt, ← Int32.toInt_inj, Int32.reduceToInt] at h1 h68 h69 h70 h86 h87 h88 h89 h90 h91 h92 h93 h94 h95 h96 h97 h98 h99
                                      exact Wk.retZ rfl rfl d2_137 (by decide) (by decide) ⟨by rw [tab1 (by omega)], rfl⟩
                                    · refine Wk.iloadN (q := 121) d2_120 rfl rfl ?_
                                      refine Wk.bipush (q := 123) (v := (124 : Int32)) d2_121 rfl rfl ?_
                                      refine Wk.icmp (q := 132) (q' := 126) d2_123 (by decide) rfl rfl (fun (h100 : z0 = (124 : Int32)) => ?_) (fun (h100 : ¬ z0 = (124 : Int32)) => ?_)
                                      · refine Wk.iconst (q := 133) (v := (1 : Int32)) d2_132 rfl rfl ?_
                                        refine Wk.goto (q := 137) d2_133 (by decide) rfl ?_
                                        simp only [Int32.lt_iff_toInt_lt, ← Int32.toInt_inj, Int32.reduceToInt] at h1 h68 h69 h70 h86 h87 h88 h89 h90 h91 h92 h93 h94 h95 h96 h97 h98 h99 h100
                                        exact Wk.retZ rfl rfl d2_137 (by decide) (by decide) ⟨by rw [tab1 (by omega)], rfl⟩
                                      · refine Wk.iloadN (q := 127) d2_126 rfl rfl ?_
                                        refine Wk.bipush (q := 129) (v := (126 : Int32)) d2_127 rfl rfl ?_
                                        refine Wk.icmp (q := 136) (q' := 132) d2_129 (by decide) rfl rfl (fun (h101 : ¬ z0 = (126 : Int32)) => ?_) (fun (h101 : z0 = (126 : Int32)) => ?_)
                                        · refine Wk.iconst (q := 137) (v := (0 : Int32)) d2_136 rfl rfl ?_
                                          simp only [Int32.lt_iff_toInt_lt, ← Int32.toInt_inj, Int32.reduceToInt] at h1 h68 h69 h70 h86 h87 h88 h89 h90 h91 h92 h93 h94 h95 h96 h97 h98 h99 h100 h101
                                          exact Wk.retZ rfl rfl d2_137 (by decide) (by decide) ⟨by rw [tab0 (by omega)], rfl⟩
                                        · refine Wk.iconst (q := 133) (v := (1 : Int32)) d2_132 rfl rfl ?_
                                          refine Wk.goto (q := 137) d2_133 (by decide) rfl ?_
                                          simp only [Int32.lt_iff_toInt_lt, ← Int32.toInt_inj, Int32.reduceToInt] at h1 h68 h69 h70 h86 h87 h88 h89 h90 h91 h92 h93 h94 h95 h96 h97 h98 h99 h100 h101
                                          exact Wk.retZ rfl rfl d2_137 (by decide) (by decide) ⟨by rw [tab1 (by omega)], rfl⟩
          · refine Wk.iconst (q := 41) (v := (1 : Int32)) d2_40 rfl rfl ?_
            simp only [Int32.lt_iff_toInt_lt, ← Int32.toInt_inj, Int32.reduceToInt] at h1 h68 h69 h70 h86
            exact Wk.retZ rfl rfl d2_41 (by decide) (by decide) ⟨by rw [tab1 (by omega)], rfl⟩
      · refine Wk.iloadN (q := 21) d2_20 rfl rfl ?_
        refine Wk.bipush (q := 23) (v := (90 : Int32)) d2_21 rfl rfl ?_
        refine Wk.icmp (q := 28) (q' := 26) d2_23 (by decide) rfl rfl (fun (h102 : (90 : Int32) < z0) => ?_) (fun (h102 : ¬ (90 : Int32) < z0) => ?_)
        · refine Wk.iloadN (q := 29) d2_28 rfl rfl ?_
          refine Wk.bipush (q := 31) (v := (97 : Int32)) d2_29 rfl rfl ?_
          refine Wk.icmp (q := 42) (q' := 34) d2_31 (by decide) rfl rfl (fun (h103 : z0 < (97 : Int32)) => ?_) (fun (h103 : ¬ z0 < (97 : Int32)) => ?_)
          · refine Wk.iloadN (q := 43) d2_42 rfl rfl ?_
            refine Wk.bipush (q := 45) (v := (33 : Int32)) d2_43 rfl rfl ?_
            refine Wk.icmp (q := 132) (q' := 48) d2_45 (by decide) rfl rfl (fun (h104 : z0 = (33 : Int32)) => ?_) (fun (h104 : ¬ z0 = (33 : Int32)) => ?_)
            · refine Wk.iconst (q := 133) (v := (1 : Int32)) d2_132 rfl rfl ?_
              refine Wk.goto (q := 137) d2_133 (by decide) rfl ?_
              simp only [Int32.lt_iff_toInt_lt, ← Int32.toInt_inj, Int32.reduceToInt] at h1 h68 h69 h102 h103 h104
              exact Wk.retZ rfl rfl d2_137 (by decide) (by decide) ⟨by rw [tab1 (by omega)], rfl⟩
            · refine Wk.iloadN (q := 49) d2_48 rfl rfl ?_
              refine Wk.bipush (q := 51) (v := (35 : Int32)) d2_49 rfl rfl ?_
              refine Wk.icmp (q := 132) (q' := 54) d2_51 (by decide) rfl rfl (fun (h105 : z0 = (35 : Int32)) => ?_) (fun (h105 : ¬ z0 = (35 : Int32)) => ?_)
              · refine Wk.iconst (q := 133) (v := (1 : Int32)) d2_132 rfl rfl ?_
                refine Wk.goto (q := 137) d2_133 (by decide) rfl ?_
                simp only [Int32.lt_iff_toInt_lt, ← Int32.toInt_inj, Int32.reduceToInt] at h1 h68 h69 h102 h103 h104 h105
                exact Wk.retZ rfl rfl d2_137 (by decide) (by decide) ⟨by rw [tab1 (by omega)], rfl⟩
              · refine Wk.iloadN (q := 55) d2_54 rfl rfl ?_
                refine Wk.bipush (q := 57) (v := (36 : Int32)) d2_55 rfl rfl ?_
                refine Wk.icmp (q := 132) (q' := 60) d2_57 (by decide) rfl rfl (fun (h106 : z0 = (36 : Int32)) => ?_) (fun (h106 : ¬ z0 = (36 : Int32)) => ?_)
                · refine Wk.iconst (q := 133) (v := (1 : Int32)) d2_132 rfl rfl ?_
                  refine Wk.goto (q := 137) d2_133 (by decide) rfl ?_
                  simp only [Int32.lt_iff_toInt_lt, ← Int32.toInt_inj, Int32.reduceToInt] at h1 h68 h69 h102 h103 h104 h105 h106
                  exact Wk.retZ rfl rfl d2_137 (by decide) (by decide) ⟨by rw [tab1 (by omega)], rfl⟩
                · refine Wk.iloadN (q := 61) d2_60 rfl rfl ?_
                  refine Wk.bipush (q := 63) (v := (37 : Int32)) d2_61 rfl rfl ?_
                  refine Wk.icmp (q := 132) (q' := 66) d2_63 (by decide) rfl rfl (fun (h107 : z0 = (37 : Int32)) => ?_) (fun (h107 : ¬ z0 = (37 : Int32)) => ?_)
                  · refine Wk.iconst (q := 133) (v := (1 : Int32)) d2_132 rfl rfl ?_
                    refine Wk.goto (q := 137) d2_133 (by decide) rfl ?_
                    simp only [Int32.lt_iff_toInt_lt, ← Int32.toInt_inj, Int32.reduceToInt] at h1 h68 h69 h102 h103 h104 h105 h106 h107
                    exact Wk.retZ rfl rfl d2_137 (by decide) (by decide) ⟨by rw [tab1 (by omega)], rfl⟩
                  · refine Wk.iloadN (q := 67) d2_66 rfl rfl ?_
                    refine Wk.bipush (q := 69) (v := (38 : Int32)) d2_67 rfl rfl ?_
                    refine Wk.icmp (q := 132) (q' := 72) d2_69 (by decide) rfl rfl (fun (h108 : z0 = (38 : Int32)) => ?_) (fun (h108 : ¬ z0 = (38 : Int32)) => ?_)
                    · refine Wk.iconst (q := 133) (v := (1 : Int32)) d2_132 rfl rfl ?_
                      refine Wk.goto (q := 137) d2_133 (by decide) rfl ?_
                      simp only [Int32.lt_iff_toInt_lt, ← Int32.toInt_inj, Int32.reduceToInt] at h1 h68 h69 h102 h103 h104 h105 h106 h107 h108
                      exact Wk.retZ rfl rfl d2_137 (by decide) (by decide) ⟨by rw [tab1 (by omega)], rfl⟩
                    · refine Wk.iloadN (q := 73) d2_72 rfl rfl ?_
                      refine Wk.bipush (q := 75) (v := (39 : Int32)) d2_73 rfl rfl ?_
                      refine Wk.icmp (q := 132) (q' := 78) d2_75 (by decide) rfl rfl (fun (h109 : z0 = (39 : Int32)) => ?_) (fun (h109 : ¬ z0 = (39 : Int32)) => ?_)
                      · refine Wk.iconst (q := 133) (v := (1 : Int32)) d2_132 rfl rfl ?_
                        refine Wk.goto (q := 137) d2_133 (by decide) rfl ?_
                        simp only [Int32.lt_iff_toInt_lt, ← Int32.toInt_inj, Int32.reduceToInt] at h1 h68 h69 h102 h103 h104 h105 h106 h107 h108 h109
                        exact Wk.retZ rfl rfl d2_137 (by decide) (by decide) ⟨by rw [tab1 (by omega)], rfl⟩
                      · refine Wk.iloadN (q := 79) d2_78 rfl rfl ?_
                        refine Wk.bipush (q := 81) (v := (42 : Int32)) d2_79 rfl rfl ?_
                        refine Wk.icmp (q := 132) (q' := 84) d2_81 (by decide) rfl rfl (fun (h110 : z0 = (42 : Int32)) => ?_) (fun (h110 : ¬ z0 = (42 : Int32)) => ?_)
                        · refine Wk.iconst (q := 133) (v := (1 : Int32)) d2_132 rfl rfl ?_
                          refine Wk.goto (q := 137) d2_133 (by decide) rfl ?_
                          simp only [Int32.lt_iff_toInt_lt, ← Int32.toInt_inj, Int32.reduceToInt] at h1 h68 h69 h102 h103 h104 h105 h106 h107 h108 h109 h110
                          exact Wk.retZ rfl rfl d2_137 (by decide) (by decide) ⟨by rw [tab1 (by omega)], rfl⟩
                        · refine Wk.iloadN (q := 85) d2_84 rfl rfl ?_
                          refine Wk.bipush (q := 87) (v := (43 : Int32)) d2_85 rfl rfl ?_
                          refine Wk.icmp (q := 132) (q' := 90) d2_87 (by decide) rfl rfl (fun (h111 : z0 = (43 : Int32)) => ?_) (fun (h111 : ¬ z0 = (43 : Int32)) => ?_)
                          · refine Wk.iconst (q := 133) (v := (1 : Int32)) d2_132 rfl rfl ?_
                            refine Wk.goto (q := 137) d2_133 (by decide) rfl ?_
                            simp only [Int32.lt_iff_toInt_lt, ← Int32.toInt_inj, Int32.reduceToInt] at h1 h68 h69 h102 h103 h104 h105 h106 h107 h108 h109 h110 h111
                            exact Wk.retZ rfl rfl d2_137 (by decide) (by decide) ⟨by rw [tab1 (by omega)], rfl⟩
                          · refine Wk.iloadN (q := 91) d2_90 rfl rfl ?_
                            refine Wk.bipush (q := 93) (v := (45 : Int32)) d2_91 rfl rfl ?_
                            refine Wk.icmp (q := 132) (q' := 96) d2_93 (by decide) rfl rfl (fun (h112 : z0 = (45 : Int32)) => ?_) (fun (h112 : ¬ z0 = (45 : Int32)) => ?_)
                            · refine Wk.iconst (q := 133) (v := (1 : Int32)) d2_132 rfl rfl ?_
                              refine Wk.goto (q := 137) d2_133 (by decide) rfl ?_
                              simp only [Int32.lt_iff_toInt_lt, ← Int32.toInt_inj, Int32.reduceToInt] at h1 h68 h69 h102 h103 h104 h105 h106 h107 h108 h109 h110 h111 h112
                              exact Wk.retZ rfl rfl d2_137 (by decide) (by decide) ⟨by rw [tab1 (by omega)], rfl⟩
                            · refine Wk.iloadN (q := 97) d2_96 rfl rfl ?_
                              refine Wk.bipush (q := 99) (v := (46 : Int32)) d2_97 rfl rfl ?_
                              refine Wk.icmp (q := 132) (q' := 102) d2_99 (by decide) rfl rfl (fun (h113 : z0 = (46 : Int32)) => ?_) (fun (h113 : ¬ z0 = (46 : Int32)) => ?_)
                              · refine Wk.iconst (q := 133) (v := (1 : Int32)) d2_132 rfl rfl ?_
                                refine Wk.goto (q := 137) d2_133 (by decide) rfl ?_
                                simp only [Int32.lt_iff_toInt_lt, ← Int32.toInt_inj, Int32.reduceToInt] at h1 h68 h69 h102 h103 h104 h105 h106 h107 h108 h109 h110 h111 h112 h113
                                exact Wk.retZ rfl rfl d2_137 (by decide) (by decide) ⟨by rw [tab1 (by omega)], rfl⟩
                              · refine Wk.iloadN (q := 103) d2_102 rfl rfl ?_
                                refine Wk.bipush (q := 105) (v := (94 : Int32)) d2_103 rfl rfl ?_
                                refine Wk.icmp (q := 132) (q' := 108) d2_105 (by decide) rfl rfl (fun (h114 : z0 = (94 : Int32)) => ?_) (fun (h114 : ¬ z0 = (94 : Int32)) => ?_)
                                · refine Wk.iconst (q := 133) (v := (1 : Int32)) d2_132 rfl rfl ?_
                                  refine Wk.goto (q := 137) d2_133 (by decide) rfl ?_
                                  simp only [Int32.lt_iff_toInt_lt, ← Int32.toInt_inj, Int32.reduceToInt] at h1 h68 h69 h102 h103 h104 h105 h106 h107 h108 h109 h110 h111 h112 h113 h114
                                  exact Wk.retZ rfl rfl d2_137 (by decide) (by decide) ⟨by rw [tab1 (by omega)], rfl⟩
                                · refine Wk.iloadN (q := 109) d2_108 rfl rfl ?_
                                  refine Wk.bipush (q := 111) (v := (95 : Int32)) d2_109 rfl rfl ?_
                                  refine Wk.icmp (q := 132) (q' := 114) d2_111 (by decide) rfl rfl (fun (h115 : z0 = (95 : Int32)) => ?_) (fun (h115 : ¬ z0 = (95 : Int32)) => ?_)
                                  · refine Wk.iconst (q := 133) (v := (1 : Int32)) d2_132 rfl rfl ?_
                                    refine Wk.goto (q := 137) d2_133 (by decide) rfl ?_
                                    simp only [Int32.lt_iff_toInt_lt, ← Int32.toInt_inj, Int32.reduceToInt] at h1 h68 h69 h102 h103 h104 h105 h106 h107 h108 h109 h110 h111 h112 h113 h114 h115
                                    exact Wk.retZ rfl rfl d2_137 (by decide) (by decide) ⟨by rw [tab1 (by omega)], rfl⟩
                                  · refine Wk.iloadN (q := 115) d2_114 rfl rfl ?_
                                    refine Wk.bipush (q := 117) (v := (96 : Int32)) d2_115 rfl rfl ?_
                                    refine Wk.icmp (q := 132) (q' := 120) d2_117 (by decide) rfl rfl (fun (h116 : z0 = (96 : Int32)) => ?_) (fun (h116 : ¬ z0 = (96 : Int32)) => ?_)
                                    · refine Wk.iconst (q := 133) (v := (1 : Int32)) d2_132 rfl rfl ?_
                                      refine Wk.goto (q := 137) d2_133 (by decide) rfl ?_
                                      simp only [Int32.lt_iff_toInt_lt, ← Int32.toInt_inj, Int32.reduceToInt] at h1 h68 h69 h102 h103 h104 h105 h106 h107 h108 h109 h110 h111 h112 h113 h114 h115 h116
                                      exact Wk.retZ rfl rfl d2_137 (by decide) (by decide) ⟨by rw [tab1 (by omega)], rfl⟩
                                    · refine Wk.iloadN (q := 121) d2_120 rfl rfl ?_
                                      refine Wk.bipush (q := 123) (v := (124 : Int32)) d2_121 rfl rfl ?_
                                      refine Wk.icmp (q := 132) (q' := 126) d2_123 (by decide) rfl rfl (fun (h117 : z0 = (124 : Int32)) => ?_) (fun (h117 : ¬ z0 = (124 : Int32)) => ?_)
                                      · refine Wk.iconst (q := 133) (v := (1 : Int32)) d2_132 rfl rfl ?_
                                        refine Wk.goto (q := 137) d2_133 (by decide) rfl ?_
                                        simp only [Int32.lt_iff_toInt_lt, ← Int32.toInt_inj, Int32.reduceToInt] at h1 h68 h69 h102 h103 h104 h105 h106 h107 h108 h109 h110 h111 h112 h113 h114 h115 h116 h117
                                        exact Wk.retZ rfl rfl d2_137 (by decide) (by decide) ⟨by rw [tab1 (by omega)], rfl⟩
                                      · refine Wk.iloadN (q := 127) d2_126 rfl rfl ?_
                                        refine Wk.bipush (q := 129) (v := (126 : Int32)) d2_127 rfl rfl ?_
                                        refine Wk.icmp (q := 136) (q' := 132) d2_129 (by decide) rfl rfl (fun (h118 : ¬ z0 = (126 : Int32)) => ?_) (fun (h118 : z0 = (126 : Int32)) => ?_)
                                        · refine Wk.iconst (q := 137) (v := (0 : Int32)) d2_136 rfl rfl ?_
                                          simp only [Int32.lt_iff_toInt_lt, ← Int32.toInt_inj, Int32.reduceToInt] at h1 h68 h69 h102 h103 h104 h105 h106 h107 h108 h109 h110 h111 h112 h113 h114 h115 h116 h117 h118
                                          exact Wk.retZ rfl rfl d2_137 (by decide) (by decide) ⟨by rw [tab0 (by omega)], rfl⟩
                                        · refine Wk.iconst (q := 133) (v := (1 : Int32)) d2_132 rfl rfl ?_
                                          refine Wk.goto (q := 137) d2_133 (by decide) rfl ?_
                                          simp only [Int32.lt_iff_toInt_lt, ← Int32.toInt_inj, Int32.reduceToInt] at h1 h68 h69 h102 h103 h104 h105 h106 h107 h108 h109 h110 h111 h112 h113 h114 h115 h116 h117 h118
                                          exact Wk.retZ rfl rfl d2_137 (by decide) (by decide) ⟨by rw [tab1 (by omega)], rfl⟩
          · refine Wk.iloadN (q := 35) d2_34 rfl rfl ?_
            refine Wk.bipush (q := 37) (v := (122 : Int32)) d2_35 rfl rfl ?_
            refine Wk.icmp (q := 42) (q' := 40) d2_37 (by decide) rfl rfl (fun (h119 : (122 : Int32) < z0) => ?_) (fun (h119 : ¬ (122 : Int32) < z0) => ?_)
            · refine Wk.iloadN (q := 43) d2_42 rfl rfl ?_
              refine Wk.bipush (q := 45) (v := (33 : Int32)) d2_43 rfl rfl ?_
              refine Wk.icmp (q := 132) (q' := 48) d2_45 (by decide) rfl rfl (fun (h120 : z0 = (33 : Int32)) => ?_) (fun (h120 : ¬ z0 = (33 : Int32)) => ?_)
              · refine Wk.iconst (q := 133) (v := (1 : Int32)) d2_132 rfl rfl ?_
                refine Wk.goto (q := 137) d2_133 (by decide) rfl ?_
                simp only [Int32.lt_iff_toInt_lt, ← Int32.toInt_inj, Int32.reduceToInt] at h1 h68 h69 h102 h103 h119 h120
                exact Wk.retZ rfl rfl d2_137 (by decide) (by decide) ⟨by rw [tab1 (by omega)], rfl⟩
              · refine Wk.iloadN (q := 49) d2_48 rfl rfl ?_
                refine Wk.bipush (q := 51) (v := (35 : Int32)) d2_49 rfl rfl ?_
                refine Wk.icmp (q := 132) (q' := 54) d2_51 (by decide) rfl rfl (fun (h121 : z0 = (35 : Int32)) => ?_) (fun (h121 : ¬ z0 = (35 : Int32)) => ?_)
                · refine Wk.iconst (q := 133) (v := (1 : Int32)) d2_132 rfl rfl ?_
                  refine Wk.goto (q := 137) d2_133 (by decide) rfl ?_
                  simp only [Int32.lt_iff_toInt_lt, ← Int32.toInt_inj, Int32.reduceToInt] at h1 h68 h69 h102 h103 h119 h120 h121
                  exact Wk.retZ rfl rfl d2_137 (by decide) (by decide) ⟨by rw [tab1 (by omega)], rfl⟩
                · refine Wk.iloadN (q := 55) d2_54 rfl rfl ?_
                  refine Wk.bipush (q := 57) (v := (36 : Int32)) d2_55 rfl rfl ?_
                  refine Wk.icmp (q := 132) (q' := 60) d2_57 (by decide) rfl rfl (fun (h122 : z0 = (36 : Int32)) => ?_) (fun (h122 : ¬ z0 = (36 : Int32)) => ?_)
                  · refine Wk.iconst (q := 133) (v := (1 : Int32)) d2_132 rfl rfl ?_
                    refine Wk.goto (q := 137) d2_133 (by decide) rfl ?_
                    simp only [Int32.lt_iff_toInt_lt, ← Int32.toInt_inj, Int32.reduceToInt] at h1 h68 h69 h102 h103 h119 h120 h121 h122
                    exact Wk.retZ rfl rfl d2_137 (by decide) (by decide) ⟨by rw [tab1 (by omega)], rfl⟩
                  · refine Wk.iloadN (q := 61) d2_60 rfl rfl ?_
                    refine Wk.bipush (q := 63) (v := (37 : Int32)) d2_61 rfl rfl ?_
                    refine Wk.icmp (q := 132) (q' := 66) d2_63 (by decide) rfl rfl (fun (h123 : z0 = (37 : Int32)) => ?_) (fun (h123 : ¬ z0 = (37 : Int32)) => ?_)
                    · refine Wk.iconst (q := 133) (v := (1 : Int32)) d2_132 rfl rfl ?_
                      refine Wk.goto (q := 137) d2_133 (by decide) rfl ?_
                      simp only [Int32.lt_iff_toInt_lt, ← Int32.toInt_inj, Int32.reduceToInt] at h1 h68 h69 h102 h103 h119 h120 h121 h122 h123
                      exact Wk.retZ rfl rfl d2_137 (by decide) (by decide) ⟨by rw [tab1 (by omega)], rfl⟩
                    · refine Wk.iloadN (q := 67) d2_66 rfl rfl ?_
                      refine Wk.bipush (q := 69) (v := (38 : Int32)) d2_67 rfl rfl ?_
                      refine Wk.icmp (q := 132) (q' := 72) d2_69 (by decide) rfl rfl (fun (h124 : z0 = (38 : Int32)) => ?_) (fun (h124 : ¬ z0 = (38 : Int32)) => ?_)
                      · refine Wk.iconst (q := 133) (v := (1 : Int32)) d2_132 rfl rfl ?_
                        refine Wk.goto (q := 137) d2_133 (by decide) rfl ?_
                        simp only [Int32.lt_iff_toInt_lt, ← Int32.toInt_inj, Int32.reduceToInt] at h1 h68 h69 h102 h103 h119 h120 h121 h122 h123 h124
                        exact Wk.retZ rfl rfl d2_137 (by decide) (by decide) ⟨by rw [tab1 (by omega)], rfl⟩
                      · refine Wk.iloadN (q := 73) d2_72 rfl rfl ?_
                        refine Wk.bipush (q := 75) (v := (39 : Int32)) d2_73 rfl rfl ?_
                        refine Wk.icmp (q := 132) (q' := 78) d2_75 (by decide) rfl rfl (fun (h125 : z0 = (39 : Int32)) => ?_) (fun (h125 : ¬ z0 = (39 : Int32)) => ?_)
                        · refine Wk.iconst (q := 133) (v := (1 : Int32)) d2_132 rfl rfl ?_
                          refine Wk.goto (q := 137) d2_133 (by decide) rfl ?_
                          simp only [Int32.lt_iff_toInt_lt, ← Int32.toInt_inj, Int32.reduceToInt] at h1 h68 h69 h102 h103 h119 h120 h121 h122 h123 h124 h125
                          exact Wk.retZ rfl rfl d2_137 (by decide) (by decide) ⟨by rw [tab1 (by omega)], rfl⟩
                        · refine Wk.iloadN (q := 79) d2_78 rfl rfl ?_
                          refine Wk.bipush (q := 81) (v := (42 : Int32)) d2_79 rfl rfl ?_
                          refine Wk.icmp (q := 132) (q' := 84) d2_81 (by decide) rfl rfl (fun (h126 : z0 = (42 : Int32)) => ?_) (fun (h126 : ¬ z0 = (42 : Int32)) => ?_)
                          · refine Wk.iconst (q := 133) (v := (1 : Int32)) d2_132 rfl rfl ?_
                            refine Wk.goto (q := 137) d2_133 (by decide) rfl ?_
                            simp only [Int32.lt_iff_toInt_lt, ← Int32.toInt_inj, Int32.reduceToInt] at h1 h68 h69 h102 h103 h119 h120 h121 h122 h123 h124 h125 h126
                            exact Wk.retZ rfl rfl d2_137 (by decide) (by decide) ⟨by rw [tab1 (by omega)], rfl⟩
                          · refine Wk.iloadN (q := 85) d2_84 rfl rfl ?_
                            refine Wk.bipush (q := 87) (v := (43 : Int32)) d2_85 rfl rfl ?_
                            refine Wk.icmp (q := 132) (q' := 90) d2_87 (by decide) rfl rfl (fun (h127 : z0 = (43 : Int32)) => ?_) (fun (h127 : ¬ z0 = (43 : Int32)) => ?_)
                            · refine Wk.iconst (q := 133) (v := (1 : Int32)) d2_132 rfl rfl ?_
                              refine Wk.goto (q := 137) d2_133 (by decide) rfl ?_
                              simp only [Int32.lt_iff_toInt_lt, ← Int32.toInt_inj, Int32.reduceToInt] at h1 h68 h69 h102 h103 h119 h120 h121 h122 h123 h124 h125 h126 h127
                              exact Wk.retZ rfl rfl d2_137 (by decide) (by decide) ⟨by rw [tab1 (by omega)], rfl⟩
                            · refine Wk.iloadN (q := 91) d2_90 rfl rfl ?_
                              refine Wk.bipush (q := 93) (v := (45 : Int32)) d2_91 rfl rfl ?_
                              refine Wk.icmp (q := 132) (q' := 96) d2_93 (by decide) rfl rfl (fun (h128 : z0 = (45 : Int32)) => ?_) (fun (h128 : ¬ z0 = (45 : Int32)) => ?_)
                              · refine Wk.iconst (q := 133) (v := (1 : Int32)) d2_132 rfl rfl ?_
                                refine Wk.goto (q := 137) d2_133 (by decide) rfl ?_
                                simp only [Int32.lt_iff_toInt_lt, ← Int32.toInt_inj, Int32.reduceToInt] at h1 h68 h69 h102 h103 h119 h120 h121 h122 h123 h124 h125 h126 h127 h128
                                exact Wk.retZ rfl rfl d2_137 (by decide) (by decide) ⟨by rw [tab1 (by omega)], rfl⟩
                              · refine Wk.iloadN (q := 97) d2_96 rfl rfl ?_
                                refine Wk.bipush (q := 99) (v := (46 : Int32)) d2_97 rfl rfl ?_
                                refine Wk.icmp (q := 132) (q' := 102) d2_99 (by decide) rfl rfl (fun (h129 : z0 = (46 : Int32)) => ?_) (fun (h129 : ¬ z0 = (46 : Int32)) => ?_)
                                · refine Wk.iconst (q := 133) (v := (1 : Int32)) d2_132 rfl rfl ?_
                                  refine Wk.goto (q := 137) d2_133 (by decide) rfl ?_
                                  simp only [Int32.lt_iff_toInt_lt, ← Int32.toInt_inj, Int32.reduceToInt] at h1 h68 h69 h102 h103 h119 h120 h121 h122 h123 h124 h125 h126 h127 h128 h129
                                  exact Wk.retZ rfl rfl d2_137 (by decide) (by decide) ⟨by rw [tab1 (by omega)], rfl⟩
                                · refine Wk.iloadN (q := 103) d2_102 rfl rfl ?_
                                  refine Wk.bipush (q := 105) (v := (94 : Int32)) d2_103 rfl rfl ?_
                                  refine Wk.icmp (q := 132) (q' := 108) d2_105 (by decide) rfl rfl (fun (h130 : z0 = (94 : Int32)) => ?_) (fun (h130 : ¬ z0 = (94 : Int32)) => ?_)
                                  · refine Wk.iconst (q := 133) (v := (1 : Int32)) d2_132 rfl rfl ?_
                                    refine Wk.goto (q := 137) d2_133 (by decide) rfl ?_
                                    simp only [Int32.lt_iff_toInt_lt, ← Int32.toInt_inj, Int32.reduceToInt] at h1 h68 h69 h102 h103 h119 h120 h121 h122 h123 h124 h125 h126 h127 h128 h129 h130
                                    exact Wk.retZ rfl rfl d2_137 (by decide) (by decide) ⟨by rw [tab1 (by omega)], rfl⟩
                                  · refine Wk.iloadN (q := 109) d2_108 rfl rfl ?_
                                    refine Wk.bipush (q := 111) (v := (95 : Int32)) d2_109 rfl rfl ?_
                                    refine Wk.icmp (q := 132) (q' := 114) d2_111 (by decide) rfl rfl (fun (h131 : z0 = (95 : Int32)) => ?_) (fun (h131 : ¬ z0 = (95 : Int32)) => ?_)
                                    · refine Wk.iconst (q := 133) (v := (1 : Int32)) d2_132 rfl rfl ?_
                                      refine Wk.goto (q := 137) d2_133 (by decide) rfl ?_
                                      simp only [Int32.lt_iff_toInt_lt, ← Int32.toInt_inj, Int32.reduceToInt] at h1 h68 h69 h102 h103 h119 h120 h121 h122 h123 h124 h125 h126 h127 h128 h129 h130 h131
                                      exact Wk.retZ rfl rfl d2_137 (by decide) (by decide) ⟨by rw [tab1 (by omega)], rfl⟩
                                    · refine Wk.iloadN (q := 115) d2_114 rfl rfl ?_
                                      refine Wk.bipush (q := 117) (v := (96 : Int32)) d2_115 rfl rfl ?_
                                      refine Wk.icmp (q := 132) (q' := 120) d2_117 (by decide) rfl rfl (fun (h132 : z0 = (96 : Int32)) => ?_) (fun (h132 : ¬ z0 = (96 : Int32)) => ?_)
                                      · refine Wk.iconst (q := 133) (v := (1 : Int32)) d2_132 rfl rfl ?_
                                        refine Wk.goto (q := 137) d2_133 (by decide) rfl ?_
                                        simp only [Int32.lt_iff_toInt_lt, ← Int32.toInt_inj, Int32.reduceToInt] at h1 h68 h69 h102 h103 h119 h120 h121 h122 h123 h124 h125 h126 h127 h128 h129 h130 h131 h132
                                        exact Wk.retZ rfl rfl d2_137 (by decide) (by decide) ⟨by rw [tab1 (by omega)], rfl⟩
                                      · refine Wk.iloadN (q := 121) d2_120 rfl rfl ?_
                                        refine Wk.bipush (q := 123) (v := (124 : Int32)) d2_121 rfl rfl ?_
                                        refine Wk.icmp (q := 132) (q' := 126) d2_123 (by decide) rfl rfl (fun (h133 : z0 = (124 : Int32)) => ?_) (fun (h133 : ¬ z0 = (124 : Int32)) => ?_)
                                        · refine Wk.iconst (q := 133) (v := (1 : Int32)) d2_132 rfl rfl ?_
                                          refine Wk.goto (q := 137) d2_133 (by decide) rfl ?_
                                          simp only [Int32.lt_iff_toInt_lt, ← Int32.toInt_inj, Int32.reduceToInt] at h1 h68 h69 h102 h103 h119 h120 h121 h122 h123 h124 h125 h126 h127 h128 h129 h130 h131 h132 h133
                                          exact Wk.retZ rfl rfl d2_137 (by decide) (by decide) ⟨by rw [tab1 (by omega)], rfl⟩
                                        · refine Wk.iloadN (q := 127) d2_126 rfl rfl ?_
                                          refine Wk.bipush (q := 129) (v := (126 : Int32)) d2_127 rfl rfl ?_
                                          refine Wk.icmp (q := 136) (q' := 132) d2_129 (by decide) rfl rfl (fun (h134 : ¬ z0 = (126 : Int32)) => ?_) (fun (h134 : z0 = (126 : Int32)) => ?_)
                                          · refine Wk.iconst (q := 137) (v := (0 : Int32)) d2_136 rfl rfl ?_
                                            simp only [Int32.lt_iff_toInt_lt, ← Int32.toInt_inj, Int32.reduceToInt] at h1 h68 h69 h102 h103 h119 h120 h121 h122 h123 h124 h125 h126 h127 h128 h129 h130 h131 h132 h133 h134
                                            exact Wk.retZ rfl rfl d2_137 (by decide) (by decide) ⟨by rw [tab0 (by omega)], rfl⟩
                                          · refine Wk.iconst (q := 133) (v := (1 : Int32)) d2_132 rfl rfl ?_
                                            refine Wk.goto (q := 137) d2_133 (by decide) rfl ?_
                                            simp only [Int32.lt_iff_toInt_lt, ← Int32.toInt_inj, Int32.reduceToInt] at h1 h68 h69 h102 h103 h119 h120 h121 h122 h123 h124 h125 h126 h127 h128 h129 h130 h131 h132 h133 h134
                                            exact Wk.retZ rfl rfl d2_137 (by decide) (by decide) ⟨by rw [tab1 (by omega)], rfl⟩
            · refine Wk.iconst (q := 41) (v := (1 : Int32)) d2_40 rfl rfl ?_
              simp only [Int32.lt_iff_toInt_lt, ← Int32.toInt_inj, Int32.reduceToInt] at h1 h68 h69 h102 h103 h119
              exact Wk.retZ rfl rfl d2_41 (by decide) (by decide) ⟨by rw [tab1 (by omega)], rfl⟩
        · refine Wk.iconst (q := 27) (v := (1 : Int32)) d2_26 rfl rfl ?_
          simp only [Int32.lt_iff_toInt_lt, ← Int32.toInt_inj, Int32.reduceToInt] at h1 h68 h69 h102
          exact Wk.retZ rfl rfl d2_27 (by decide) (by decide) ⟨by rw [tab1 (by omega)], rfl⟩
    · refine Wk.iconst (q := 13) (v := (1 : Int32)) d2_12 rfl rfl ?_
      simp only [Int32.lt_iff_toInt_lt, ← Int32.toInt_inj, Int32.reduceToInt] at h1 h68
      exact Wk.retZ rfl rfl d2_13 (by decide) (by decide) ⟨by rw [tab1 (by omega)], rfl⟩
set_option maxRecDepth 65536 in
set_option maxHeartbeats 40000000 in
theorem m_tok {l : Launch} {Z : State} {a0 : Array Value} {n0 : Nat} {h : Heap}  {a_T : Addr} {c_T : Cell} (hw : ∀ d ∈ tables_1, d.before a0 Z = true) (F : OwnF Z h  a_T c_T) (z0 : Int32) : Met l Z n0 (⟨"com/example/tallykey/tallykey/HttpSyntax", "isToken", "(B)Z"⟩ : MethodName) prog_5_method_2_code 1 (Option.some Jvm.ClassFile.FieldType.boolean) (⟨0, 0, 0, 0⟩ : Room) #[(.int z0)] h (fun v h' => v = some (.int (tabN (z0 &&& (255 : Int32)).toNatClampNeg)) ∧ h' = h) := by
  refine Met.of_wk (ls := #[.val (.int z0)]) (plainFor_of_name pn_1) (fun _ => rfl) ?_
  show Wk l Z n0 "com/example/tallykey/tallykey/HttpSyntax" "isToken" prog_5_method_2_code 1 (Option.some Jvm.ClassFile.FieldType.boolean) (⟨0, 0, 0, 0⟩ : Room) 0 0 (fun v h' => v = some (.int (tabN (z0 &&& (255 : Int32)).toNatClampNeg)) ∧ h' = h) h 0 0 0 #[.val (.int z0)] []
  refine Wk.getS (q := 3) (w_4 hw) Via.refl F.s_T d1_0 rfl ?_
  refine Wk.iloadN (q := 4) d1_3 rfl rfl ?_
  refine Wk.sipush (q := 7) (v := (255 : Int32)) d1_4 rfl rfl ?_
  refine Wk.iand (q := 8) (v := (z0 &&& (255 : Int32))) d1_7 rfl rfl ?_
  refine Wk.baloadZ (q := 9) F.r_T (by rw [F.z_T]; exact own_in (own_255 z0).1 (by have := (own_255 z0).2; omega)) (F.t_T _ (by have := own_clamp (own_255 z0).1; have := (own_255 z0).2; omega)) d1_8 rfl ?_
  exact Wk.retZ rfl (tab_nar _) d1_9 (by decide) (by decide) ⟨rfl, rfl⟩
set_option maxRecDepth 65536 in
set_option maxHeartbeats 40000000 in
theorem law_all {l : Launch} {Z : State} {a0 : Array Value} {n0 : Nat} {h : Heap}  {a_T : Addr} {c_T : Cell} (hw : ∀ d ∈ tables_1, d.before a0 Z = true) (F : OwnF Z h  a_T c_T) (p0 : Int32) : Met l Z n0 x code maxLocals ret room_1 #[(.int p0)] h (fun v _ => v = some (.int (1 : Int32))) := by
  refine Met.of_wk (ls := #[.val (.int p0), .unset]) (plainFor_of_name pn_0) (fun _ => rfl) ?_
  show Wk l Z n0 "com/example/tallykey/tallykey/HttpSyntaxIsTokenPinLaw" "law" code maxLocals ret room_1 0 0 (fun v _ => v = some (.int (1 : Int32))) h 0 0 0 #[.val (.int p0), .unset] []
  refine Wk.iloadN (q := 1) at_0 rfl rfl ?_
  refine Wk.i2b (q := 2) (v := p0.toInt8.toInt32) at_1 rfl rfl ?_
  refine Wk.istoreN (q := 3) (ls' := #[.val (.int p0), .val (.int p0.toInt8.toInt32)]) at_2 rfl rfl ?_
  refine Wk.iloadN (q := 4) at_3 rfl rfl ?_
  refine Wk.callS1 (q := 7) (argsL := [(.int p0.toInt8.toInt32)]) (rest := []) (fr := 0) (lo := 0) (v0 := (.int (tabN (p0.toInt8.toInt32 &&& (255 : Int32)).toNatClampNeg))) (m_tok hw F p0.toInt8.toInt32) (w_0 hw) (w_1 hw) (w_2 hw) (w_3 hw) (by decide) pd_0 rfl rfl rfl at_4 rfl (W := 0) rfl (by decide) (by decide) (by decide) (by decide) ?_
  refine Wk.iloadN (q := 8) at_7 rfl rfl ?_
  refine Wk.sipush (q := 11) (v := (255 : Int32)) at_8 rfl rfl ?_
  refine Wk.iand (q := 12) (v := (p0.toInt8.toInt32 &&& (255 : Int32))) at_11 rfl rfl ?_
  refine Wk.callS1 (q := 15) (argsL := [(.int (p0.toInt8.toInt32 &&& (255 : Int32)))]) (rest := [(.int (tabN (p0.toInt8.toInt32 &&& (255 : Int32)).toNatClampNeg))]) (fr := 0) (lo := 0) (v0 := (.int (tabN (p0.toInt8.toInt32 &&& (255 : Int32)).toNatClampNeg))) (m_exp hw F (p0.toInt8.toInt32 &&& (255 : Int32)) (own_255 _).1 (own_255 _).2) (w_6 hw) (w_7 hw) (w_8 hw) (w_9 hw) (by decide) pd_1 rfl rfl rfl at_12 rfl (W := 1) rfl (by decide) (by decide) (by decide) (by decide) ?_
  refine Wk.icmpF (q := 18) at_15 rfl rfl ?_
  refine Wk.iconst (q := 19) (v := (1 : Int32)) at_18 rfl rfl ?_
  refine Wk.goto (q := 23) at_19 (by decide) rfl ?_
  exact Wk.retZ rfl rfl at_23 (by decide) (by decide) rfl
set_option maxRecDepth 65536 in
set_option maxHeartbeats 40000000 in
theorem comes_1 {Post : Tables → Env → Array Value → State → Outcome → State → Prop} (hpost : ∀ tb e args s v u, (limb_1_1.after args s (.returned v) u = true ∧ limb_1_2.after args s (.returned v) u = true ∧ True) → FrameEnd s (.returned v) u (Jvm.fieldLocs frame_1_writes args s ++ Jvm.arrayLocs frame_1_arrays args s ++ Jvm.staticLocs frame_1_statics s) 0 0 → Post tb e args s (.returned v) u) :
    ArmFor flags0 classFile x code maxLocals ret World_1 tables_1 room_1 Calls_1 rest_1 Pre_1 Post := by
  intro l hfl _ _ p e ha hc hk s m args below hf hA hF happ hP
  obtain ⟨hcalls, hrest, hpre⟩ := hP
  obtain ⟨-, -, -, hnamed, -, -, -, hat⟩ := (Spec.applies_iff hf).mp happ
  obtain ⟨hg, hn⟩ := and_e (Cond.before_iff.mp (show (Jvm.Cond.and given_1 narrow_1).before args s = true from hpre))
  obtain ⟨h1, g0⟩ := and_e hg
  obtain ⟨w0, rfl⟩ : ∃ w0 : Value, args = #[w0] := by
    have hs : args.size = 1 := by simpa [Cond.value, given_1] using h1
    obtain ⟨L⟩ := args
    match L, hs with
    | [w0], _ => exact ⟨w0, rfl⟩
  have hw := fun d (hd : d ∈ tables_1) => atoms_spec (ws := Jvm.Cond.code x code maxLocals ret :: tables_1) hat d (List.mem_cons_of_mem _ hd)
  have hfit : Fit s := fun {y c} hc i hi => by
    obtain ⟨ha, rfl⟩ := Array.getElem?_eq_some_iff.mp hc
    have q := List.all_eq_true.mp ((Array.all_eq_true_iff_forall_mem.mp hF) _ (Array.getElem_mem ha)) i (List.mem_range.mpr hi)
    simpa [Array.getElem?_eq_getElem hi] using q
  obtain ⟨i0, e0⟩ := is_v g0
  obtain rfl : w0 = (.int i0) := Option.some.inj e0
  obtain ⟨k1a, k1b⟩ := and_e hn
  obtain ⟨k2a, k2b⟩ := and_e k1b
  obtain ⟨k3a, k3b⟩ := and_e k2b
  obtain ⟨k4a, k4b⟩ := and_e k3b
  obtain ⟨k5a, k5b⟩ := and_e k4b
  obtain ⟨k6a, k6b⟩ := and_e k5b
  obtain ⟨k7a, k7b⟩ := and_e k6b
  obtain ⟨k8a, k8b⟩ := and_e k7b
  obtain ⟨k9a, k9b⟩ := and_e k8b
  obtain ⟨k10a, k10b⟩ := and_e k9b
  obtain ⟨k11a, k11b⟩ := and_e k10b
  obtain ⟨k12a, k12b⟩ := and_e k11b
  obtain ⟨k13a, k13b⟩ := and_e k12b
  obtain ⟨k14a, k14b⟩ := and_e k13b
  obtain ⟨k15a, k15b⟩ := and_e k14b
  obtain ⟨k16a, k16b⟩ := and_e k15b
  obtain ⟨k17a, k17b⟩ := and_e k16b
  obtain ⟨k18a, k18b⟩ := and_e k17b
  obtain ⟨k19a, k19b⟩ := and_e k18b
  obtain ⟨k20a, k20b⟩ := and_e k19b
  obtain ⟨k21a, k21b⟩ := and_e k20b
  obtain ⟨k22a, k22b⟩ := and_e k21b
  obtain ⟨k23a, k23b⟩ := and_e k22b
  obtain ⟨k24a, k24b⟩ := and_e k23b
  obtain ⟨k25a, k25b⟩ := and_e k24b
  obtain ⟨a_T, c_T, v_T, s_T, r_T⟩ := own_arr k1a (w_2 hw) (w_5 hw)
  have z_T : c_T.slots.size = 256 := own_len v_T r_T (own_eqi k2a (Term.int_eval _)) (by decide)
  have y_0 : ∀ k, k < 256 → 0 ≤ k → k ≤ 32 → c_T.slots[k]? = some (Value.int (0 : Int32)) := fun k hk h1 h2 => own_tk v_T r_T hk (own_or (own_all v_T r_T k3a k (by rw [z_T]; exact hk)) (Cond.le_ints (Term.int_eval _) (Term.index_eval k)) (fun z => by rw [own_kle (m := 33) (by decide) hk] at z; omega))
  have y_1 : c_T.slots[33]? = some (Value.int (1 : Int32)) := own_elem v_T r_T (own_eqi k4a (Term.int_eval _))
  have y_2 : c_T.slots[34]? = some (Value.int (0 : Int32)) := own_elem v_T r_T (own_eqi k5a (Term.int_eval _))
  have y_3 : ∀ k, k < 256 → 35 ≤ k → k ≤ 39 → c_T.slots[k]? = some (Value.int (1 : Int32)) := fun k hk h1 h2 => own_tk v_T r_T hk (own_or (own_or (own_all v_T r_T k6a k (by rw [z_T]; exact hk)) (Cond.lt_ints (Term.index_eval k) (Term.int_eval _)) (fun z => by rw [own_klt (m := 35) (by decide) hk] at z; omega)) (Cond.le_ints (Term.int_eval _) (Term.index_eval k)) (fun z => by rw [own_kle (m := 40) (by decide) hk] at z; omega))
  have y_4 : c_T.slots[40]? = some (Value.int (0 : Int32)) := own_elem v_T r_T (own_eqi k7a (Term.int_eval _))
  have y_5 : c_T.slots[41]? = some (Value.int (0 : Int32)) := own_elem v_T r_T (own_eqi k8a (Term.int_eval _))
  have y_6 : c_T.slots[42]? = some (Value.int (1 : Int32)) := own_elem v_T r_T (own_eqi k9a (Term.int_eval _))
  have y_7 : c_T.slots[43]? = some (Value.int (1 : Int32)) := own_elem v_T r_T (own_eqi k10a (Term.int_eval _))
  have y_8 : c_T.slots[44]? = some (Value.int (0 : Int32)) := own_elem v_T r_T (own_eqi k11a (Term.int_eval _))
  have y_9 : c_T.slots[45]? = some (Value.int (1 : Int32)) := own_elem v_T r_T (own_eqi k12a (Term.int_eval _))
  have y_10 : c_T.slots[46]? = some (Value.int (1 : Int32)) := own_elem v_T r_T (own_eqi k13a (Term.int_eval _))
  have y_11 : c_T.slots[47]? = some (Value.int (0 : Int32)) := own_elem v_T r_T (own_eqi k14a (Term.int_eval _))
  have y_12 : ∀ k, k < 256 → 48 ≤ k → k ≤ 57 → c_T.slots[k]? = some (Value.int (1 : Int32)) := fun k hk h1 h2 => own_tk v_T r_T hk (own_or (own_or (own_all v_T r_T k15a k (by rw [z_T]; exact hk)) (Cond.lt_ints (Term.index_eval k) (Term.int_eval _)) (fun z => by rw [own_klt (m := 48) (by decide) hk] at z; omega)) (Cond.le_ints (Term.int_eval _) (Term.index_eval k)) (fun z => by rw [own_kle (m := 58) (by decide) hk] at z; omega))
  have y_13 : ∀ k, k < 256 → 58 ≤ k → k ≤ 64 → c_T.slots[k]? = some (Value.int (0 : Int32)) := fun k hk h1 h2 => own_tk v_T r_T hk (own_or (own_or (own_all v_T r_T k16a k (by rw [z_T]; exact hk)) (Cond.lt_ints (Term.index_eval k) (Term.int_eval _)) (fun z => by rw [own_klt (m := 58) (by decide) hk] at z; omega)) (Cond.le_ints (Term.int_eval _) (Term.index_eval k)) (fun z => by rw [own_kle (m := 65) (by decide) hk] at z; omega))
  have y_14 : ∀ k, k < 256 → 65 ≤ k → k ≤ 90 → c_T.slots[k]? = some (Value.int (1 : Int32)) := fun k hk h1 h2 => own_tk v_T r_T hk (own_or (own_or (own_all v_T r_T k17a k (by rw [z_T]; exact hk)) (Cond.lt_ints (Term.index_eval k) (Term.int_eval _)) (fun z => by rw [own_klt (m := 65) (by decide) hk] at z; omega)) (Cond.le_ints (Term.int_eval _) (Term.index_eval k)) (fun z => by rw [own_kle (m := 91) (by decide) hk] at z; omega))
  have y_15 : c_T.slots[91]? = some (Value.int (0 : Int32)) := own_elem v_T r_T (own_eqi k18a (Term.int_eval _))
  have y_16 : c_T.slots[92]? = some (Value.int (0 : Int32)) := own_elem v_T r_T (own_eqi k19a (Term.int_eval _))
  have y_17 : c_T.slots[93]? = some (Value.int (0 : Int32)) := own_elem v_T r_T (own_eqi k20a (Term.int_eval _))
  have y_18 : ∀ k, k < 256 → 94 ≤ k → k ≤ 122 → c_T.slots[k]? = some (Value.int (1 : Int32)) := fun k hk h1 h2 => own_tk v_T r_T hk (own_or (own_or (own_all v_T r_T k21a k (by rw [z_T]; exact hk)) (Cond.lt_ints (Term.index_eval k) (Term.int_eval _)) (fun z => by rw [own_klt (m := 94) (by decide) hk] at z; omega)) (Cond.le_ints (Term.int_eval _) (Term.index_eval k)) (fun z => by rw [own_kle (m := 123) (by decide) hk] at z; omega))
  have y_19 : c_T.slots[123]? = some (Value.int (0 : Int32)) := own_elem v_T r_T (own_eqi k22a (Term.int_eval _))
  have y_20 : c_T.slots[124]? = some (Value.int (1 : Int32)) := own_elem v_T r_T (own_eqi k23a (Term.int_eval _))
  have y_21 : c_T.slots[125]? = some (Value.int (0 : Int32)) := own_elem v_T r_T (own_eqi k24a (Term.int_eval _))
  have y_22 : c_T.slots[126]? = some (Value.int (1 : Int32)) := own_elem v_T r_T (own_eqi k25a (Term.int_eval _))
  have y_23 : ∀ k, k < 256 → 127 ≤ k → k ≤ 255 → c_T.slots[k]? = some (Value.int (0 : Int32)) := fun k hk h1 h2 => own_tk v_T r_T hk (own_or (own_all v_T r_T k25b k (by rw [z_T]; exact hk)) (Cond.lt_ints (Term.index_eval k) (Term.int_eval _)) (fun z => by rw [own_klt (m := 127) (by decide) hk] at z; omega))
  have t_T : ∀ k, k < 256 → c_T.slots[k]? = some (Value.int (tabN k)) := by
    intro k hk
    by_cases c_0 : k ≤ 32
    · rw [show tabN _ = (0 : Int32) from (tab0 (by omega))]
      exact y_0 k hk (by omega) (by omega)
    by_cases c_1 : k ≤ 33
    · obtain rfl : k = 33 := by omega
      rw [show tabN _ = (1 : Int32) from (tab1 (by omega))]
      exact y_1
    by_cases c_2 : k ≤ 34
    · obtain rfl : k = 34 := by omega
      rw [show tabN _ = (0 : Int32) from (tab0 (by omega))]
      exact y_2
    by_cases c_3 : k ≤ 39
    · rw [show tabN _ = (1 : Int32) from (tab1 (by omega))]
      exact y_3 k hk (by omega) (by omega)
    by_cases c_4 : k ≤ 40
    · obtain rfl : k = 40 := by omega
      rw [show tabN _ = (0 : Int32) from (tab0 (by omega))]
      exact y_4
    by_cases c_5 : k ≤ 41
    · obtain rfl : k = 41 := by omega
      rw [show tabN _ = (0 : Int32) from (tab0 (by omega))]
      exact y_5
    by_cases c_6 : k ≤ 42
    · obtain rfl : k = 42 := by omega
      rw [show tabN _ = (1 : Int32) from (tab1 (by omega))]
      exact y_6
    by_cases c_7 : k ≤ 43
    · obtain rfl : k = 43 := by omega
      rw [show tabN _ = (1 : Int32) from (tab1 (by omega))]
      exact y_7
    by_cases c_8 : k ≤ 44
    · obtain rfl : k = 44 := by omega
      rw [show tabN _ = (0 : Int32) from (tab0 (by omega))]
      exact y_8
    by_cases c_9 : k ≤ 45
    · obtain rfl : k = 45 := by omega
      rw [show tabN _ = (1 : Int32) from (tab1 (by omega))]
      exact y_9
    by_cases c_10 : k ≤ 46
    · obtain rfl : k = 46 := by omega
      rw [show tabN _ = (1 : Int32) from (tab1 (by omega))]
      exact y_10
    by_cases c_11 : k ≤ 47
    · obtain rfl : k = 47 := by omega
      rw [show tabN _ = (0 : Int32) from (tab0 (by omega))]
      exact y_11
    by_cases c_12 : k ≤ 57
    · rw [show tabN _ = (1 : Int32) from (tab1 (by omega))]
      exact y_12 k hk (by omega) (by omega)
    by_cases c_13 : k ≤ 64
    · rw [show tabN _ = (0 : Int32) from (tab0 (by omega))]
      exact y_13 k hk (by omega) (by omega)
    by_cases c_14 : k ≤ 90
    · rw [show tabN _ = (1 : Int32) from (tab1 (by omega))]
      exact y_14 k hk (by omega) (by omega)
    by_cases c_15 : k ≤ 91
    · obtain rfl : k = 91 := by omega
      rw [show tabN _ = (0 : Int32) from (tab0 (by omega))]
      exact y_15
    by_cases c_16 : k ≤ 92
    · obtain rfl : k = 92 := by omega
      rw [show tabN _ = (0 : Int32) from (tab0 (by omega))]
      exact y_16
    by_cases c_17 : k ≤ 93
    · obtain rfl : k = 93 := by omega
      rw [show tabN _ = (0 : Int32) from (tab0 (by omega))]
      exact y_17
    by_cases c_18 : k ≤ 122
    · rw [show tabN _ = (1 : Int32) from (tab1 (by omega))]
      exact y_18 k hk (by omega) (by omega)
    by_cases c_19 : k ≤ 123
    · obtain rfl : k = 123 := by omega
      rw [show tabN _ = (0 : Int32) from (tab0 (by omega))]
      exact y_19
    by_cases c_20 : k ≤ 124
    · obtain rfl : k = 124 := by omega
      rw [show tabN _ = (1 : Int32) from (tab1 (by omega))]
      exact y_20
    by_cases c_21 : k ≤ 125
    · obtain rfl : k = 125 := by omega
      rw [show tabN _ = (0 : Int32) from (tab0 (by omega))]
      exact y_21
    by_cases c_22 : k ≤ 126
    · obtain rfl : k = 126 := by omega
      rw [show tabN _ = (1 : Int32) from (tab1 (by omega))]
      exact y_22
    rw [show tabN _ = (0 : Int32) from (tab0 (by omega))]
    exact y_23 k hk (by omega) (by omega)
  obtain ⟨n, o, h1, h2, h3, _, L, rfl, ⟨N, rfl⟩, hq⟩ := (law_all (l := l) (n0 := s.heap.size) (h := s.heap) hw ⟨s_T, r_T, z_T, t_T⟩ i0) tables_1 p e ha hc hk s m _ below hf ((Spec.applies_iff_loose hf).mp happ).1 ⟨rfl, State.Warmed39.refl s, rfl⟩ trivial
  refine ⟨n, _, h1, h2, h3, hpost _ _ _ _ _ _ ⟨Cond.after_iff.mpr rfl, Cond.after_iff.mpr (eq_i res_at (Term.int_eval (1)) rfl), trivial⟩ ⟨hq.1, hq.2.1, (hq.2.2.sift fun y hy => Or.inr (N y hy)).mono (by decide) (by decide)⟩⟩
theorem main_1_1 : Claimed_1_1 := comes_1 fun _ _ _ _ _ _ h hF => ⟨h.1, hF⟩
theorem main_1_2 : Claimed_1_2 := comes_1 fun _ _ _ _ _ _ h hF => ⟨h.2.1, hF⟩
end Jvm.Pilot.@@N@@
namespace Jvm.Pilot.@@N@@
open Jvm Jvm.ClassFile Sem Op Lib Jvm.Free Jvm.Stand Jvm.Pilot.@@N@@.Jvm.D
/-! MADE BY PROGRAM (witnessworld.py) out of the Statement's table words and the real class files: 11 classes; the members and pool entries that the words name. The judged class is class 1, her method 1. -/
namespace start1
open Jvm.ClassFile
def u (s : String) : CpInfo := .utf8 (stringToUtf16 s)
/-- a pool by its gaps: so many unusable entries, then the entry; so many at the end -/
def gap : Nat → List CpInfo → List CpInfo
  | 0, r => r
  | n + 1, r => .unusable :: gap n r
def poolList (es : List (Nat × CpInfo)) (last : Nat) : List CpInfo := es.foldr (fun e r => gap e.1 (e.2 :: r)) (gap last [])
def pool (es : List (Nat × CpInfo)) (last : Nat) : Array CpInfo := ⟨poolList es last⟩
def fileOf (pool : Array CpInfo) (this : Nat) (attrs : Array Attribute := #[]) (ms : Array MethodInfo := #[]) (fl : Nat := 33) (sup : Nat := 0) (ifs : Array Nat := #[]) (fds : Array FieldInfo := #[]) : ClassFile where
  minorVersion := 0
  majorVersion := 65
  constantPool := pool
  accessFlags := fl
  thisClass := this
  superClass := sup
  interfaces := ifs
  fields := fds
  methods := ms
  attributes := attrs
def plain (name : String) (sup : Option ClassId) : Class where
  name := name
  kind := .ordinary
  loader := none
  accessFlags := 33
  super := sup
  interfaces := #[]
  cf := none
  fields := #[]
  methods := #[]
  instanceTypes := #[]
  staticTypes := #[]
  resolved := #[]
  callSites := []
  init := .initialized
  statics := none
  mirror := none

def pool0 : Array CpInfo := pool [(5, u "<init>"), (0, u "()V"), (1, .class_ 10), (1, u "java/lang/Object")] 113

def k0m0 : Method := { name := "<init>", desc := "()V", sig := { parameters := [], returnType := none }, accessFlags := 1, code := none }
/-- java/lang/Object -/
def k0 : Class := { plain "java/lang/Object" none with
  accessFlags := 33
  interfaces := #[]
  cf := some (fileOf pool0 8 #[] #[{ accessFlags := 1, nameIndex := 5, descriptorIndex := 6, attributes := #[] }] 33 0 #[] #[])
  fields := #[]
  methods := #[k0m0]
  instanceTypes := #[]
  staticTypes := #[]
  resolved := Array.replicate 124 none
  statics := none }

def pool1 : Array CpInfo := pool [(2, .class_ 4), (1, u "java/lang/Object"), (0, u "<init>"), (0, u "()V"), (0, .methodref 8 9), (0, .class_ 10), (0, .nameAndType 11 12), (0, u "com/example/tallykey/tallykey/HttpSyntax"), (0, u "isToken"), (0, u "(B)Z"), (0, .methodref 14 15), (0, .class_ 16), (0, .nameAndType 17 18), (0, u "com/example/tallykey/tallykey/HttpSyntaxIsTokenPinLaw"), (0, u "expected"), (0, u "(I)Z"), (2, u "law")] 3

def k1m0 : Method := { name := "<init>", desc := "()V", sig := { parameters := [], returnType := none }, accessFlags := 2, code := none }
def k1c1 : Code := { maxStack := 3, maxLocals := 2, code := code, exceptionTable := #[], attributes := #[] }
def k1m1 : Method := { name := "law", desc := "(I)Z", sig := { parameters := [.int], returnType := some .boolean }, accessFlags := 9, code := some k1c1 }
def k1c2 : Code := { maxStack := 2, maxLocals := 1, code := method_3_code, exceptionTable := #[], attributes := #[] }
def k1m2 : Method := { name := "expected", desc := "(I)Z", sig := { parameters := [.int], returnType := some .boolean }, accessFlags := 10, code := some k1c2 }
/-- com/example/tallykey/tallykey/HttpSyntaxIsTokenPinLaw -/
def k1 : Class := { plain "com/example/tallykey/tallykey/HttpSyntaxIsTokenPinLaw" (some 0) with
  accessFlags := 49
  interfaces := #[]
  cf := some (fileOf pool1 14 #[] #[{ accessFlags := 2, nameIndex := 5, descriptorIndex := 6, attributes := #[] }, { accessFlags := 9, nameIndex := 21, descriptorIndex := 18, attributes := #[] }, { accessFlags := 10, nameIndex := 17, descriptorIndex := 18, attributes := #[] }] 49 2 #[] #[])
  fields := #[]
  methods := #[k1m0, k1m1, k1m2]
  instanceTypes := #[]
  staticTypes := #[]
  resolved := Array.replicate 25 none
  statics := none }

def pool2 : Array CpInfo := pool [(2, .class_ 4), (1, u "java/lang/Object"), (0, u "<init>"), (0, u "()V"), (0, .fieldref 8 9), (0, .class_ 10), (0, .nameAndType 11 12), (0, u "com/example/tallykey/tallykey/HttpSyntax"), (0, u "TOKEN"), (0, u "[Z"), (2, u "TEXT"), (20, u "NOT_A_FIELD_LINE"), (0, u "Ljava/lang/String;"), (5, u "isToken"), (0, u "(B)Z")] 11

def k2m0 : Method := { name := "<init>", desc := "()V", sig := { parameters := [], returnType := none }, accessFlags := 2, code := none }
def k2c1 : Code := { maxStack := 3, maxLocals := 1, code := prog_5_method_2_code, exceptionTable := #[], attributes := #[] }
def k2m1 : Method := { name := "isToken", desc := "(B)Z", sig := { parameters := [.byte], returnType := some .boolean }, accessFlags := 8, code := some k2c1 }
/-- com/example/tallykey/tallykey/HttpSyntax -/
def k2 : Class := { plain "com/example/tallykey/tallykey/HttpSyntax" (some 0) with
  accessFlags := 48
  interfaces := #[]
  cf := some (fileOf pool2 8 #[] #[{ accessFlags := 2, nameIndex := 5, descriptorIndex := 6, attributes := #[] }, { accessFlags := 8, nameIndex := 43, descriptorIndex := 44, attributes := #[] }] 48 2 #[] #[{ accessFlags := 26, nameIndex := 11, descriptorIndex := 12, attributes := #[] }, { accessFlags := 26, nameIndex := 15, descriptorIndex := 12, attributes := #[] }, { accessFlags := 24, nameIndex := 36, descriptorIndex := 37, attributes := #[] }])
  fields := #[{ name := "TOKEN", type := (.array .boolean), accessFlags := 26, slot := 0, constantValue := 0 }, { name := "TEXT", type := (.array .boolean), accessFlags := 26, slot := 1, constantValue := 0 }, { name := "NOT_A_FIELD_LINE", type := (.object "java/lang/String"), accessFlags := 24, slot := 2, constantValue := 0 }]
  methods := #[k2m0, k2m1]
  instanceTypes := #[]
  staticTypes := #[(.array .boolean), (.array .boolean), (.object "java/lang/String")]
  resolved := Array.replicate 56 none
  statics := some 0 }

def pool3 : Array CpInfo := pool [(1, u "java/lang/Cloneable"), (0, .class_ 1), (0, u "java/lang/Object"), (0, .class_ 3)] 3

/-- java/lang/Cloneable -/
def k3 : Class := { plain "java/lang/Cloneable" (some 0) with
  accessFlags := 1537
  interfaces := #[]
  cf := some (fileOf pool3 2 #[] #[] 1537 4 #[] #[])
  fields := #[]
  methods := #[]
  instanceTypes := #[]
  staticTypes := #[]
  resolved := Array.replicate 8 none
  statics := none }

def pool4 : Array CpInfo := pool [(1, u "java/io/Serializable"), (0, .class_ 1), (0, u "java/lang/Object"), (0, .class_ 3)] 3

/-- java/io/Serializable -/
def k4 : Class := { plain "java/io/Serializable" (some 0) with
  accessFlags := 1537
  interfaces := #[]
  cf := some (fileOf pool4 2 #[] #[] 1537 4 #[] #[])
  fields := #[]
  methods := #[]
  instanceTypes := #[]
  staticTypes := #[]
  resolved := Array.replicate 8 none
  statics := none }

/-- the primitive boolean -/
def k5 : Class := { plain "boolean" none with kind := .primitive 'Z', accessFlags := 0x411 }
/-- [Z -/
def k6 : Class := { plain "[Z" (some 0) with kind := .array 5 .boolean, interfaces := #[3, 4], accessFlags := 1041 }

/-- the primitive byte -/
def k7 : Class := { plain "byte" none with kind := .primitive 'B', accessFlags := 0x411 }
/-- [B -/
def k8 : Class := { plain "[B" (some 0) with kind := .array 7 .byte, interfaces := #[3, 4], accessFlags := 1041 }

/-- the primitive int -/
def k9 : Class := { plain "int" none with kind := .primitive 'I', accessFlags := 0x411 }
/-- [I -/
def k10 : Class := { plain "[I" (some 0) with kind := .array 9 .int, interfaces := #[3, 4], accessFlags := 1041 }

def heap : Heap := #[{ cls := 2, slots := #[.ref 1, .null, .null], vm := .statics 2 },
  { cls := 6, slots := #[.int 0, .int 0, .int 0, .int 0, .int 0, .int 0, .int 0, .int 0, .int 0, .int 0, .int 0, .int 0, .int 0, .int 0, .int 0, .int 0, .int 0, .int 0, .int 0, .int 0, .int 0, .int 0, .int 0, .int 0, .int 0, .int 0, .int 0, .int 0, .int 0, .int 0, .int 0, .int 0, .int 0, .int 1, .int 0, .int 1, .int 1, .int 1, .int 1, .int 1, .int 0, .int 0, .int 1, .int 1, .int 0, .int 1, .int 1, .int 0, .int 1, .int 1, .int 1, .int 1, .int 1, .int 1, .int 1, .int 1, .int 1, .int 1, .int 0, .int 0, .int 0, .int 0, .int 0, .int 0, .int 0, .int 1, .int 1, .int 1, .int 1, .int 1, .int 1, .int 1, .int 1, .int 1, .int 1, .int 1, .int 1, .int 1, .int 1, .int 1, .int 1, .int 1, .int 1, .int 1, .int 1, .int 1, .int 1, .int 1, .int 1, .int 1, .int 1, .int 0, .int 0, .int 0, .int 1, .int 1, .int 1, .int 1, .int 1, .int 1, .int 1, .int 1, .int 1, .int 1, .int 1, .int 1, .int 1, .int 1, .int 1, .int 1, .int 1, .int 1, .int 1, .int 1, .int 1, .int 1, .int 1, .int 1, .int 1, .int 1, .int 1, .int 1, .int 1, .int 0, .int 1, .int 0, .int 1, .int 0, .int 0, .int 0, .int 0, .int 0, .int 0, .int 0, .int 0, .int 0, .int 0, .int 0, .int 0, .int 0, .int 0, .int 0, .int 0, .int 0, .int 0, .int 0, .int 0, .int 0, .int 0, .int 0, .int 0, .int 0, .int 0, .int 0, .int 0, .int 0, .int 0, .int 0, .int 0, .int 0, .int 0, .int 0, .int 0, .int 0, .int 0, .int 0, .int 0, .int 0, .int 0, .int 0, .int 0, .int 0, .int 0, .int 0, .int 0, .int 0, .int 0, .int 0, .int 0, .int 0, .int 0, .int 0, .int 0, .int 0, .int 0, .int 0, .int 0, .int 0, .int 0, .int 0, .int 0, .int 0, .int 0, .int 0, .int 0, .int 0, .int 0, .int 0, .int 0, .int 0, .int 0, .int 0, .int 0, .int 0, .int 0, .int 0, .int 0, .int 0, .int 0, .int 0, .int 0, .int 0, .int 0, .int 0, .int 0, .int 0, .int 0, .int 0, .int 0, .int 0, .int 0, .int 0, .int 0, .int 0, .int 0, .int 0, .int 0, .int 0, .int 0, .int 0, .int 0, .int 0, .int 0, .int 0, .int 0, .int 0, .int 0, .int 0, .int 0, .int 0, .int 0, .int 0, .int 0, .int 0, .int 0, .int 0, .int 0, .int 0, .int 0, .int 0, .int 0, .int 0, .int 0, .int 0, .int 0, .int 0], vm := .none }]
def classes : Array Class := #[k0, k1, k2, k3, k4, k5, k6, k7, k8, k9, k10]
def interned : List (Array UInt16 × Addr) := []
def slotsUsed : Nat := 259
def theMethod : MethodId := ⟨1, 1⟩
def args0 : Array Value := #[.int 65]
def aboutOver (below : List Frame) : State where
  vm := { classes := classes, interned := interned.toArray }
  heap := heap
  slotsUsed := slotsUsed
  threads := #[{ frames := .invoking theMethod args0 :: below }]
def below0 : List Frame := [.native { method := ⟨0, 0⟩, args := #[] }]
def about1 : State := aboutOver below0
def p0 : Program := .bare "" "" ""
def e0 : Env := launch0.env 0 0 0
theorem w_frames : about1.frames = Frame.invoking theMethod args0 :: below0 := rfl
set_option maxRecDepth 65536 in
theorem w_args : argsFit about1.vm theMethod args0 = true := by decide +kernel
set_option maxRecDepth 65536 in
theorem w_heap : heapFits about1 = true := by decide +kernel
set_option maxRecDepth 65536 in
theorem w_runnable : about1.curStatus? = some .runnable := by decide +kernel
set_option maxRecDepth 65536 in
theorem w_alone : about1.alone = true := by decide +kernel
set_option maxRecDepth 65536 in
theorem w_named : about1.methodNamed? x = some theMethod := by decide +kernel
set_option maxRecDepth 65536 in
theorem w_hears : about1.hears theMethod below0 = true := by decide +kernel
set_option maxRecDepth 65536 in
theorem w_ripe : about1.ripe theMethod args0 below0 = true := by decide +kernel
theorem w_running : about1.status = .running := rfl
set_option maxRecDepth 65536 in
theorem w_room : about1.hasRoom e0.platform room_1 = true :=
  launch0.hasRoom_least _ room_1 (by decide +kernel) (by decide +kernel) (by decide +kernel) (by decide +kernel) (by decide +kernel) (by decide +kernel)
theorem allAtoms_all (ts : List Jvm.Cond) (a : Array Jvm.Value) (st : Jvm.State) : (allAtoms ts).before a st = ts.all (fun c => c.before a st) := by
  induction ts with
  | nil => rfl
  | cons c t ih =>
    show (Jvm.Cond.and c (allAtoms t)).before a st = _
    rw [Jvm.Cond.before_and, ih, List.all_cons]
def words1 : List Jvm.Cond := Jvm.Cond.code x code maxLocals ret :: tables_1
/-- a 'code' word, met by the world's own term for the bytes: nothing is compared byte by byte -/
theorem code_word {y : MethodName} {bytes : ByteArray} {mx : Nat} {rt : Option FieldType} {a : Array Value} {s : State} {m : MethodId} {meth : Method} {c : Code} (h1 : s.methodNamed? y = some m) (h2 : s.vm.method? m = some meth) (h3 : meth.code = some c) (h4 : c.code = bytes)
    (h5 : (c.maxLocals == mx && c.exceptionTable.isEmpty && decide (c.maxStack ≤ mostOperands) && decide (meth.sig.returnType = rt) && !meth.locks && decide (parseMethodDescriptor y.desc = some meth.sig)) = true) : (Jvm.Cond.code y bytes mx rt).before a s = true := by
  simp only [Bool.and_eq_true, beq_iff_eq, Bool.not_eq_true', decide_eq_true_eq] at h5
  obtain ⟨⟨⟨⟨⟨g1, g2⟩, g3⟩, g4⟩, g5⟩, g6⟩ := h5
  simp [Cond.before, Cond.holds, Cond.value, h1, h2, h3, h4, g1, g2, g3, g4, g5, g6]
def isCode : Jvm.Cond → Bool
  | .code _ _ _ _ => true
  | _ => false
theorem all_split {L : List Jvm.Cond} {P : Jvm.Cond → Bool} (h1 : L.all (fun c => isCode c || P c) = true) (h2 : ∀ c ∈ L.filter isCode, P c = true) : L.all P = true := by
  refine List.all_eq_true.mpr fun c hc => ?_
  have h := List.all_eq_true.mp h1 c hc
  rcases Bool.eq_false_or_eq_true (isCode c) with hi | hi
  · exact h2 c (List.mem_filter.mpr ⟨hc, hi⟩)
  · simpa [hi] using h
set_option maxRecDepth 65536 in
theorem w_c0 : (Jvm.Cond.code x code maxLocals ret).before args0 about1 = true := code_word (m := ⟨1, 1⟩) (meth := k1m1) (c := k1c1) (by decide +kernel) rfl rfl rfl (by decide +kernel)
set_option maxRecDepth 65536 in
theorem w_c1 : (Jvm.Cond.code ({ cls := "com/example/tallykey/tallykey/HttpSyntax", name := "isToken", desc := "(B)Z" } : Jvm.MethodName) prog_5_method_2_code (1 : Nat) (Option.some Jvm.ClassFile.FieldType.boolean)).before args0 about1 = true := code_word (m := ⟨2, 1⟩) (meth := k2m1) (c := k2c1) (by decide +kernel) rfl rfl rfl (by decide +kernel)
set_option maxRecDepth 65536 in
theorem w_c2 : (Jvm.Cond.code ({ cls := "com/example/tallykey/tallykey/HttpSyntaxIsTokenPinLaw", name := "expected", desc := "(I)Z" } : Jvm.MethodName) method_3_code (1 : Nat) (Option.some Jvm.ClassFile.FieldType.boolean)).before args0 about1 = true := code_word (m := ⟨1, 2⟩) (meth := k1m2) (c := k1c2) (by decide +kernel) rfl rfl rfl (by decide +kernel)
def codes1 : List Jvm.Cond := [Jvm.Cond.code x code maxLocals ret, Jvm.Cond.code ({ cls := "com/example/tallykey/tallykey/HttpSyntax", name := "isToken", desc := "(B)Z" } : Jvm.MethodName) prog_5_method_2_code (1 : Nat) (Option.some Jvm.ClassFile.FieldType.boolean), Jvm.Cond.code ({ cls := "com/example/tallykey/tallykey/HttpSyntaxIsTokenPinLaw", name := "expected", desc := "(I)Z" } : Jvm.MethodName) method_3_code (1 : Nat) (Option.some Jvm.ClassFile.FieldType.boolean)]
set_option maxRecDepth 65536 in
theorem codes_eq : words1.filter isCode = codes1 := rfl
theorem w_codes : ∀ c ∈ words1.filter isCode, c.before args0 about1 = true := by
  rw [codes_eq]
  intro c hc
  simp only [codes1, List.mem_cons, List.not_mem_nil, or_false] at hc
  rcases hc with rfl | rfl | rfl
  · exact w_c0
  · exact w_c1
  · exact w_c2
set_option maxRecDepth 65536 in
theorem w_t1 : words1.all (fun c => isCode c || c.before args0 about1) = true := by decide +kernel
theorem w_tables : (allAtoms (Jvm.Cond.code x code maxLocals ret :: tables_1)).before args0 about1 = true := by
  rw [allAtoms_all]
  show words1.all (fun c => c.before args0 about1) = true
  refine all_split ?_ w_codes
  rw [w_t1]
set_option maxRecDepth 65536 in
theorem w_case : (Jvm.Cond.and given_1 narrow_1).before args0 about1 = true := by decide +kernel
theorem w_applies : (headSpec (Jvm.Cond.code x code maxLocals ret :: tables_1) room_1).applies x e0.platform about1 = true :=
  (Spec.applies_iff w_frames).mpr ⟨w_running, w_runnable, w_alone, w_named, w_hears, w_ripe, w_room, w_tables⟩
theorem atStart : AtStart classFile x code maxLocals ret World_1 tables_1 room_1 Calls_1 rest_1 Pre_1 launch0 p0 e0 about1 theMethod args0 below0 :=
  ⟨lists_1, trivial, launch0.admits_env _ _ _, launch0.least_env, fairChoices_fair.cas, fairChoices_fair.clock, w_frames, w_args, w_heap, w_applies, trivial, trivial, w_case⟩
end start1
theorem witness_1 : WitnessClaimed_1 := ⟨start1.p0, start1.e0, start1.about1, start1.theMethod, start1.args0, start1.below0, start1.atStart⟩
end Jvm.Pilot.@@N@@
