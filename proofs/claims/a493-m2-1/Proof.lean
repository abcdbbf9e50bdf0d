import JvmDerived
import JvmDerived.Pilot.@@N@@Statement
import JvmDerived.Pilot.@@N@@Code
set_option linter.unusedVariables false
set_option linter.unusedSimpArgs false
namespace Jvm.Pilot.@@N@@
open Jvm Jvm.ClassFile Sem Op Lib Jvm.Free Jvm.Stand Jvm.LawKit Jvm.RoadKit Bundle Jvm.Pilot.@@N@@.Jvm.D
section Own
/-- from any state that stands at this heap, pc, locals and stack the run comes to an end that Q takes -/
def Wk (l : Launch) (Z : State) (n0 : Nat) (own nm : String) (bytes : ByteArray) (maxL : Nat) (ret : Option FieldType) (R : Room) (kc ks : Nat) (Q : Option Value → Heap → Prop) (h : Heap) (cl sl pc : Nat) (ls : Array Slot) (st : List Value) : Prop :=
  ∀ (p : Program) (e : Env) (s : State) (m : MethodId) (args : Array Value) (below : List Frame) (meth : Method) (c : Code) (T : State) (locs : List Loc),
    p.tables.exec = Jvm.exec → c.code = bytes → c.maxLocals = maxL → s.vm.findClass own = some m.cls → meth.name = nm → meth.sig.returnType = ret → meth.locks = false → Z.Warmed39 s.vm →
    Stand p l e R s m args below meth c T locs cl sl → T.heap = h → Fr n0 locs →
    ∃ s₂ o, Steps p.tables e below (T.setTop (mkF m pc ls st)) s₂ ∧ s₂.status = .running ∧ Ended s₂ below o ∧ ∃ v L, o = .returned v ∧ (Fr n0 L ∧ Q v s₂.heap) ∧ FrameEnd s o s₂ L kc ks
/-- a method's contract: from heap h, with the arguments as', it returns as Q says; new places alone are written -/
def Met (l : Launch) (Z : State) (n0 : Nat) (y : MethodName) (bytes : ByteArray) (maxL : Nat) (ret : Option FieldType) (rm : Room) (as' : Array Value) (h : Heap) (Q : Option Value → Heap → Prop) : Prop :=
  ∀ ws : List Jvm.Cond, MetFree l y (head1 (Jvm.Cond.code y bytes maxL ret :: ws) rm) (fun a U => a = as' ∧ Z.Warmed39 U.vm ∧ U.heap = h) (fun _ _ _ _ _ => True) (fun _ U o U' => ∃ v L, o = .returned v ∧ (Fr n0 L ∧ Q v U'.heap) ∧ FrameEnd U o U' L rm.cells rm.slots)
def icP : ClassFile.Cond → Int32 → Int32 → Prop
  | .eq, x, y => x = y | .ne, x, y => ¬ x = y | .lt, x, y => x < y | .ge, x, y => ¬ x < y | .gt, x, y => y < x | .le, x, y => ¬ y < x
def icN : ClassFile.Cond → Int32 → Int32 → Prop
  | .eq, x, y => ¬ x = y | .ne, x, y => x = y | .lt, x, y => ¬ x < y | .ge, x, y => x < y | .gt, x, y => ¬ y < x | .le, x, y => y < x
def acP : ACond → Value → Value → Prop
  | .eq, x, y => x = y | .ne, x, y => ¬ x = y
def acN : ACond → Value → Value → Prop
  | .eq, x, y => ¬ x = y | .ne, x, y => x = y
theorem ic_t {cd : ClassFile.Cond} {x y : Int32} (q : icP cd x y) : if_icmp.holds cd x y = true := by
  cases cd
  · exact (teq q).1
  · exact (feq q).2
  · exact (tlt q).1
  · exact (flt q).2.1
  · exact (tlt q).2.2.1
  · exact (flt q).2.2.2
theorem ic_f {cd : ClassFile.Cond} {x y : Int32} (q : icN cd x y) : if_icmp.holds cd x y = false := by
  cases cd
  · exact (feq q).1
  · exact (teq q).2
  · exact (flt q).1
  · exact (tlt q).2.1
  · exact (flt q).2.2.1
  · exact (tlt q).2.2.2
theorem ic_or (cd : ClassFile.Cond) (x y : Int32) : icP cd x y ∨ icN cd x y := by
  cases cd <;> simp only [icP, icN] <;> first | exact Decidable.em _ | exact (Decidable.em _).symm
theorem ac_t {cd : ACond} {x y : Value} (q : acP cd x y) : XT.acmp cd x y = true := by
  cases cd
  · exact decide_eq_true (show x = y from q)
  · exact decide_eq_true (show x ≠ y from q)
theorem ac_f {cd : ACond} {x y : Value} (q : acN cd x y) : XT.acmp cd x y = false := by
  cases cd
  · exact decide_eq_false (show ¬ x = y from q)
  · exact decide_eq_false (fun z : x ≠ y => z q)
theorem ac_or (cd : ACond) (x y : Value) : acP cd x y ∨ acN cd x y := by
  cases cd <;> simp only [acP, acN] <;> first | exact Classical.em _ | exact (Classical.em _).symm
variable {l : Launch} {Z : State} {a0 : Array Value} {n0 : Nat} {own nm : String} {bytes : ByteArray} {maxL : Nat} {ret : Option FieldType} {R : Room} {kc ks : Nat} {Q : Option Value → Heap → Prop} {h : Heap} {cl sl pc q : Nat} {ls ls' : Array Slot} {st st' rest : List Value}
theorem Met.mono {y : MethodName} {rm : Room} {as' : Array Value} {Q' : Option Value → Heap → Prop} (M : Met l Z n0 y bytes maxL ret rm as' h Q) (f : ∀ v h', Q v h' → Q' v h') : Met l Z n0 y bytes maxL ret rm as' h Q' := fun ws p e a1 a2 a3 s m args below b1 b2 b3 b4 => by
  obtain ⟨n, o, c1, c2, c3, v, L, c4, c5, c6⟩ := M ws p e a1 a2 a3 s m args below b1 b2 b3 b4
  exact ⟨n, o, c1, c2, c3, v, L, c4, ⟨c5.1, f _ _ c5.2⟩, c6⟩
theorem Met.of_wk {y : MethodName} {rm : Room} {as' : Array Value} (hp : plainFor y = true) (he : ∀ m, entryFrame m as' maxL = mkF m 0 ls []) (k : Wk l Z n0 y.cls y.name bytes maxL ret rm rm.cells rm.slots Q h 0 0 0 ls []) : Met l Z n0 y bytes maxL ret rm as' h Q := by
  intro ws
  refine MetFree.of_bodySF hp hisR ?_
  intro p e s m args below meth c s₁ Bd hml0 hP hK
  obtain ⟨rfl, hZ, hh⟩ := hP
  have X0 : Stand p l e rm s m args below meth c s₁ [] 0 0 := Stand.of_body Bd
  have e0 : s₁.heap = h := by rw [← hh, Bd.state]; rfl
  rw [he m]
  exact k p e s m _ below meth c s₁ [] Bd.exec Bd.bytes hml0 (findClass_of_methodNamed Bd.named) (name_of_methodNamed Bd.named Bd.method).1 Bd.returns Bd.notSynchronized hZ X0 e0 (Fr.nil n0)
theorem Wk.step (hs : ∀ {p : Program} {e : Env} {s : State} {m : MethodId} {args : Array Value} {below : List Frame} {meth : Method} {c : Code} {T : State} {locs : List Loc}, p.tables.exec = Jvm.exec → c.code = bytes → s.vm.findClass own = some m.cls → Z.Warmed39 s.vm → Stand p l e R s m args below meth c T locs cl sl → T.heap = h →
      ∀ target, Steps p.tables e below (T.setTop (mkF m q ls' st')) target → Steps p.tables e below (T.setTop (mkF m pc ls st)) target)
    (k : Wk l Z n0 own nm bytes maxL ret R kc ks Q h cl sl q ls' st') : Wk l Z n0 own nm bytes maxL ret R kc ks Q h cl sl pc ls st := by
  intro p e s m args below meth c T locs hx hby hml hown hnm hret hlk hZ X eT N
  obtain ⟨s₂, o, h1, r⟩ := k p e s m args below meth c T locs hx hby hml hown hnm hret hlk hZ X eT N
  exact ⟨s₂, o, hs hx hby hown hZ X eT _ h1, r⟩
theorem Wk.stepW (hs : ∀ {p : Program} {e : Env} {s : State} {m : MethodId} {args : Array Value} {below : List Frame} {meth : Method} {c : Code} {T : State} {locs : List Loc}, p.tables.exec = Jvm.exec → c.code = bytes → s.vm.findClass own = some m.cls → Z.Warmed39 s.vm → Stand p l e R s m args below meth c T locs cl sl → T.heap = h →
      ∃ T', Stand p l e R s m args below meth c T' locs cl sl ∧ T'.heap = h ∧ ∀ target, Steps p.tables e below (T'.setTop (mkF m q ls' st')) target → Steps p.tables e below (T.setTop (mkF m pc ls st)) target)
    (k : Wk l Z n0 own nm bytes maxL ret R kc ks Q h cl sl q ls' st') : Wk l Z n0 own nm bytes maxL ret R kc ks Q h cl sl pc ls st := by
  intro p e s m args below meth c T locs hx hby hml hown hnm hret hlk hZ X eT N
  obtain ⟨T', X', eT', st⟩ := hs hx hby hown hZ X eT
  obtain ⟨s₂, o, h1, r⟩ := k p e s m args below meth c T' locs hx hby hml hown hnm hret hlk hZ X' eT' N
  exact ⟨s₂, o, st _ h1, r⟩
theorem Wk.iloadN {i : Fin 4} {v : Int32} (hd : decode bytes pc = .ok (.iload_n i, 1)) (hq : pc + 1 = q) (hl : ls[i.val]? = some (.val (.int v))) (k : Wk l Z n0 own nm bytes maxL ret R kc ks Q h cl sl q ls (.int v :: st)) : Wk l Z n0 own nm bytes maxL ret R kc ks Q h cl sl pc ls st := by
  subst hq; exact Wk.step (fun hx hby _ _ X _ _ k => XS.iloadN X.here hx rfl (hb hby hd) hl k) k
theorem Wk.iload {i : Nat} {v : Int32} (hd : decode bytes pc = .ok (.iload i, 2)) (hq : pc + 2 = q) (hl : ls[i]? = some (.val (.int v))) (k : Wk l Z n0 own nm bytes maxL ret R kc ks Q h cl sl q ls (.int v :: st)) : Wk l Z n0 own nm bytes maxL ret R kc ks Q h cl sl pc ls st := by
  subst hq; exact Wk.step (fun hx hby _ _ X _ _ k => XS.iload X.here hx rfl (hb hby hd) hl k) k
theorem Wk.lloadN {i : Fin 4} {v : Int64} (hd : decode bytes pc = .ok (.lload_n i, 1)) (hq : pc + 1 = q) (hl : ls[i.val]? = some (.val (.long v))) (k : Wk l Z n0 own nm bytes maxL ret R kc ks Q h cl sl q ls (.long v :: st)) : Wk l Z n0 own nm bytes maxL ret R kc ks Q h cl sl pc ls st := by
  subst hq; exact Wk.step (fun hx hby _ _ X _ _ k => XT.lloadN X.here hx rfl (hb hby hd) hl k) k
theorem Wk.lload {i : Nat} {v : Int64} (hd : decode bytes pc = .ok (.lload i, 2)) (hq : pc + 2 = q) (hl : ls[i]? = some (.val (.long v))) (k : Wk l Z n0 own nm bytes maxL ret R kc ks Q h cl sl q ls (.long v :: st)) : Wk l Z n0 own nm bytes maxL ret R kc ks Q h cl sl pc ls st := by
  subst hq; exact Wk.step (fun hx hby _ _ X _ _ k => XT.lload X.here hx rfl (hb hby hd) hl k) k
theorem Wk.aloadN {i : Fin 4} {v : Value} (hd : decode bytes pc = .ok (.aload_n i, 1)) (hq : pc + 1 = q) (hl : ls[i.val]? = some (.val v)) (hv : v.isRef = true) (k : Wk l Z n0 own nm bytes maxL ret R kc ks Q h cl sl q ls (v :: st)) : Wk l Z n0 own nm bytes maxL ret R kc ks Q h cl sl pc ls st := by
  subst hq; exact Wk.step (fun hx hby _ _ X _ _ k => XS.aloadN X.here hx rfl (hb hby hd) hl hv k) k
theorem Wk.aload {i : Nat} {v : Value} (hd : decode bytes pc = .ok (.aload i, 2)) (hq : pc + 2 = q) (hl : ls[i]? = some (.val v)) (hv : v.isRef = true) (k : Wk l Z n0 own nm bytes maxL ret R kc ks Q h cl sl q ls (v :: st)) : Wk l Z n0 own nm bytes maxL ret R kc ks Q h cl sl pc ls st := by
  subst hq; exact Wk.step (fun hx hby _ _ X _ _ k => XS.aload X.here hx rfl (hb hby hd) hl hv k) k
theorem Wk.istoreN {i : Fin 4} {v : Int32} (hd : decode bytes pc = .ok (.istore_n i, 1)) (hq : pc + 1 = q) (hl : storeLocals ls i.val (.int v) = some ls') (k : Wk l Z n0 own nm bytes maxL ret R kc ks Q h cl sl q ls' st) : Wk l Z n0 own nm bytes maxL ret R kc ks Q h cl sl pc ls (.int v :: st) := by
  subst hq; exact Wk.step (fun hx hby _ _ X _ _ k => XS.istoreN X.here hx rfl (hb hby hd) rfl hl k) k
theorem Wk.istore {i : Nat} {v : Int32} (hd : decode bytes pc = .ok (.istore i, 2)) (hq : pc + 2 = q) (hl : storeLocals ls i (.int v) = some ls') (k : Wk l Z n0 own nm bytes maxL ret R kc ks Q h cl sl q ls' st) : Wk l Z n0 own nm bytes maxL ret R kc ks Q h cl sl pc ls (.int v :: st) := by
  subst hq; exact Wk.step (fun hx hby _ _ X _ _ k => XS.istore X.here hx rfl (hb hby hd) rfl hl k) k
theorem Wk.lstoreN {i : Fin 4} {v : Int64} (hd : decode bytes pc = .ok (.lstore_n i, 1)) (hq : pc + 1 = q) (hl : storeLocals ls i.val (.long v) = some ls') (k : Wk l Z n0 own nm bytes maxL ret R kc ks Q h cl sl q ls' st) : Wk l Z n0 own nm bytes maxL ret R kc ks Q h cl sl pc ls (.long v :: st) := by
  subst hq; exact Wk.step (fun hx hby _ _ X _ _ k => XT.lstoreN X.here hx rfl (hb hby hd) rfl hl k) k
theorem Wk.lstore {i : Nat} {v : Int64} (hd : decode bytes pc = .ok (.lstore i, 2)) (hq : pc + 2 = q) (hl : storeLocals ls i (.long v) = some ls') (k : Wk l Z n0 own nm bytes maxL ret R kc ks Q h cl sl q ls' st) : Wk l Z n0 own nm bytes maxL ret R kc ks Q h cl sl pc ls (.long v :: st) := by
  subst hq; exact Wk.step (fun hx hby _ _ X _ _ k => XT.lstore X.here hx rfl (hb hby hd) rfl hl k) k
theorem Wk.astoreN {i : Fin 4} {v : Value} (hd : decode bytes pc = .ok (.astore_n i, 1)) (hq : pc + 1 = q) (hv : v.isRef = true) (hl : storeLocals ls i.val v = some ls') (k : Wk l Z n0 own nm bytes maxL ret R kc ks Q h cl sl q ls' st) : Wk l Z n0 own nm bytes maxL ret R kc ks Q h cl sl pc ls (v :: st) := by
  subst hq; exact Wk.step (fun hx hby _ _ X _ _ k => XS.astoreN X.here hx rfl (hb hby hd) rfl hv hl k) k
theorem Wk.astore {i : Nat} {v : Value} (hd : decode bytes pc = .ok (.astore i, 2)) (hq : pc + 2 = q) (hv : v.isRef = true) (hl : storeLocals ls i v = some ls') (k : Wk l Z n0 own nm bytes maxL ret R kc ks Q h cl sl q ls' st) : Wk l Z n0 own nm bytes maxL ret R kc ks Q h cl sl pc ls (v :: st) := by
  subst hq; exact Wk.step (fun hx hby _ _ X _ _ k => XS.astore X.here hx rfl (hb hby hd) rfl hv hl k) k
theorem Wk.iconst {i : Int} {v : Int32} (hd : decode bytes pc = .ok (.iconst i, 1)) (hq : pc + 1 = q) (hv : Int32.ofInt i = v) (k : Wk l Z n0 own nm bytes maxL ret R kc ks Q h cl sl q ls (.int v :: st)) : Wk l Z n0 own nm bytes maxL ret R kc ks Q h cl sl pc ls st := by
  subst hq hv; exact Wk.step (fun hx hby _ _ X _ _ k => XS.iconst X.here hx rfl (hb hby hd) k) k
theorem Wk.bipush {i : Int} {v : Int32} (hd : decode bytes pc = .ok (.bipush i, 2)) (hq : pc + 2 = q) (hv : (Int8.ofInt i).toInt32 = v) (k : Wk l Z n0 own nm bytes maxL ret R kc ks Q h cl sl q ls (.int v :: st)) : Wk l Z n0 own nm bytes maxL ret R kc ks Q h cl sl pc ls st := by
  subst hq hv; exact Wk.step (fun hx hby _ _ X _ _ k => XS.bipush X.here hx rfl (hb hby hd) k) k
theorem Wk.sipush {i : Int} {v : Int32} (hd : decode bytes pc = .ok (.sipush i, 3)) (hq : pc + 3 = q) (hv : (Int16.ofInt i).toInt32 = v) (k : Wk l Z n0 own nm bytes maxL ret R kc ks Q h cl sl q ls (.int v :: st)) : Wk l Z n0 own nm bytes maxL ret R kc ks Q h cl sl pc ls st := by
  subst hq hv; exact Wk.step (fun hx hby _ _ X _ _ k => XS.sipush X.here hx rfl (hb hby hd) k) k
theorem Wk.lconst {i : Fin 2} {v : Int64} (hd : decode bytes pc = .ok (.lconst i, 1)) (hq : pc + 1 = q) (hv : Int64.ofNat i = v) (k : Wk l Z n0 own nm bytes maxL ret R kc ks Q h cl sl q ls (.long v :: st)) : Wk l Z n0 own nm bytes maxL ret R kc ks Q h cl sl pc ls st := by
  subst hq hv; exact Wk.step (fun hx hby _ _ X _ _ k => XT.lconst X.here hx rfl (hb hby hd) k) k
theorem Wk.null  (hd : decode bytes pc = .ok (.aconst_null, 1)) (hq : pc + 1 = q)  (k : Wk l Z n0 own nm bytes maxL ret R kc ks Q h cl sl q ls (.null :: st)) : Wk l Z n0 own nm bytes maxL ret R kc ks Q h cl sl pc ls st := by
  subst hq; exact Wk.step (fun hx hby _ _ X _ _ k => XS.aconstNull X.here hx rfl (hb hby hd) k) k
theorem Wk.ldcI {i : Nat} {v : Int32} (w : (Jvm.Cond.constant own i v).before a0 Z = true) (hd : decode bytes pc = .ok (.ldc i, 2)) (hq : pc + 2 = q) (k : Wk l Z n0 own nm bytes maxL ret R kc ks Q h cl sl q ls (.int v :: st)) : Wk l Z n0 own nm bytes maxL ret R kc ks Q h cl sl pc ls st := by
  subst hq; exact Wk.step (fun hx hby hown hZ X _ t k => X.ldcInt hx hown (mv hZ w) (g := mkF _ pc ls st) rfl (hb hby hd) t k) k
theorem Wk.ldc2 {i : Nat} {v : Int64} (w : (Jvm.Cond.constantLong own i v).before a0 Z = true) (hd : decode bytes pc = .ok (.ldc2_w i, 3)) (hq : pc + 3 = q) (k : Wk l Z n0 own nm bytes maxL ret R kc ks Q h cl sl q ls (.long v :: st)) : Wk l Z n0 own nm bytes maxL ret R kc ks Q h cl sl pc ls st := by
  subst hq; exact Wk.step (fun hx hby hown hZ X _ t k => X.ldc2Long hx hown (mv hZ w) (g := mkF _ pc ls st) rfl (hb hby hd) t k) k
theorem Wk.iadd {x y v : Int32} (hd : decode bytes pc = .ok (.iadd, 1)) (hq : pc + 1 = q) (hv : x + y = v) (k : Wk l Z n0 own nm bytes maxL ret R kc ks Q h cl sl q ls (.int v :: st)) : Wk l Z n0 own nm bytes maxL ret R kc ks Q h cl sl pc ls (.int y :: .int x :: st) := by
  subst hq hv; exact Wk.step (fun hx hby _ _ X _ _ k => XS.iadd X.here hx rfl (hb hby hd) rfl k) k
theorem Wk.isub {x y v : Int32} (hd : decode bytes pc = .ok (.isub, 1)) (hq : pc + 1 = q) (hv : x - y = v) (k : Wk l Z n0 own nm bytes maxL ret R kc ks Q h cl sl q ls (.int v :: st)) : Wk l Z n0 own nm bytes maxL ret R kc ks Q h cl sl pc ls (.int y :: .int x :: st) := by
  subst hq hv; exact Wk.step (fun hx hby _ _ X _ _ k => XS.isub X.here hx rfl (hb hby hd) rfl k) k
theorem Wk.iand {x y v : Int32} (hd : decode bytes pc = .ok (.iand, 1)) (hq : pc + 1 = q) (hv : x &&& y = v) (k : Wk l Z n0 own nm bytes maxL ret R kc ks Q h cl sl q ls (.int v :: st)) : Wk l Z n0 own nm bytes maxL ret R kc ks Q h cl sl pc ls (.int y :: .int x :: st) := by
  subst hq hv; exact Wk.step (fun hx hby _ _ X _ _ k => XS.iand X.here hx rfl (hb hby hd) rfl k) k
theorem Wk.imul {x y v : Int32} (hd : decode bytes pc = .ok (.imul, 1)) (hq : pc + 1 = q) (hv : x * y = v) (k : Wk l Z n0 own nm bytes maxL ret R kc ks Q h cl sl q ls (.int v :: st)) : Wk l Z n0 own nm bytes maxL ret R kc ks Q h cl sl pc ls (.int y :: .int x :: st) := by
  subst hq hv; exact Wk.step (fun hx hby _ _ X _ _ k => XS.imul X.here hx rfl (hb hby hd) rfl k) k
theorem Wk.ishr {x y v : Int32} (hd : decode bytes pc = .ok (.ishr, 1)) (hq : pc + 1 = q) (hv : x >>> (y &&& 31) = v) (k : Wk l Z n0 own nm bytes maxL ret R kc ks Q h cl sl q ls (.int v :: st)) : Wk l Z n0 own nm bytes maxL ret R kc ks Q h cl sl pc ls (.int y :: .int x :: st) := by
  subst hq hv; exact Wk.step (fun hx hby _ _ X _ _ k => XT.ishr X.here hx rfl (hb hby hd) rfl k) k
theorem Wk.iushr {x y v : Int32} (hd : decode bytes pc = .ok (.iushr, 1)) (hq : pc + 1 = q) (hv : XT.ushr x y = v) (k : Wk l Z n0 own nm bytes maxL ret R kc ks Q h cl sl q ls (.int v :: st)) : Wk l Z n0 own nm bytes maxL ret R kc ks Q h cl sl pc ls (.int y :: .int x :: st) := by
  subst hq hv; exact Wk.step (fun hx hby _ _ X _ _ k => XT.iushr X.here hx rfl (hb hby hd) rfl k) k
theorem Wk.irem {x y v : Int32} (hd : decode bytes pc = .ok (.irem, 1)) (hq : pc + 1 = q) (hy : y ≠ 0) (hv : x % y = v) (k : Wk l Z n0 own nm bytes maxL ret R kc ks Q h cl sl q ls (.int v :: st)) : Wk l Z n0 own nm bytes maxL ret R kc ks Q h cl sl pc ls (.int y :: .int x :: st) := by
  subst hq hv; exact Wk.step (fun hx hby _ _ X _ _ k => iremM X hx (g := mkF _ pc ls (.int y :: .int x :: st)) rfl (hb hby hd) rfl hy k) k
theorem Wk.idiv {x y v : Int32} (hd : decode bytes pc = .ok (.idiv, 1)) (hq : pc + 1 = q) (hy : y ≠ 0) (hv : x / y = v) (k : Wk l Z n0 own nm bytes maxL ret R kc ks Q h cl sl q ls (.int v :: st)) : Wk l Z n0 own nm bytes maxL ret R kc ks Q h cl sl pc ls (.int y :: .int x :: st) := by
  subst hq hv; exact Wk.step (fun hx hby _ _ X _ _ k => XS.idiv X.here hx rfl (hb hby hd) rfl hy k) k
theorem Wk.i2b {x v : Int32} (hd : decode bytes pc = .ok (.i2b, 1)) (hq : pc + 1 = q) (hv : x.toInt8.toInt32 = v) (k : Wk l Z n0 own nm bytes maxL ret R kc ks Q h cl sl q ls (.int v :: st)) : Wk l Z n0 own nm bytes maxL ret R kc ks Q h cl sl pc ls (.int x :: st) := by
  subst hq hv; exact Wk.step (fun hx hby _ _ X _ _ k => XT.i2b X.here hx rfl (hb hby hd) rfl k) k
theorem Wk.i2s {x v : Int32} (hd : decode bytes pc = .ok (.i2s, 1)) (hq : pc + 1 = q) (hv : x.toInt16.toInt32 = v) (k : Wk l Z n0 own nm bytes maxL ret R kc ks Q h cl sl q ls (.int v :: st)) : Wk l Z n0 own nm bytes maxL ret R kc ks Q h cl sl pc ls (.int x :: st) := by
  subst hq hv; exact Wk.step (fun hx hby _ _ X _ _ k => XT.i2s X.here hx rfl (hb hby hd) rfl k) k
theorem Wk.i2l {x : Int32} {v : Int64} (hd : decode bytes pc = .ok (.i2l, 1)) (hq : pc + 1 = q) (hv : x.toInt64 = v) (k : Wk l Z n0 own nm bytes maxL ret R kc ks Q h cl sl q ls (.long v :: st)) : Wk l Z n0 own nm bytes maxL ret R kc ks Q h cl sl pc ls (.int x :: st) := by
  subst hq hv; exact Wk.step (fun hx hby _ _ X _ _ k => XT.i2l X.here hx rfl (hb hby hd) rfl k) k
theorem Wk.l2i {x : Int64} {v : Int32} (hd : decode bytes pc = .ok (.l2i, 1)) (hq : pc + 1 = q) (hv : x.toInt32 = v) (k : Wk l Z n0 own nm bytes maxL ret R kc ks Q h cl sl q ls (.int v :: st)) : Wk l Z n0 own nm bytes maxL ret R kc ks Q h cl sl pc ls (.long x :: st) := by
  subst hq hv; exact Wk.step (fun hx hby _ _ X _ _ k => XT.l2i X.here hx rfl (hb hby hd) rfl k) k
theorem Wk.ladd {x y v : Int64} (hd : decode bytes pc = .ok (.ladd, 1)) (hq : pc + 1 = q) (hv : x + y = v) (k : Wk l Z n0 own nm bytes maxL ret R kc ks Q h cl sl q ls (.long v :: st)) : Wk l Z n0 own nm bytes maxL ret R kc ks Q h cl sl pc ls (.long y :: .long x :: st) := by
  subst hq hv; exact Wk.step (fun hx hby _ _ X _ _ k => XT.ladd X.here hx rfl (hb hby hd) rfl k) k
theorem Wk.lsub {x y v : Int64} (hd : decode bytes pc = .ok (.lsub, 1)) (hq : pc + 1 = q) (hv : x - y = v) (k : Wk l Z n0 own nm bytes maxL ret R kc ks Q h cl sl q ls (.long v :: st)) : Wk l Z n0 own nm bytes maxL ret R kc ks Q h cl sl pc ls (.long y :: .long x :: st) := by
  subst hq hv; exact Wk.step (fun hx hby _ _ X _ _ k => XT.lsub X.here hx rfl (hb hby hd) rfl k) k
theorem Wk.lmul {x y v : Int64} (hd : decode bytes pc = .ok (.lmul, 1)) (hq : pc + 1 = q) (hv : x * y = v) (k : Wk l Z n0 own nm bytes maxL ret R kc ks Q h cl sl q ls (.long v :: st)) : Wk l Z n0 own nm bytes maxL ret R kc ks Q h cl sl pc ls (.long y :: .long x :: st) := by
  subst hq hv; exact Wk.step (fun hx hby _ _ X _ _ k => XT.lmul X.here hx rfl (hb hby hd) rfl k) k
theorem Wk.lneg {x v : Int64} (hd : decode bytes pc = .ok (.lneg, 1)) (hq : pc + 1 = q) (hv : -x = v) (k : Wk l Z n0 own nm bytes maxL ret R kc ks Q h cl sl q ls (.long v :: st)) : Wk l Z n0 own nm bytes maxL ret R kc ks Q h cl sl pc ls (.long x :: st) := by
  subst hq hv; exact Wk.step (fun hx hby _ _ X _ _ k => XT.lneg X.here hx rfl (hb hby hd) rfl k) k
theorem Wk.lcmp {x y : Int64} {v : Int32} (hd : decode bytes pc = .ok (.lcmp, 1)) (hq : pc + 1 = q) (hv : XT.cmpL x y = v) (k : Wk l Z n0 own nm bytes maxL ret R kc ks Q h cl sl q ls (.int v :: st)) : Wk l Z n0 own nm bytes maxL ret R kc ks Q h cl sl pc ls (.long y :: .long x :: st) := by
  subst hq hv; exact Wk.step (fun hx hby _ _ X _ _ k => XT.lcmp X.here hx rfl (hb hby hd) rfl k) k
theorem Wk.iinc {i : Nat} {cst : Int} {x v : Int32} (hd : decode bytes pc = .ok (.iinc i cst, 3)) (hq : pc + 3 = q) (hl : ls[i]? = some (.val (.int x))) (hv : x + Int32.ofInt cst = v) (hl' : storeLocals ls i (.int v) = some ls') (k : Wk l Z n0 own nm bytes maxL ret R kc ks Q h cl sl q ls' st) : Wk l Z n0 own nm bytes maxL ret R kc ks Q h cl sl pc ls st := by
  subst hq hv; exact Wk.step (fun hx hby _ _ X _ _ k => XS.iinc X.here hx rfl (hb hby hd) hl hl' k) k
theorem Wk.dup {x : Value} (hd : decode bytes pc = .ok (.dup, 1)) (hq : pc + 1 = q) (hc : x.category = 1) (k : Wk l Z n0 own nm bytes maxL ret R kc ks Q h cl sl q ls (x :: x :: st)) : Wk l Z n0 own nm bytes maxL ret R kc ks Q h cl sl pc ls (x :: st) := by
  subst hq; exact Wk.step (fun hx hby _ _ X _ _ k => XS.dup X.here hx rfl (hb hby hd) rfl hc k) k
theorem Wk.dupX1 {x y : Value} (hd : decode bytes pc = .ok (.dup_x1, 1)) (hq : pc + 1 = q) (hc : x.category = 1) (hc' : y.category = 1) (k : Wk l Z n0 own nm bytes maxL ret R kc ks Q h cl sl q ls (x :: y :: x :: st)) : Wk l Z n0 own nm bytes maxL ret R kc ks Q h cl sl pc ls (x :: y :: st) := by
  subst hq; exact Wk.step (fun hx hby _ _ X _ _ k => XT.dupX1 X.here hx rfl (hb hby hd) rfl hc hc' k) k
theorem Wk.pop {x : Value} (hd : decode bytes pc = .ok (.pop, 1)) (hq : pc + 1 = q) (hc : x.category = 1) (k : Wk l Z n0 own nm bytes maxL ret R kc ks Q h cl sl q ls st) : Wk l Z n0 own nm bytes maxL ret R kc ks Q h cl sl pc ls (x :: st) := by
  subst hq; exact Wk.step (fun hx hby _ _ X _ _ k => XT.pop X.here hx rfl (hb hby hd) rfl hc k) k
theorem Wk.goto {o : Int} (hd : decode bytes pc = .ok (.goto o, 3)) (ho : 0 ≤ (pc : Int) + o) (hp : ((pc : Int) + o).toNat = q) (k : Wk l Z n0 own nm bytes maxL ret R kc ks Q h cl sl q ls st) : Wk l Z n0 own nm bytes maxL ret R kc ks Q h cl sl pc ls st :=
  Wk.step (fun hx hby _ _ X _ _ k => XS.goto X.here hx rfl rfl (hb hby hd) ho hp k) k
theorem Wk.icmpT {cd : ClassFile.Cond} {o : Int} {x y : Int32} (hd : decode bytes pc = .ok (.if_icmp cd o, 3)) (ho : 0 ≤ (pc : Int) + o) (hp : ((pc : Int) + o).toNat = q) (hc : icP cd x y) (k : Wk l Z n0 own nm bytes maxL ret R kc ks Q h cl sl q ls st) : Wk l Z n0 own nm bytes maxL ret R kc ks Q h cl sl pc ls (.int y :: .int x :: st) :=
  Wk.step (fun hx hby _ _ X _ _ k => XS.icmpYes X.here hx rfl rfl (hb hby hd) rfl (ic_t hc) ho hp k) k
theorem Wk.icmpF {cd : ClassFile.Cond} {o : Int} {x y : Int32} (hd : decode bytes pc = .ok (.if_icmp cd o, 3)) (hq : pc + 3 = q) (hc : icN cd x y) (k : Wk l Z n0 own nm bytes maxL ret R kc ks Q h cl sl q ls st) : Wk l Z n0 own nm bytes maxL ret R kc ks Q h cl sl pc ls (.int y :: .int x :: st) := by
  subst hq; exact Wk.step (fun hx hby _ _ X _ _ k => XS.icmpNo X.here hx rfl (hb hby hd) rfl (ic_f hc) k) k
theorem Wk.icmp {cd : ClassFile.Cond} {o : Int} {x y : Int32} {q' : Nat} (hd : decode bytes pc = .ok (.if_icmp cd o, 3)) (ho : 0 ≤ (pc : Int) + o) (hp : ((pc : Int) + o).toNat = q) (hq : pc + 3 = q') (kT : icP cd x y → Wk l Z n0 own nm bytes maxL ret R kc ks Q h cl sl q ls st) (kF : icN cd x y → Wk l Z n0 own nm bytes maxL ret R kc ks Q h cl sl q' ls st) : Wk l Z n0 own nm bytes maxL ret R kc ks Q h cl sl pc ls (.int y :: .int x :: st) :=
  (ic_or cd x y).elim (fun z => Wk.icmpT hd ho hp z (kT z)) (fun z => Wk.icmpF hd hq z (kF z))
theorem Wk.ifcT {cd : ClassFile.Cond} {o : Int} {x : Int32} (hd : decode bytes pc = .ok (.ifCond cd o, 3)) (ho : 0 ≤ (pc : Int) + o) (hp : ((pc : Int) + o).toNat = q) (hc : icP cd x 0) (k : Wk l Z n0 own nm bytes maxL ret R kc ks Q h cl sl q ls st) : Wk l Z n0 own nm bytes maxL ret R kc ks Q h cl sl pc ls (.int x :: st) :=
  Wk.step (fun hx hby _ _ X _ _ k => XS.ifYes X.here hx rfl rfl (hb hby hd) rfl ((if0 cd x).trans (ic_t hc)) ho hp k) k
theorem Wk.ifcF {cd : ClassFile.Cond} {o : Int} {x : Int32} (hd : decode bytes pc = .ok (.ifCond cd o, 3)) (hq : pc + 3 = q) (hc : icN cd x 0) (k : Wk l Z n0 own nm bytes maxL ret R kc ks Q h cl sl q ls st) : Wk l Z n0 own nm bytes maxL ret R kc ks Q h cl sl pc ls (.int x :: st) := by
  subst hq; exact Wk.step (fun hx hby _ _ X _ _ k => XS.ifNo X.here hx rfl (hb hby hd) rfl ((if0 cd x).trans (ic_f hc)) k) k
theorem Wk.ifc {cd : ClassFile.Cond} {o : Int} {x : Int32} {q' : Nat} (hd : decode bytes pc = .ok (.ifCond cd o, 3)) (ho : 0 ≤ (pc : Int) + o) (hp : ((pc : Int) + o).toNat = q) (hq : pc + 3 = q') (kT : icP cd x 0 → Wk l Z n0 own nm bytes maxL ret R kc ks Q h cl sl q ls st) (kF : icN cd x 0 → Wk l Z n0 own nm bytes maxL ret R kc ks Q h cl sl q' ls st) : Wk l Z n0 own nm bytes maxL ret R kc ks Q h cl sl pc ls (.int x :: st) :=
  (ic_or cd x 0).elim (fun z => Wk.ifcT hd ho hp z (kT z)) (fun z => Wk.ifcF hd hq z (kF z))
theorem Wk.acmpT {cd : ACond} {o : Int} {x y : Value} (hd : decode bytes pc = .ok (.if_acmp cd o, 3)) (ho : 0 ≤ (pc : Int) + o) (hp : ((pc : Int) + o).toNat = q) (hx' : x.isRef = true) (hy' : y.isRef = true) (hc : acP cd x y) (k : Wk l Z n0 own nm bytes maxL ret R kc ks Q h cl sl q ls st) : Wk l Z n0 own nm bytes maxL ret R kc ks Q h cl sl pc ls (y :: x :: st) :=
  Wk.step (fun hx hby _ _ X _ _ k => XT.acmpYes X.here hx rfl rfl (hb hby hd) rfl hx' hy' (ac_t hc) ho hp k) k
theorem Wk.acmpF {cd : ACond} {o : Int} {x y : Value} (hd : decode bytes pc = .ok (.if_acmp cd o, 3)) (hq : pc + 3 = q) (hx' : x.isRef = true) (hy' : y.isRef = true) (hc : acN cd x y) (k : Wk l Z n0 own nm bytes maxL ret R kc ks Q h cl sl q ls st) : Wk l Z n0 own nm bytes maxL ret R kc ks Q h cl sl pc ls (y :: x :: st) := by
  subst hq; exact Wk.step (fun hx hby _ _ X _ _ k => XT.acmpNo X.here hx rfl (hb hby hd) rfl hx' hy' (ac_f hc) k) k
theorem Wk.acmp {cd : ACond} {o : Int} {x y : Value} {q' : Nat} (hd : decode bytes pc = .ok (.if_acmp cd o, 3)) (ho : 0 ≤ (pc : Int) + o) (hp : ((pc : Int) + o).toNat = q) (hq : pc + 3 = q') (hx' : x.isRef = true) (hy' : y.isRef = true) (kT : acP cd x y → Wk l Z n0 own nm bytes maxL ret R kc ks Q h cl sl q ls st) (kF : acN cd x y → Wk l Z n0 own nm bytes maxL ret R kc ks Q h cl sl q' ls st) : Wk l Z n0 own nm bytes maxL ret R kc ks Q h cl sl pc ls (y :: x :: st) :=
  (ac_or cd x y).elim (fun z => Wk.acmpT hd ho hp hx' hy' z (kT z)) (fun z => Wk.acmpF hd hq hx' hy' z (kF z))
theorem Wk.ifnullT {o : Int} (hd : decode bytes pc = .ok (.ifnull o, 3)) (ho : 0 ≤ (pc : Int) + o) (hp : ((pc : Int) + o).toNat = q) (k : Wk l Z n0 own nm bytes maxL ret R kc ks Q h cl sl q ls st) : Wk l Z n0 own nm bytes maxL ret R kc ks Q h cl sl pc ls (.null :: st) :=
  Wk.step (fun hx hby _ _ X _ _ k => XS.ifnullYes X.here hx rfl rfl (hb hby hd) rfl ho hp k) k
theorem Wk.ifnullF {o : Int} {b : Addr} (hd : decode bytes pc = .ok (.ifnull o, 3)) (hq : pc + 3 = q) (k : Wk l Z n0 own nm bytes maxL ret R kc ks Q h cl sl q ls st) : Wk l Z n0 own nm bytes maxL ret R kc ks Q h cl sl pc ls (.ref b :: st) := by
  subst hq; exact Wk.step (fun hx hby _ _ X _ _ k => XS.ifnullNo X.here hx rfl (hb hby hd) rfl k) k
theorem Wk.ifnonnullT {o : Int} {b : Addr} (hd : decode bytes pc = .ok (.ifnonnull o, 3)) (ho : 0 ≤ (pc : Int) + o) (hp : ((pc : Int) + o).toNat = q) (k : Wk l Z n0 own nm bytes maxL ret R kc ks Q h cl sl q ls st) : Wk l Z n0 own nm bytes maxL ret R kc ks Q h cl sl pc ls (.ref b :: st) :=
  Wk.step (fun hx hby _ _ X _ _ k => XT.ifnonnullYes X.here hx rfl rfl (hb hby hd) rfl ho hp k) k
theorem Wk.ifnonnullF {o : Int} (hd : decode bytes pc = .ok (.ifnonnull o, 3)) (hq : pc + 3 = q) (k : Wk l Z n0 own nm bytes maxL ret R kc ks Q h cl sl q ls st) : Wk l Z n0 own nm bytes maxL ret R kc ks Q h cl sl pc ls (.null :: st) := by
  subst hq; exact Wk.step (fun hx hby _ _ X _ _ k => XT.ifnonnullNo X.here hx rfl (hb hby hd) rfl k) k
theorem Wk.tsw {dflt low high : Int} {offs : Array Int} {len : Nat} {o : Int} {i : Int32} (hd : decode bytes pc = .ok (.tableswitch dflt low high offs, len)) (hin : ¬ (i.toInt < low ∨ i.toInt > high)) (hoff : offs[(i.toInt - low).toNat]? = some o) (ho : 0 ≤ (pc : Int) + o) (hp : ((pc : Int) + o).toNat = q) (k : Wk l Z n0 own nm bytes maxL ret R kc ks Q h cl sl q ls st) : Wk l Z n0 own nm bytes maxL ret R kc ks Q h cl sl pc ls (.int i :: st) :=
  Wk.step (fun hx hby _ _ X _ _ k => XS.tswIn X.here hx rfl rfl (hb hby hd) rfl hin hoff ho hp k) k
theorem Wk.getS {O n d R0 : String} {i : Nat} {v : Value} (w : (Jvm.Cond.fieldLink own i R0 n d).before a0 Z = true) (via : Via Z R0 O n d) (F : Sta Z h O n d v) (hd : decode bytes pc = .ok (.getstatic i, 3)) (hq : pc + 3 = q) (k : Wk l Z n0 own nm bytes maxL ret R kc ks Q h cl sl q ls (v :: st)) : Wk l Z n0 own nm bytes maxL ret R kc ks Q h cl sl pc ls st := by
  subst hq; exact Wk.stepW (fun hx hby hown hZ X eT => RoadKit.getS (host := "") X hx hZ hown w via eT F (g := mkF _ pc ls st) rfl (hb hby hd)) k
theorem Wk.getF {O n d R0 : String} {i : Nat} {a : Addr} {v : Value} (w : (Jvm.Cond.fieldLink own i R0 n d).before a0 Z = true) (via : Via Z R0 O n d) (F : Fld Z h a O n d v) (hd : decode bytes pc = .ok (.getfield i, 3)) (hq : pc + 3 = q) (k : Wk l Z n0 own nm bytes maxL ret R kc ks Q h cl sl q ls (v :: st)) : Wk l Z n0 own nm bytes maxL ret R kc ks Q h cl sl pc ls (.ref a :: st) := by
  subst hq; exact Wk.stepW (fun hx hby hown hZ X eT => RoadKit.getF (host := "") X hx hZ hown (Or.inl w) via eT F (g := mkF _ pc ls (.ref a :: st)) rfl rfl (hb hby hd)) k
theorem Wk.alen {a : Addr} {c0 : Cell} {ty : FieldType} {v : Int32} (A : Arr Z h a c0 ty) (hv : c0.slots.size.toInt32 = v) (hd : decode bytes pc = .ok (.arraylength, 1)) (hq : pc + 1 = q) (k : Wk l Z n0 own nm bytes maxL ret R kc ks Q h cl sl q ls (.int v :: st)) : Wk l Z n0 own nm bytes maxL ret R kc ks Q h cl sl pc ls (.ref a :: st) := by
  subst hq hv; exact Wk.step (fun hx hby _ hZ X eT t k => X.arraylength hx (by rw [eT]; exact A.1) (State.isArrayOf_alike hZ.alike A.2.1) (g := mkF _ pc ls (.ref a :: st)) rfl rfl (hb hby hd) t k) k
theorem Wk.aaload {a : Addr} {c0 : Cell} {ty : FieldType} {j : Int32} {v : Value} (A : Arr Z h a c0 ty) (hty : ty.isReference = true) (hin : ¬ (j < 0 ∨ c0.slots.size ≤ j.toNatClampNeg)) (hv : c0.slots[j.toNatClampNeg]? = some v) (hd : decode bytes pc = .ok (.aaload, 1)) (hq : pc + 1 = q) (k : Wk l Z n0 own nm bytes maxL ret R kc ks Q h cl sl q ls (v :: st)) : Wk l Z n0 own nm bytes maxL ret R kc ks Q h cl sl pc ls (.int j :: .ref a :: st) := by
  subst hq; exact Wk.step (fun hx hby _ hZ X eT t k => X.aaload hx (by rw [eT]; exact A.1) (State.isArrayOf_alike hZ.alike A.2.1) hty A.2.2 hin hv (g := mkF _ pc ls (.int j :: .ref a :: st)) rfl rfl (hb hby hd) t k) k
theorem Wk.baloadB {a : Addr} {c0 : Cell} {j : Int32} {v : Value} (A : Arr Z h a c0 .byte) (hin : ¬ (j < 0 ∨ c0.slots.size ≤ j.toNatClampNeg)) (hv : c0.slots[j.toNatClampNeg]? = some v) (hd : decode bytes pc = .ok (.baload, 1)) (hq : pc + 1 = q) (k : Wk l Z n0 own nm bytes maxL ret R kc ks Q h cl sl q ls (v :: st)) : Wk l Z n0 own nm bytes maxL ret R kc ks Q h cl sl pc ls (.int j :: .ref a :: st) := by
  subst hq; exact Wk.step (fun hx hby _ hZ X eT t k => X.baloadBytes hx (by rw [eT]; exact A.1) (State.isArrayOf_alike hZ.alike A.2.1) A.2.2 hin hv (g := mkF _ pc ls (.int j :: .ref a :: st)) rfl rfl (hb hby hd) t k) k
theorem Wk.baloadZ {a : Addr} {c0 : Cell} {j : Int32} {v : Value} (A : Arr Z h a c0 .boolean) (hin : ¬ (j < 0 ∨ c0.slots.size ≤ j.toNatClampNeg)) (hv : c0.slots[j.toNatClampNeg]? = some v) (hd : decode bytes pc = .ok (.baload, 1)) (hq : pc + 1 = q) (k : Wk l Z n0 own nm bytes maxL ret R kc ks Q h cl sl q ls (v :: st)) : Wk l Z n0 own nm bytes maxL ret R kc ks Q h cl sl pc ls (.int j :: .ref a :: st) := by
  subst hq; exact Wk.step (fun hx hby _ hZ X eT t k => X.baloadBooleans hx (by rw [eT]; exact A.1) (State.isArrayOf_alike hZ.alike A.2.1) A.2.2 hin hv (g := mkF _ pc ls (.int j :: .ref a :: st)) rfl rfl (hb hby hd) t k) k
theorem Wk.retG {w : Value} {t : FieldType} {i : Instr} (hret : ret = some t) (hn : narrow t w = w)
    (hi : (i = .ireturn ∧ (t = .int ∨ t = .boolean ∨ t = .byte ∨ t = .char ∨ t = .short) ∧ ∃ z, w = .int z) ∨ (i = .lreturn ∧ t = .long ∧ ∃ z, w = .long z) ∨ (i = .dreturn ∧ t = .double ∧ ∃ z, w = .double z) ∨ (i = .freturn ∧ t = .float ∧ ∃ z, w = .float z) ∨ (i = .areturn ∧ t.isReference = true ∧ w.isRef = true))
    (hd : decode bytes pc = .ok (i, 1)) (hc : cl ≤ kc) (hs : sl ≤ ks) (hQ : Q (some w) h) : Wk l Z n0 own nm bytes maxL ret R kc ks Q h cl sl pc ls (w :: st) := by
  intro p e s m args below meth c T locs hx hby hml hown hnm hr hlk hZ X eT N
  obtain ⟨fs, hr', hrun, hended, hW, hsame⟩ := X.leave (v := some w) (fun q => by rw [hr, hret] at q; cases q) hlk
  exact ⟨_, _, RoadKit.retOut X hx (hr.trans hret) hn hi (hb hby hd) hr', hrun, hended, _, _, rfl, ⟨N, by show Q _ T.heap; rw [eT]; exact hQ⟩, ⟨_, rfl⟩, hW, hsame.mono hc hs⟩
theorem Wk.retI {z : Int32} (hret : ret = some .int) (hd : decode bytes pc = .ok (.ireturn, 1)) (hc : cl ≤ kc) (hs : sl ≤ ks) (hQ : Q (some (.int z)) h) : Wk l Z n0 own nm bytes maxL ret R kc ks Q h cl sl pc ls (.int z :: st) :=
  Wk.retG hret rfl (Or.inl ⟨rfl, Or.inl rfl, z, rfl⟩) hd hc hs hQ
theorem Wk.retZ {z : Int32} (hret : ret = some .boolean) (hz : narrow .boolean (.int z) = .int z) (hd : decode bytes pc = .ok (.ireturn, 1)) (hc : cl ≤ kc) (hs : sl ≤ ks) (hQ : Q (some (.int z)) h) : Wk l Z n0 own nm bytes maxL ret R kc ks Q h cl sl pc ls (.int z :: st) :=
  Wk.retG hret hz (Or.inl ⟨rfl, Or.inr (Or.inl rfl), z, rfl⟩) hd hc hs hQ
theorem Wk.retB {z : Int32} (hret : ret = some .byte) (hz : narrow .byte (.int z) = .int z) (hd : decode bytes pc = .ok (.ireturn, 1)) (hc : cl ≤ kc) (hs : sl ≤ ks) (hQ : Q (some (.int z)) h) : Wk l Z n0 own nm bytes maxL ret R kc ks Q h cl sl pc ls (.int z :: st) :=
  Wk.retG hret hz (Or.inl ⟨rfl, Or.inr (Or.inr (Or.inl rfl)), z, rfl⟩) hd hc hs hQ
theorem Wk.retL {z : Int64} (hret : ret = some .long) (hd : decode bytes pc = .ok (.lreturn, 1)) (hc : cl ≤ kc) (hs : sl ≤ ks) (hQ : Q (some (.long z)) h) : Wk l Z n0 own nm bytes maxL ret R kc ks Q h cl sl pc ls (.long z :: st) :=
  Wk.retG hret rfl (Or.inr (Or.inl ⟨rfl, rfl, z, rfl⟩)) hd hc hs hQ
theorem own_narR {t : FieldType} {w : Value} (h1 : t.isReference = true) (h2 : w.isRef = true) : narrow t w = w := by
  cases t <;> cases w <;> first | rfl | (simp [FieldType.isReference] at h1; done) | (simp [Value.isRef] at h2; done)
theorem Wk.retA {w : Value} {t : FieldType} (hret : ret = some t) (ht : t.isReference = true) (hw : w.isRef = true) (hd : decode bytes pc = .ok (.areturn, 1)) (hc : cl ≤ kc) (hs : sl ≤ ks) (hQ : Q (some w) h) : Wk l Z n0 own nm bytes maxL ret R kc ks Q h cl sl pc ls (w :: st) :=
  Wk.retG hret (own_narR ht hw) (Or.inr (Or.inr (Or.inr (Or.inr ⟨rfl, ht, hw⟩)))) hd hc hs hQ
theorem Wk.retV (hret : ret = none) (hd : decode bytes pc = .ok (.return_, 1)) (hc : cl ≤ kc) (hs : sl ≤ ks) (hQ : Q none h) : Wk l Z n0 own nm bytes maxL ret R kc ks Q h cl sl pc ls [] := by
  intro p e s m args below meth c T locs hx hby hml hown hnm hr hlk hZ X eT N
  obtain ⟨fs, hr', hrun, hended, hW, hsame⟩ := X.leave (v := none) (fun _ => rfl) hlk
  exact ⟨_, _, X.returnOut hx (hr.trans hret) (hb hby hd) hr', hrun, hended, _, _, rfl, ⟨N, by show Q _ T.heap; rw [eT]; exact hQ⟩, ⟨_, rfl⟩, hW, hsame.mono hc hs⟩
theorem Wk.callS {i : Nat} {y : MethodName} {by' : ByteArray} {mL : Nat} {rt : Option FieldType} {rm : Room} {argsL rest : List Value} {Q' : Value → Heap → Prop} {ps : List FieldType} {r' : Option FieldType}
    (hM : Met l Z n0 y by' mL rt rm argsL.toArray h (fun v h' => ∃ w, v = some w ∧ Q' w h'))
    (w1 : (Jvm.Cond.methodLink own i y).before a0 Z = true) (w2 : (Jvm.Cond.static y).before a0 Z = true) (w3 : (Jvm.Cond.initialized y.cls).before a0 Z = true) (w4 : (Jvm.Cond.code y by' mL rt).before a0 Z = true) (hy : y.cls ≠ "java/lang/invoke/MethodHandle" ∧ y.cls ≠ "java/lang/invoke/VarHandle")
    (hds : parseMethodDescriptor y.desc = some ⟨ps, r'⟩) (hln : argsL.length = ps.length) (hst : st = argsL.reverse ++ rest) (hls : ls.size = maxL) (hd : decode bytes pc = .ok (.invokestatic i, 3)) (hq : pc + 3 = q)
    {W : Nat} (hW : (rest.map fun v => v.category).sum = W) (hf : rm.frames + 1 ≤ R.frames) (hlo : W + (mL + 11) + rm.locals ≤ R.locals) (hce : cl + rm.cells ≤ R.cells) (hsl : sl + rm.slots ≤ R.slots)
    (k : ∀ w h', Q' w h' → Wk l Z n0 own nm bytes maxL ret R kc ks Q h' (cl + rm.cells) (sl + rm.slots) q ls (w :: rest)) : Wk l Z n0 own nm bytes maxL ret R kc ks Q h cl sl pc ls st := by
  subst hq hst hW
  intro p e s m args below meth c T locs hx hby hml hown hnm hr hlk hZ X eT N
  obtain ⟨v, _, ⟨T', L', k', n'⟩, -, X', ⟨Lc, ⟨N', hQ⟩, l', y', z'⟩, stp⟩ := Jvm.LawKit.callS X hx (y := y) hown (mvT hZ w1) (mvT hZ w2) (mvT hZ w3) (mvT hZ w4) hy (backOf (W := (rest.map fun v => v.category).sum) (Q := fun v h' L => Fr n0 L ∧ (fun v h' => ∃ w, v = some w ∧ Q' w h') v h') (hM []) hZ w4 w3 hf hlo) (g := mkF m pc ls (argsL.reverse ++ rest)) rfl (by rw [hml]; exact hls) (argsL := argsL) (rest := rest) (lenOf hds hln) rfl (by show 2 * 0 + _ ≤ _; omega) (hb hby hd) (fun _ _ => ⟨rfl, eT, hce, hsl⟩)
  dsimp only [Pt.U, Pt.locs, Pt.cells, Pt.slots] at X' l' y' z' stp hQ
  subst l' y' z'
  obtain ⟨w, rfl, hQ⟩ := hQ
  obtain ⟨s₂, o, h1, r⟩ := k w T'.heap hQ p e s m args below meth c T' _ hx hby hml hown hnm hr hlk hZ X' rfl (Fr.app N N')
  exact ⟨s₂, o, stp _ h1, r⟩
theorem Wk.callS1 {i : Nat} {y : MethodName} {by' : ByteArray} {mL : Nat} {rt : Option FieldType} {fr lo : Nat} {argsL rest : List Value} {v0 : Value} {ps : List FieldType} {r' : Option FieldType}
    (hM : Met l Z n0 y by' mL rt ⟨fr, 0, 0, lo⟩ argsL.toArray h (fun v h' => v = some v0 ∧ h' = h))
    (w1 : (Jvm.Cond.methodLink own i y).before a0 Z = true) (w2 : (Jvm.Cond.static y).before a0 Z = true) (w3 : (Jvm.Cond.initialized y.cls).before a0 Z = true) (w4 : (Jvm.Cond.code y by' mL rt).before a0 Z = true) (hy : y.cls ≠ "java/lang/invoke/MethodHandle" ∧ y.cls ≠ "java/lang/invoke/VarHandle")
    (hds : parseMethodDescriptor y.desc = some ⟨ps, r'⟩) (hln : argsL.length = ps.length) (hst : st = argsL.reverse ++ rest) (hls : ls.size = maxL) (hd : decode bytes pc = .ok (.invokestatic i, 3)) (hq : pc + 3 = q)
    {W : Nat} (hW : (rest.map fun v => v.category).sum = W) (hf : fr + 1 ≤ R.frames) (hlo : W + (mL + 11) + lo ≤ R.locals) (hce : cl ≤ R.cells) (hsl : sl ≤ R.slots)
    (k : Wk l Z n0 own nm bytes maxL ret R kc ks Q h cl sl q ls (v0 :: rest)) : Wk l Z n0 own nm bytes maxL ret R kc ks Q h cl sl pc ls st :=
  Wk.callS (Q' := fun w h' => w = v0 ∧ h' = h) (rm := ⟨fr, 0, 0, lo⟩) (hM.mono fun v h' z => ⟨v0, z.1, rfl, z.2⟩) w1 w2 w3 w4 hy hds hln hst hls hd hq hW hf hlo hce hsl (fun w h' z => by obtain ⟨rfl, rfl⟩ := z; exact k)
theorem Wk.callS0 {i : Nat} {y : MethodName} {by' : ByteArray} {mL : Nat} {rt : Option FieldType} {rm : Room} {argsL rest : List Value} {Q' : Heap → Prop} {ps : List FieldType} {r' : Option FieldType}
    (hM : Met l Z n0 y by' mL rt rm argsL.toArray h (fun v h' => v = none ∧ Q' h'))
    (w1 : (Jvm.Cond.methodLink own i y).before a0 Z = true) (w2 : (Jvm.Cond.static y).before a0 Z = true) (w3 : (Jvm.Cond.initialized y.cls).before a0 Z = true) (w4 : (Jvm.Cond.code y by' mL rt).before a0 Z = true) (hy : y.cls ≠ "java/lang/invoke/MethodHandle" ∧ y.cls ≠ "java/lang/invoke/VarHandle")
    (hds : parseMethodDescriptor y.desc = some ⟨ps, r'⟩) (hln : argsL.length = ps.length) (hst : st = argsL.reverse ++ rest) (hls : ls.size = maxL) (hd : decode bytes pc = .ok (.invokestatic i, 3)) (hq : pc + 3 = q)
    {W : Nat} (hW : (rest.map fun v => v.category).sum = W) (hf : rm.frames + 1 ≤ R.frames) (hlo : W + (mL + 11) + rm.locals ≤ R.locals) (hce : cl + rm.cells ≤ R.cells) (hsl : sl + rm.slots ≤ R.slots)
    (k : ∀ h', Q' h' → Wk l Z n0 own nm bytes maxL ret R kc ks Q h' (cl + rm.cells) (sl + rm.slots) q ls rest) : Wk l Z n0 own nm bytes maxL ret R kc ks Q h cl sl pc ls st := by
  subst hq hst hW
  intro p e s m args below meth c T locs hx hby hml hown hnm hr hlk hZ X eT N
  obtain ⟨v, _, ⟨T', L', k', n'⟩, -, X', ⟨Lc, ⟨N', hQ⟩, l', y', z'⟩, stp⟩ := Jvm.LawKit.callS X hx (y := y) hown (mvT hZ w1) (mvT hZ w2) (mvT hZ w3) (mvT hZ w4) hy (backOf (W := (rest.map fun v => v.category).sum) (Q := fun v h' L => Fr n0 L ∧ (fun v h' => v = none ∧ Q' h') v h') (hM []) hZ w4 w3 hf hlo) (g := mkF m pc ls (argsL.reverse ++ rest)) rfl (by rw [hml]; exact hls) (argsL := argsL) (rest := rest) (lenOf hds hln) rfl (by show 2 * 0 + _ ≤ _; omega) (hb hby hd) (fun _ _ => ⟨rfl, eT, hce, hsl⟩)
  dsimp only [Pt.U, Pt.locs, Pt.cells, Pt.slots] at X' l' y' z' stp hQ
  subst l' y' z'
  obtain ⟨rfl, hQ⟩ := hQ
  obtain ⟨s₂, o, h1, r⟩ := k T'.heap hQ p e s m args below meth c T' _ hx hby hml hown hnm hr hlk hZ X' rfl (Fr.app N N')
  exact ⟨s₂, o, stp _ h1, r⟩
theorem Wk.callV {i : Nat} {C : String} {y : MethodName} {by' : ByteArray} {mL : Nat} {rt : Option FieldType} {rm : Room} {a : Addr} {argsL rest : List Value} {Q' : Value → Heap → Prop} {ps : List FieldType} {r' : Option FieldType}
    (hM : Met l Z n0 y by' mL rt rm (.ref a :: argsL).toArray h (fun v h' => ∃ w, v = some w ∧ Q' w h')) (E : Exa Z h a C)
    (w1 : (Jvm.Cond.methodLink own i y).before a0 Z = true) (w2 : (Jvm.Cond.declares y).before a0 Z = true) (w3 : (Jvm.Cond.selects C y y).before a0 Z = true) (w4 : (Jvm.Cond.instanceMethod y).before a0 Z = true) (w5 : (Jvm.Cond.code y by' mL rt).before a0 Z = true) (w6 : (Jvm.Cond.initialized y.cls).before a0 Z = true) (hy : y.cls ≠ "java/lang/invoke/MethodHandle" ∧ y.cls ≠ "java/lang/invoke/VarHandle")
    (hds : parseMethodDescriptor y.desc = some ⟨ps, r'⟩) (hln : argsL.length = ps.length) (hst : st = argsL.reverse ++ .ref a :: rest) (hls : ls.size = maxL) (hd : decode bytes pc = .ok (.invokevirtual i, 3)) (hq : pc + 3 = q)
    {W : Nat} (hW : (rest.map fun v => v.category).sum = W) (hf : rm.frames + 1 ≤ R.frames) (hlo : W + (mL + 11) + rm.locals ≤ R.locals) (hce : cl + rm.cells ≤ R.cells) (hsl : sl + rm.slots ≤ R.slots)
    (k : ∀ w h', Q' w h' → Wk l Z n0 own nm bytes maxL ret R kc ks Q h' (cl + rm.cells) (sl + rm.slots) q ls (w :: rest)) : Wk l Z n0 own nm bytes maxL ret R kc ks Q h cl sl pc ls st := by
  subst hq hst hW
  intro p e s m args below meth c T locs hx hby hml hown hnm hr hlk hZ X eT N
  obtain ⟨cq, kq, q1, q2, q3⟩ := isOf hZ eT E
  obtain ⟨v, _, ⟨T', L', k', n'⟩, -, X', ⟨Lc, ⟨N', hQ⟩, l', y', z'⟩, stp⟩ := X.virtualBack hx (y := y) (z := y) hown (mvT hZ w1) (mvT hZ w2) (notFace_of_selects (args := #[]) (mvT hZ w3)) (mvT hZ w3) (mvT hZ w4) hy (backOf (W := (rest.map fun v => v.category).sum) (Q := fun v h' L => Fr n0 L ∧ (fun v h' => ∃ w, v = some w ∧ Q' w h') v h') (hM []) hZ w5 w6 hf hlo) q1 q3 (g := mkF m pc ls (argsL.reverse ++ .ref a :: rest)) rfl (by rw [hml]; exact hls) (Steps.refl _) (argsL := argsL) (rest := rest) (lenOf hds hln) rfl (by show 2 * 0 + _ ≤ _; omega) (hb hby hd) (fun _ _ => ⟨rfl, eT, hce, hsl⟩)
  dsimp only [Pt.U, Pt.locs, Pt.cells, Pt.slots] at X' l' y' z' stp hQ
  subst l' y' z'
  obtain ⟨w, rfl, hQ⟩ := hQ
  obtain ⟨s₂, o, h1, r⟩ := k w T'.heap hQ p e s m args below meth c T' _ hx hby hml hown hnm hr hlk hZ X' rfl (Fr.app N N')
  exact ⟨s₂, o, stp.trans h1, r⟩
theorem Wk.callV1 {i : Nat} {C : String} {y : MethodName} {by' : ByteArray} {mL : Nat} {rt : Option FieldType} {fr lo : Nat} {a : Addr} {argsL rest : List Value} {v0 : Value} {ps : List FieldType} {r' : Option FieldType}
    (hM : Met l Z n0 y by' mL rt ⟨fr, 0, 0, lo⟩ (.ref a :: argsL).toArray h (fun v h' => v = some v0 ∧ h' = h)) (E : Exa Z h a C)
    (w1 : (Jvm.Cond.methodLink own i y).before a0 Z = true) (w2 : (Jvm.Cond.declares y).before a0 Z = true) (w3 : (Jvm.Cond.selects C y y).before a0 Z = true) (w4 : (Jvm.Cond.instanceMethod y).before a0 Z = true) (w5 : (Jvm.Cond.code y by' mL rt).before a0 Z = true) (w6 : (Jvm.Cond.initialized y.cls).before a0 Z = true) (hy : y.cls ≠ "java/lang/invoke/MethodHandle" ∧ y.cls ≠ "java/lang/invoke/VarHandle")
    (hds : parseMethodDescriptor y.desc = some ⟨ps, r'⟩) (hln : argsL.length = ps.length) (hst : st = argsL.reverse ++ .ref a :: rest) (hls : ls.size = maxL) (hd : decode bytes pc = .ok (.invokevirtual i, 3)) (hq : pc + 3 = q)
    {W : Nat} (hW : (rest.map fun v => v.category).sum = W) (hf : fr + 1 ≤ R.frames) (hlo : W + (mL + 11) + lo ≤ R.locals) (hce : cl ≤ R.cells) (hsl : sl ≤ R.slots)
    (k : Wk l Z n0 own nm bytes maxL ret R kc ks Q h cl sl q ls (v0 :: rest)) : Wk l Z n0 own nm bytes maxL ret R kc ks Q h cl sl pc ls st :=
  Wk.callV (Q' := fun w h' => w = v0 ∧ h' = h) (rm := ⟨fr, 0, 0, lo⟩) (hM.mono fun v h' z => ⟨v0, z.1, rfl, z.2⟩) E w1 w2 w3 w4 w5 w6 hy hds hln hst hls hd hq hW hf hlo hce hsl (fun w h' z => by obtain ⟨rfl, rfl⟩ := z; exact k)
theorem Wk.callV0 {i : Nat} {C : String} {y : MethodName} {by' : ByteArray} {mL : Nat} {rt : Option FieldType} {rm : Room} {a : Addr} {argsL rest : List Value} {Q' : Heap → Prop} {ps : List FieldType} {r' : Option FieldType}
    (hM : Met l Z n0 y by' mL rt rm (.ref a :: argsL).toArray h (fun v h' => v = none ∧ Q' h')) (E : Exa Z h a C)
    (w1 : (Jvm.Cond.methodLink own i y).before a0 Z = true) (w2 : (Jvm.Cond.declares y).before a0 Z = true) (w3 : (Jvm.Cond.selects C y y).before a0 Z = true) (w4 : (Jvm.Cond.instanceMethod y).before a0 Z = true) (w5 : (Jvm.Cond.code y by' mL rt).before a0 Z = true) (w6 : (Jvm.Cond.initialized y.cls).before a0 Z = true) (hy : y.cls ≠ "java/lang/invoke/MethodHandle" ∧ y.cls ≠ "java/lang/invoke/VarHandle")
    (hds : parseMethodDescriptor y.desc = some ⟨ps, r'⟩) (hln : argsL.length = ps.length) (hst : st = argsL.reverse ++ .ref a :: rest) (hls : ls.size = maxL) (hd : decode bytes pc = .ok (.invokevirtual i, 3)) (hq : pc + 3 = q)
    {W : Nat} (hW : (rest.map fun v => v.category).sum = W) (hf : rm.frames + 1 ≤ R.frames) (hlo : W + (mL + 11) + rm.locals ≤ R.locals) (hce : cl + rm.cells ≤ R.cells) (hsl : sl + rm.slots ≤ R.slots)
    (k : ∀ h', Q' h' → Wk l Z n0 own nm bytes maxL ret R kc ks Q h' (cl + rm.cells) (sl + rm.slots) q ls rest) : Wk l Z n0 own nm bytes maxL ret R kc ks Q h cl sl pc ls st := by
  subst hq hst hW
  intro p e s m args below meth c T locs hx hby hml hown hnm hr hlk hZ X eT N
  obtain ⟨cq, kq, q1, q2, q3⟩ := isOf hZ eT E
  obtain ⟨v, _, ⟨T', L', k', n'⟩, -, X', ⟨Lc, ⟨N', hQ⟩, l', y', z'⟩, stp⟩ := X.virtualBack hx (y := y) (z := y) hown (mvT hZ w1) (mvT hZ w2) (notFace_of_selects (args := #[]) (mvT hZ w3)) (mvT hZ w3) (mvT hZ w4) hy (backOf (W := (rest.map fun v => v.category).sum) (Q := fun v h' L => Fr n0 L ∧ (fun v h' => v = none ∧ Q' h') v h') (hM []) hZ w5 w6 hf hlo) q1 q3 (g := mkF m pc ls (argsL.reverse ++ .ref a :: rest)) rfl (by rw [hml]; exact hls) (Steps.refl _) (argsL := argsL) (rest := rest) (lenOf hds hln) rfl (by show 2 * 0 + _ ≤ _; omega) (hb hby hd) (fun _ _ => ⟨rfl, eT, hce, hsl⟩)
  dsimp only [Pt.U, Pt.locs, Pt.cells, Pt.slots] at X' l' y' z' stp hQ
  subst l' y' z'
  obtain ⟨rfl, hQ⟩ := hQ
  obtain ⟨s₂, o, h1, r⟩ := k T'.heap hQ p e s m args below meth c T' _ hx hby hml hown hnm hr hlk hZ X' rfl (Fr.app N N')
  exact ⟨s₂, o, stp.trans h1, r⟩
theorem Wk.callU {i : Nat} {C owner : String} {y z : MethodName} {by' : ByteArray} {mL : Nat} {rt : Option FieldType} {rm : Room} {a : Addr} {argsL rest : List Value} {Q' : Value → Heap → Prop} {ps : List FieldType} {r' : Option FieldType}
    (hM : Met l Z n0 z by' mL rt rm (.ref a :: argsL).toArray h (fun v h' => ∃ w, v = some w ∧ Q' w h')) (E : Exa Z h a C)
    (w1 : (Jvm.Cond.methodLink own i y).before a0 Z = true) (w2 : (Jvm.Cond.sameMethod y.cls owner y.name y.desc).before a0 Z = true) (w3 : (Jvm.Cond.declares ⟨owner, y.name, y.desc⟩).before a0 Z = true) (w4 : (Jvm.Cond.selects C y z).before a0 Z = true) (w5 : (Jvm.Cond.instanceMethod z).before a0 Z = true) (w6 : (Jvm.Cond.code z by' mL rt).before a0 Z = true) (w7 : (Jvm.Cond.initialized z.cls).before a0 Z = true) (hy : owner ≠ "java/lang/invoke/MethodHandle" ∧ owner ≠ "java/lang/invoke/VarHandle")
    (hds : parseMethodDescriptor y.desc = some ⟨ps, r'⟩) (hln : argsL.length = ps.length) (hst : st = argsL.reverse ++ .ref a :: rest) (hls : ls.size = maxL) (hd : decode bytes pc = .ok (.invokevirtual i, 3)) (hq : pc + 3 = q)
    {W : Nat} (hW : (rest.map fun v => v.category).sum = W) (hf : rm.frames + 1 ≤ R.frames) (hlo : W + (mL + 11) + rm.locals ≤ R.locals) (hce : cl + rm.cells ≤ R.cells) (hsl : sl + rm.slots ≤ R.slots)
    (k : ∀ w h', Q' w h' → Wk l Z n0 own nm bytes maxL ret R kc ks Q h' (cl + rm.cells) (sl + rm.slots) q ls (w :: rest)) : Wk l Z n0 own nm bytes maxL ret R kc ks Q h cl sl pc ls st := by
  subst hq hst hW
  intro p e s m args below meth c T locs hx hby hml hown hnm hr hlk hZ X eT N
  obtain ⟨cq, kq, q1, q2, q3⟩ := isOf hZ eT E
  obtain ⟨v, _, ⟨T', L', k', n'⟩, -, X', ⟨Lc, ⟨N', hQ⟩, l', y', z'⟩, stp⟩ := X.virtualBackUp hx (x := y) (y := z) (owner := owner) hown (mvT hZ w1) (mvT hZ w2) (mvT hZ w3) hy (mvT hZ w4) (mvT hZ w5) (backOf (W := (rest.map fun v => v.category).sum) (Q := fun v h' L => Fr n0 L ∧ (fun v h' => ∃ w, v = some w ∧ Q' w h') v h') (hM []) hZ w6 w7 hf hlo) q1 q3 (g := mkF m pc ls (argsL.reverse ++ .ref a :: rest)) rfl (by rw [hml]; exact hls) (Steps.refl _) (argsL := argsL) (rest := rest) (lenOf hds hln) rfl (by show 2 * 0 + _ ≤ _; omega) (hb hby hd) (fun _ _ => ⟨rfl, eT, hce, hsl⟩)
  dsimp only [Pt.U, Pt.locs, Pt.cells, Pt.slots] at X' l' y' z' stp hQ
  subst l' y' z'
  obtain ⟨w, rfl, hQ⟩ := hQ
  obtain ⟨s₂, o, h1, r⟩ := k w T'.heap hQ p e s m args below meth c T' _ hx hby hml hown hnm hr hlk hZ X' rfl (Fr.app N N')
  exact ⟨s₂, o, stp.trans h1, r⟩
theorem Wk.callU1 {i : Nat} {C owner : String} {y z : MethodName} {by' : ByteArray} {mL : Nat} {rt : Option FieldType} {fr lo : Nat} {a : Addr} {argsL rest : List Value} {v0 : Value} {ps : List FieldType} {r' : Option FieldType}
    (hM : Met l Z n0 z by' mL rt ⟨fr, 0, 0, lo⟩ (.ref a :: argsL).toArray h (fun v h' => v = some v0 ∧ h' = h)) (E : Exa Z h a C)
    (w1 : (Jvm.Cond.methodLink own i y).before a0 Z = true) (w2 : (Jvm.Cond.sameMethod y.cls owner y.name y.desc).before a0 Z = true) (w3 : (Jvm.Cond.declares ⟨owner, y.name, y.desc⟩).before a0 Z = true) (w4 : (Jvm.Cond.selects C y z).before a0 Z = true) (w5 : (Jvm.Cond.instanceMethod z).before a0 Z = true) (w6 : (Jvm.Cond.code z by' mL rt).before a0 Z = true) (w7 : (Jvm.Cond.initialized z.cls).before a0 Z = true) (hy : owner ≠ "java/lang/invoke/MethodHandle" ∧ owner ≠ "java/lang/invoke/VarHandle")
    (hds : parseMethodDescriptor y.desc = some ⟨ps, r'⟩) (hln : argsL.length = ps.length) (hst : st = argsL.reverse ++ .ref a :: rest) (hls : ls.size = maxL) (hd : decode bytes pc = .ok (.invokevirtual i, 3)) (hq : pc + 3 = q)
    {W : Nat} (hW : (rest.map fun v => v.category).sum = W) (hf : fr + 1 ≤ R.frames) (hlo : W + (mL + 11) + lo ≤ R.locals) (hce : cl ≤ R.cells) (hsl : sl ≤ R.slots)
    (k : Wk l Z n0 own nm bytes maxL ret R kc ks Q h cl sl q ls (v0 :: rest)) : Wk l Z n0 own nm bytes maxL ret R kc ks Q h cl sl pc ls st :=
  Wk.callU (Q' := fun w h' => w = v0 ∧ h' = h) (rm := ⟨fr, 0, 0, lo⟩) (hM.mono fun v h' z => ⟨v0, z.1, rfl, z.2⟩) E w1 w2 w3 w4 w5 w6 w7 hy hds hln hst hls hd hq hW hf hlo hce hsl (fun w h' z => by obtain ⟨rfl, rfl⟩ := z; exact k)
theorem Wk.callS2 {i : Nat} {y : MethodName} {by' : ByteArray} {mL : Nat} {rt : Option FieldType} {fr lo : Nat} {argsL rest : List Value} {P : Value → Prop} {ps : List FieldType} {r' : Option FieldType}
    (hM : Met l Z n0 y by' mL rt ⟨fr, 0, 0, lo⟩ argsL.toArray h (fun v h' => (∃ w, v = some w ∧ P w) ∧ h' = h))
    (w1 : (Jvm.Cond.methodLink own i y).before a0 Z = true) (w2 : (Jvm.Cond.static y).before a0 Z = true) (w3 : (Jvm.Cond.initialized y.cls).before a0 Z = true) (w4 : (Jvm.Cond.code y by' mL rt).before a0 Z = true) (hy : y.cls ≠ "java/lang/invoke/MethodHandle" ∧ y.cls ≠ "java/lang/invoke/VarHandle")
    (hds : parseMethodDescriptor y.desc = some ⟨ps, r'⟩) (hln : argsL.length = ps.length) (hst : st = argsL.reverse ++ rest) (hls : ls.size = maxL) (hd : decode bytes pc = .ok (.invokestatic i, 3)) (hq : pc + 3 = q)
    {W : Nat} (hW : (rest.map fun v => v.category).sum = W) (hf : fr + 1 ≤ R.frames) (hlo : W + (mL + 11) + lo ≤ R.locals) (hce : cl ≤ R.cells) (hsl : sl ≤ R.slots)
    (k : ∀ w, P w → Wk l Z n0 own nm bytes maxL ret R kc ks Q h cl sl q ls (w :: rest)) : Wk l Z n0 own nm bytes maxL ret R kc ks Q h cl sl pc ls st :=
  Wk.callS (Q' := fun w h' => P w ∧ h' = h) (rm := ⟨fr, 0, 0, lo⟩) (hM.mono fun v h' z => by obtain ⟨⟨w, e, p⟩, q⟩ := z; exact ⟨w, e, p, q⟩) w1 w2 w3 w4 hy hds hln hst hls hd hq hW hf hlo hce hsl (fun w h' z => by obtain ⟨z1, rfl⟩ := z; exact k w z1)
theorem Wk.callV2 {i : Nat} {C : String} {y : MethodName} {a : Addr} {by' : ByteArray} {mL : Nat} {rt : Option FieldType} {fr lo : Nat} {argsL rest : List Value} {P : Value → Prop} {ps : List FieldType} {r' : Option FieldType}
    (hM : Met l Z n0 y by' mL rt ⟨fr, 0, 0, lo⟩ (.ref a :: argsL).toArray h (fun v h' => (∃ w, v = some w ∧ P w) ∧ h' = h)) (E : Exa Z h a C)
    (w1 : (Jvm.Cond.methodLink own i y).before a0 Z = true) (w2 : (Jvm.Cond.declares y).before a0 Z = true) (w3 : (Jvm.Cond.selects C y y).before a0 Z = true) (w4 : (Jvm.Cond.instanceMethod y).before a0 Z = true) (w5 : (Jvm.Cond.code y by' mL rt).before a0 Z = true) (w6 : (Jvm.Cond.initialized y.cls).before a0 Z = true) (hy : y.cls ≠ "java/lang/invoke/MethodHandle" ∧ y.cls ≠ "java/lang/invoke/VarHandle")
    (hds : parseMethodDescriptor y.desc = some ⟨ps, r'⟩) (hln : argsL.length = ps.length) (hst : st = argsL.reverse ++ .ref a :: rest) (hls : ls.size = maxL) (hd : decode bytes pc = .ok (.invokevirtual i, 3)) (hq : pc + 3 = q)
    {W : Nat} (hW : (rest.map fun v => v.category).sum = W) (hf : fr + 1 ≤ R.frames) (hlo : W + (mL + 11) + lo ≤ R.locals) (hce : cl ≤ R.cells) (hsl : sl ≤ R.slots)
    (k : ∀ w, P w → Wk l Z n0 own nm bytes maxL ret R kc ks Q h cl sl q ls (w :: rest)) : Wk l Z n0 own nm bytes maxL ret R kc ks Q h cl sl pc ls st :=
  Wk.callV (Q' := fun w h' => P w ∧ h' = h) (rm := ⟨fr, 0, 0, lo⟩) (hM.mono fun v h' z => by obtain ⟨⟨w, e, p⟩, q⟩ := z; exact ⟨w, e, p, q⟩) E w1 w2 w3 w4 w5 w6 hy hds hln hst hls hd hq hW hf hlo hce hsl (fun w h' z => by obtain ⟨z1, rfl⟩ := z; exact k w z1)
/-! the case's words -/
theorem own_exa {args : Array Value} {C n d K : String} (hx : (Jvm.Cond.exactly (.static C n d) K).value args Z none Z [] = some true) (wi : (Jvm.Cond.initialized C).before args Z = true) (wl : (Jvm.Cond.laysStatic C n d).before args Z = true) :
    ∃ a, (Term.static C n d).eval args Z none [] Z = some (.ref a) ∧ Sta Z Z.heap C n d (.ref a) ∧ Exa Z Z.heap a K := by
  obtain ⟨a, ev⟩ := exa_v hx
  exact ⟨a, ev, Sta.start ev (Or.inr ⟨wi, wl⟩), Exa.start ev hx⟩
theorem own_arr {args : Array Value} {C n d : String} {ty : FieldType} (hx : (Jvm.Cond.arrayOf (.static C n d) ty).value args Z none Z [] = some true) (wi : (Jvm.Cond.initialized C).before args Z = true) (wl : (Jvm.Cond.laysStatic C n d).before args Z = true) :
    ∃ a c, (Term.static C n d).eval args Z none [] Z = some (.ref a) ∧ Sta Z Z.heap C n d (.ref a) ∧ Arr Z Z.heap a c ty := by
  obtain ⟨a, ev⟩ := arr_v hx
  obtain ⟨c, A⟩ := Arr.start ev hx
  exact ⟨a, c, ev, Sta.start ev (Or.inr ⟨wi, wl⟩), A⟩
theorem own_eqi {args : Array Value} {t u : Term} {y : Int32} {idx : List Nat} (h : (Jvm.Cond.eq t u).value args Z none Z idx = some true) (hu : u.eval args Z none idx Z = some (.int y)) : t.eval args Z none idx Z = some (.int y) := by
  obtain ⟨x, y', h1, h2, k1, k2⟩ := cmp_v (Or.inl h)
  cases hu.symm.trans h2
  obtain ⟨z, rfl⟩ := k2
  have e : z = y := by simpa [Cond.value, h1, hu] using h
  rw [h1, e]
theorem own_eqr {args : Array Value} {t u : Term} {y : Addr} {idx : List Nat} (h : (Jvm.Cond.eq t u).value args Z none Z idx = some true) (hu : u.eval args Z none idx Z = some (.ref y)) : t.eval args Z none idx Z = some (.ref y) := by
  obtain ⟨x, y', h1, h2, k1, k2⟩ := cmp_v (Or.inl h)
  cases hu.symm.trans h2
  have e := gotT (eq_R h1 hu k2.2 rfl) h
  rw [h1, e]
theorem own_fld {args : Array Value} {t : Term} {O f d : String} {a : Addr} {v : Value} (ev : t.eval args Z none [] Z = some (.ref a)) (e : (Term.field t O f d).eval args Z none [] Z = some v) : Fld Z Z.heap a O f d v :=
  Fld.start ((fld_at ev).symm.trans e)
theorem own_len {args : Array Value} {t : Term} {a : Addr} {c : Cell} {ty : FieldType} {n : Int32} {k : Nat} (ev : t.eval args Z none [] Z = some (.ref a)) (A : Arr Z Z.heap a c ty) (e : (Term.length t).eval args Z none [] Z = some (.int n)) (hk : n.toInt = (k : Int)) : c.slots.size = k := by
  have hA : Z.arrayAt? a = some c := A.fin (Vm.Alike.refl _)
  have hs : c.slots.size < 2 ^ 31 := by
    by_cases q : c.slots.size < 2 ^ 31
    · exact q
    · simp [Term.eval, ev, hA, q] at e
  have e2 := (len_f ev hA hs).symm.trans e
  have e3 : c.slots.size.toInt32 = n := by injection e2 with e2; injection e2
  have e4 := len_toInt hs
  rw [e3, hk] at e4
  exact (Int.ofNat.inj e4).symm
theorem own_elem {args : Array Value} {t : Term} {a : Addr} {c : Cell} {ty : FieldType} {i : Int32} {v : Value} {idx : List Nat} (ev : t.eval args Z none idx Z = some (.ref a)) (A : Arr Z Z.heap a c ty) (e : (Term.elem t (.int i)).eval args Z none idx Z = some v) : c.slots[i.toNatClampNeg]? = some v :=
  (elem_in e ev (Term.int_eval i) A.1).2
theorem own_all {args : Array Value} {C n d : String} {c : Jvm.Cond} {a : Addr} {cl : Cell} {ty : FieldType} (ev : (Term.static C n d).eval args Z none [] Z = some (.ref a)) (A : Arr Z Z.heap a cl ty) (h : (Jvm.Cond.all (.static C n d) c).value args Z none Z [] = some true) (k : Nat) (hk : k < cl.slots.size) : c.value args Z none Z [k] = some true :=
  Cond.all_elim ev (A.fin (Vm.Alike.refl _)) h k hk
theorem own_tk {args : Array Value} {C n d : String} {a : Addr} {cl : Cell} {ty : FieldType} {v : Int32} {k : Nat} (ev : (Term.static C n d).eval args Z none [] Z = some (.ref a)) (A : Arr Z Z.heap a cl ty) (hk : k < 256) (h : (Jvm.Cond.eq (.elem (.static C n d) (.index 0)) (.int v)).value args Z none Z [k] = some true) : cl.slots[k]? = some (.int v) := by
  have ev' : (Term.static C n d).eval args Z none [k] Z = some (.ref a) := ev
  have e := (elem_in (own_eqi h (Term.int_eval v)) ev' (Term.index_eval k) A.1).2
  have q : k.toInt32.toNatClampNeg = k := by simp only [Int32.toNatClampNeg, len_toInt (show k < 2 ^ 31 by omega)]; rfl
  rwa [q] at e
theorem own_or {args : Array Value} {G X : Jvm.Cond} {P : Prop} [Decidable P] {idx : List Nat} (h : (Jvm.Cond.or G X).value args Z none Z idx = some true) (hG : G.value args Z none Z idx = some (decide P)) (np : ¬ P) : X.value args Z none Z idx = some true := by
  rwa [Cond.or_of_right (by rw [hG]; simp [np])] at h
theorem own_kle {a : Int32} {k m : Nat} (ha : a.toInt = (m : Int)) (hk : k < 256) : a ≤ k.toInt32 ↔ m ≤ k := by
  rw [Int32.le_iff_toInt_le, ha, len_toInt (show k < 2 ^ 31 by omega)]; omega
theorem own_klt {a : Int32} {k m : Nat} (ha : a.toInt = (m : Int)) (hk : k < 256) : k.toInt32 < a ↔ k < m := by
  rw [Int32.lt_iff_toInt_lt, ha, len_toInt (show k < 2 ^ 31 by omega)]; omega
theorem own_neR {a b : Addr} (h : a ≠ b) : ¬ (Value.ref a) = (Value.ref b) := fun e => h (Value.ref.inj e)
theorem own_neN {a : Addr} : ¬ (Value.ref a) = Value.null := fun e => nomatch e
theorem own_nNe {a : Addr} : ¬ Value.null = (Value.ref a) := fun e => nomatch e
/-- (x & 0x7fffffff) % n lies from 0 to n - 1 -/
theorem own_mod (x n : Int32) (hn : 0 < n.toInt) : 0 ≤ ((x &&& 2147483647) % n).toInt ∧ ((x &&& 2147483647) % n).toInt < n.toInt := by
  have h1 := c_and x 2147483647 (by decide)
  rw [Int32.toInt_mod]
  have h2 := Int.tmod_nonneg n.toInt h1.1
  have h3 := Int.tmod_lt_of_pos (x &&& 2147483647).toInt hn
  exact ⟨h2, h3⟩
theorem own_cl_lt (x y : Int64) : XT.cmpL x y < 0 ↔ x < y := by unfold XT.cmpL; split <;> (try split) <;> simp_all [Int64.lt_iff_toInt_lt, ← Int64.toInt_inj] <;> omega
theorem own_cl_gt (x y : Int64) : 0 < XT.cmpL x y ↔ y < x := by unfold XT.cmpL; split <;> (try split) <;> simp_all [Int64.lt_iff_toInt_lt, ← Int64.toInt_inj] <;> omega
theorem own_cl_eq (x y : Int64) : XT.cmpL x y = 0 ↔ x = y := by unfold XT.cmpL; split <;> (try split) <;> simp_all [Int64.lt_iff_toInt_lt, ← Int64.toInt_inj] <;> omega
theorem own_i32 {x y : Int32} (e : x.toInt = y.toInt) : x = y := Int32.toInt_inj.mp e
end Own
section Own2
variable {l : Launch} {Z : State} {a0 : Array Value} {n0 : Nat} {own nm : String} {bytes : ByteArray} {maxL : Nat} {ret : Option FieldType} {R : Room} {kc ks : Nat} {Q : Option Value → Heap → Prop} {h : Heap} {cl sl pc q : Nat} {ls ls' : Array Slot} {st st' rest : List Value}
theorem own_hit {h' : Heap} {a : Addr} {sl n j : Nat} {v : Value} {c : Cell} (W : Wr h h' a sl v) (S : c.slots.size = n) (hj : sl = j) (hl : j < n) : (c.setSlot sl v).slots[j]? = some v := by
  subst hj S; simp [Cell.setSlot, hl]
theorem own_miss {h' : Heap} {a : Addr} {sl j : Nat} {v w : Value} {c : Cell} (W : Wr h h' a sl v) (hj : sl ≠ j) (e : c.slots[j]? = some w) : (c.setSlot sl v).slots[j]? = some w := by
  rw [← e]; exact Array.getElem?_setIfInBounds_ne hj
theorem own_szs {h' : Heap} {a : Addr} {sl n : Nat} {v : Value} {c : Cell} (W : Wr h h' a sl v) (S : c.slots.size = n) : (c.setSlot sl v).slots.size = n := (sz_set _ _ _).trans S
theorem own_ge (O : Old Z n0 h) : n0 ≤ h.size := by have := O.1; have := O.2.1; omega
theorem Wk.new {i n : Nat} {C : String} (w : (Jvm.Cond.classLink own i C).before a0 Z = true) (wi : (Jvm.Cond.instantiable C n).before a0 Z = true) (wz : (Jvm.Cond.initialized C).before a0 Z = true) (hd : decode bytes pc = .ok (.new i, 3)) (hq : pc + 3 = q) (hc : cl + 1 ≤ R.cells) (hl : sl + n ≤ R.slots)
    (k : ∀ h' a, a = h.size → Ext h h' → Exa Z h' a C → (∀ {O f d : String} {ty : FieldType}, Laid Z a0 C O f d → parseFieldDescriptor d = some ty → Fld Z h' a O f d (defaultValue ty)) → Wk l Z n0 own nm bytes maxL ret R kc ks Q h' (cl + 1) (sl + n) q ls (.ref a :: st)) : Wk l Z n0 own nm bytes maxL ret R kc ks Q h cl sl pc ls st := by
  subst hq
  intro p e s m args below meth c T locs hx hby hml hown hnm hr hlk hZ X eT N
  obtain ⟨T', h', X', e', E, A, D, -, stp⟩ := newO X hx hZ hown w wi wz eT (g := mkF m pc ls st) rfl (hb hby hd) hc hl
  obtain ⟨s₂, o, h1, r⟩ := k h' _ rfl E A D p e s m args below meth c T' _ hx hby hml hown hnm hr hlk hZ X' e' N
  exact ⟨s₂, o, stp _ h1, r⟩
theorem Wk.putF {O f d C R0 : String} {i kk : Nat} {ty : FieldType} {a : Addr} {v old : Value} (w : (Jvm.Cond.fieldLink own i R0 f d).before a0 Z = true) (via : Via Z R0 O f d) (F : Fld Z h a O f d old) (E : Exa Z h a C) (L : (Jvm.Cond.lays C O f d).before a0 Z = true ∨ ((Jvm.Cond.laysFinal C O f d).before a0 Z = true ∧ own = O ∧ nm = "<init>")) (wi : (Jvm.Cond.instantiable C kk).before a0 Z = true)
    (hty : parseFieldDescriptor d = some ty) (hn : narrow ty v = v) (hf : fits ty v = true) (hd : decode bytes pc = .ok (.putfield i, 3)) (hq : pc + 3 = q) (ha : n0 ≤ a)
    (k : ∀ h', Wr h h' a (RoadKit.slotOf Z O f d) v → Wk l Z n0 own nm bytes maxL ret R kc ks Q h' cl sl q ls st) : Wk l Z n0 own nm bytes maxL ret R kc ks Q h cl sl pc ls (v :: .ref a :: st) := by
  subst hq
  intro p e s m args below meth c T locs hx hby hml hown hnm hr hlk hZ X eT N
  obtain ⟨T', h', X', e', W', stp⟩ := RoadKit.putF X hx hZ hown (host := "") (Or.inl w) via eT F E (L.imp id fun z => ⟨z.1, z.2.1, hnm.trans z.2.2⟩) wi hty hn hf (g := mkF m pc ls (v :: .ref a :: st)) rfl rfl (hb hby hd)
  obtain ⟨s₂, o, h1, r⟩ := k h' W' p e s m args below meth c T' _ hx hby hml hown hnm hr hlk hZ X' e' (Fr.snoc X' N ha)
  exact ⟨s₂, o, stp _ h1, r⟩
theorem Wk.initO {i : Nat} {a : Addr} {W : Nat} (w1 : (Jvm.Cond.methodLink own i Lib.objectInit).before a0 Z = true) (w2 : (Jvm.Cond.instanceMethod Lib.objectInit).before a0 Z = true) (w3 : (Jvm.Cond.code Lib.objectInit ⟨#[0xb1]⟩ 1 none).before a0 Z = true) (hd : decode bytes pc = .ok (.invokespecial i, 3)) (hq : pc + 3 = q) (hls : ls.size = maxL) (hf : 1 ≤ R.frames) (hW : (st.map fun v => v.category).sum = W) (hl : W + 12 ≤ R.locals)
    (k : Wk l Z n0 own nm bytes maxL ret R kc ks Q h cl sl q ls st) : Wk l Z n0 own nm bytes maxL ret R kc ks Q h cl sl pc ls (.ref a :: st) := by
  subst hq hW
  intro p e s m args below meth c T locs hx hby hml hown hnm hr hlk hZ X eT N
  obtain ⟨T', X', e', stp⟩ := RoadKit.initO X hx hZ hown w1 w2 w3 eT (g := mkF m pc ls (.ref a :: st)) rfl (by rw [hml]; exact hls) rfl (hb hby hd) hf (W := (st.map fun v => v.category).sum) (by show 2 * 0 + _ ≤ _; omega) hl
  obtain ⟨s₂, o, h1, r⟩ := k p e s m args below meth c T' _ hx hby hml hown hnm hr hlk hZ X' e' N
  exact ⟨s₂, o, stp _ h1, r⟩
theorem Wk.special {i : Nat} {y : MethodName} {by' : ByteArray} {mL : Nat} {rm : Room} {a : Addr} {argsL rest : List Value} {Q' : Heap → Prop} {ps : List FieldType} {r' : Option FieldType}
    (hM : Met l Z n0 y by' mL none rm (.ref a :: argsL).toArray h (fun v h' => v = none ∧ Q' h'))
    (hy1 : y.name = "<init>") (w1 : (Jvm.Cond.methodLink own i y).before a0 Z = true) (w2 : (Jvm.Cond.instanceMethod y).before a0 Z = true) (w3 : (Jvm.Cond.code y by' mL none).before a0 Z = true) (w4 : (Jvm.Cond.initialized y.cls).before a0 Z = true) (hy : y.cls ≠ "java/lang/invoke/MethodHandle" ∧ y.cls ≠ "java/lang/invoke/VarHandle")
    (hds : parseMethodDescriptor y.desc = some ⟨ps, r'⟩) (hln : argsL.length = ps.length) (hst : st = argsL.reverse ++ .ref a :: rest) (hls : ls.size = maxL) (hd : decode bytes pc = .ok (.invokespecial i, 3)) (hq : pc + 3 = q)
    {W : Nat} (hW : (rest.map fun v => v.category).sum = W) (hf : rm.frames + 1 ≤ R.frames) (hlo : W + (mL + 11) + rm.locals ≤ R.locals) (hce : cl + rm.cells ≤ R.cells) (hsl : sl + rm.slots ≤ R.slots)
    (k : ∀ h', Q' h' → Wk l Z n0 own nm bytes maxL ret R kc ks Q h' (cl + rm.cells) (sl + rm.slots) q ls rest) : Wk l Z n0 own nm bytes maxL ret R kc ks Q h cl sl pc ls st := by
  subst hq hst hW
  intro p e s m args below meth c T locs hx hby hml hown hnm hr hlk hZ X eT N
  obtain ⟨v, _, ⟨T', L', k', n'⟩, -, X', ⟨Lc, ⟨N', hQ⟩, l', y', z'⟩, stp⟩ := X.specialBack hx (y := y) hy1 hown (mvT hZ w1) (mvT hZ w2) (mvT hZ w3) hy (backOf (W := (rest.map fun v => v.category).sum) (Q := fun v h' L => Fr n0 L ∧ (fun v h' => v = none ∧ Q' h') v h') (hM []) hZ w3 w4 hf hlo) (g := mkF m pc ls (argsL.reverse ++ .ref a :: rest)) rfl (by rw [hml]; exact hls) (Steps.refl _) (a := a) (argsL := argsL) (rest := rest) (lenOf hds hln) rfl (by show 2 * 0 + _ ≤ _; omega) (hb hby hd) (fun _ _ => ⟨rfl, eT, hce, hsl⟩)
  dsimp only [Pt.U, Pt.locs, Pt.cells, Pt.slots] at X' l' y' z' stp hQ
  subst l' y' z'
  obtain ⟨rfl, hQ⟩ := hQ
  obtain ⟨s₂, o, h1, r⟩ := k T'.heap hQ p e s m args below meth c T' _ hx hby hml hown hnm hr hlk hZ X' rfl (Fr.app N N')
  exact ⟨s₂, o, stp.trans h1, r⟩
theorem Wk.newP {aty : ArrayType} {n : Int32} (w : (Jvm.Cond.arrayClass (newarray.typeOf aty)).before a0 Z = true) (hd : decode bytes pc = .ok (.newarray aty, 2)) (hq : pc + 2 = q) (hn : ¬ n < 0) {cap : Nat} (hcap : n.toNatClampNeg ≤ cap) (hb8 : cap * 8 ≤ 536870912) (hc : cl + 1 ≤ R.cells) (hl : sl + cap ≤ R.slots)
    (k : ∀ h' a cA, a = h.size → Ext h h' → Arr Z h' a (newA cA (newarray.typeOf aty) n) (newarray.typeOf aty) → Wk l Z n0 own nm bytes maxL ret R kc ks Q h' (cl + 1) (sl + cap) q ls (.ref a :: st)) : Wk l Z n0 own nm bytes maxL ret R kc ks Q h cl sl pc ls (.int n :: st) := by
  subst hq
  intro p e s m args below meth c T locs hx hby hml hown hnm hr hlk hZ X eT N
  obtain ⟨T', h', cA, X', e', E, A, stp⟩ := RoadKit.newP X hx hZ w eT (g := mkF m pc ls (.int n :: st)) rfl (hb hby hd) rfl hn hcap hb8 hc hl
  obtain ⟨s₂, o, h1, r⟩ := k h' _ cA rfl E A p e s m args below meth c T' _ hx hby hml hown hnm hr hlk hZ X' e' N
  exact ⟨s₂, o, stp _ h1, r⟩
theorem Wk.newR {i : Nat} {C : String} {n : Int32} (w1 : (Jvm.Cond.classLink own i C).before a0 Z = true) (w2 : (Jvm.Cond.arrayOver (.object C)).before a0 Z = true) (hd : decode bytes pc = .ok (.anewarray i, 3)) (hq : pc + 3 = q) (hn : ¬ n < 0) {cap : Nat} (hcap : n.toNatClampNeg ≤ cap) (hb8 : cap * 8 ≤ 536870912) (hc : cl + 1 ≤ R.cells) (hl : sl + cap ≤ R.slots)
    (k : ∀ h' a cA, a = h.size → Ext h h' → Arr Z h' a (newA cA (.object C) n) (.object C) → Ovr Z cA C → Wk l Z n0 own nm bytes maxL ret R kc ks Q h' (cl + 1) (sl + cap) q ls (.ref a :: st)) : Wk l Z n0 own nm bytes maxL ret R kc ks Q h cl sl pc ls (.int n :: st) := by
  subst hq
  intro p e s m args below meth c T locs hx hby hml hown hnm hr hlk hZ X eT N
  obtain ⟨T', h', cA, X', e', E, A, -, O, stp⟩ := RoadKit.newRE X hx hZ hown w1 w2 eT (g := mkF m pc ls (.int n :: st)) rfl (hb hby hd) rfl hn hcap hb8 hc hl rfl
  obtain ⟨s₂, o, h1, r⟩ := k h' _ cA rfl E A O p e s m args below meth c T' _ hx hby hml hown hnm hr hlk hZ X' e' N
  exact ⟨s₂, o, stp _ h1, r⟩
theorem Wk.stB {a : Addr} {c0 : Cell} {j x v : Int32} (A : Arr Z h a c0 .byte) (hj : ¬ (j < 0 ∨ c0.slots.size ≤ j.toNatClampNeg)) (hv : nar .byte x = v) (hd : decode bytes pc = .ok (.bastore, 1)) (hq : pc + 1 = q) (ha : n0 ≤ a)
    (k : ∀ h', Wr h h' a j.toNatClampNeg (.int v) → Wk l Z n0 own nm bytes maxL ret R kc ks Q h' cl sl q ls st) : Wk l Z n0 own nm bytes maxL ret R kc ks Q h cl sl pc ls (.int x :: .int j :: .ref a :: st) := by
  subst hq hv
  intro p e s m args below meth c T locs hx hby hml hown hnm hr hlk hZ X eT N
  obtain ⟨T', h', X', e', W', stp⟩ := RoadKit.stB X hx hZ eT A hj (g := mkF m pc ls (.int x :: .int j :: .ref a :: st)) rfl rfl (hb hby hd)
  obtain ⟨s₂, o, h1, r⟩ := k h' W' p e s m args below meth c T' _ hx hby hml hown hnm hr hlk hZ X' e' (Fr.snoc X' N ha)
  exact ⟨s₂, o, stp _ h1, r⟩
theorem Wk.stR {a : Addr} {c0 : Cell} {ty : FieldType} {j : Int32} {v : Value} (A : Arr Z h a c0 ty) (hj : ¬ (j < 0 ∨ c0.slots.size ≤ j.toNatClampNeg)) (hty : ty.isReference = true) (F : Sto Z h a v) (hv : v.isRef = true) (hd : decode bytes pc = .ok (.aastore, 1)) (hq : pc + 1 = q) (ha : n0 ≤ a)
    (k : ∀ h', Wr h h' a j.toNatClampNeg v → Wk l Z n0 own nm bytes maxL ret R kc ks Q h' cl sl q ls st) : Wk l Z n0 own nm bytes maxL ret R kc ks Q h cl sl pc ls (v :: .int j :: .ref a :: st) := by
  subst hq
  intro p e s m args below meth c T locs hx hby hml hown hnm hr hlk hZ X eT N
  obtain ⟨T', h', X', e', W', stp⟩ := RoadKit.stR X hx hZ eT A hj hty F (g := mkF m pc ls (v :: .int j :: .ref a :: st)) rfl rfl (hb hby hd)
  obtain ⟨s₂, o, h1, r⟩ := k h' W' p e s m args below meth c T' _ hx hby hml hown hnm hr hlk hZ X' e' (Fr.snoc X' N ha)
  exact ⟨s₂, o, stp _ h1, r⟩
theorem Wk.castY {i : Nat} {K : String} {a : Addr} (w : (Jvm.Cond.classLink own i K).before a0 Z = true) (F : Ins Z h a K true) (hd : decode bytes pc = .ok (.checkcast i, 3)) (hq : pc + 3 = q) (k : Wk l Z n0 own nm bytes maxL ret R kc ks Q h cl sl q ls (.ref a :: st)) : Wk l Z n0 own nm bytes maxL ret R kc ks Q h cl sl pc ls (.ref a :: st) := by
  subst hq; exact Wk.stepW (fun hx hby hown hZ X eT => RoadKit.castY X hx hZ hown w eT F (g := mkF _ pc ls (.ref a :: st)) rfl rfl (hb hby hd)) k
theorem Wk.instNull {i : Nat} (hd : decode bytes pc = .ok (.instanceof i, 3)) (hq : pc + 3 = q) (k : Wk l Z n0 own nm bytes maxL ret R kc ks Q h cl sl q ls (.int 0 :: st)) : Wk l Z n0 own nm bytes maxL ret R kc ks Q h cl sl pc ls (.null :: st) := by
  subst hq; exact Wk.step (fun hx hby _ _ X _ t k => X.instanceofNull hx (g := mkF _ pc ls (.null :: st)) rfl rfl (hb hby hd) t k) k
theorem own_nsroot {O K : String} {n : Nat} (w : (Jvm.Cond.noSuperclass O).before a0 Z = true) (wi : (Jvm.Cond.instantiable K n).before a0 Z = true) (hn : O ≠ K) : NS Z O K := by
  obtain ⟨c, k, h1, h2, h3, -, -⟩ := Cond.noSuperclass_spec w
  obtain ⟨t, kt, g1, -⟩ := Cond.instantiable_spec wi
  have ne := ids_ne h1 g1 hn
  exact ⟨c, t, h1, g1, fun fuel => by cases fuel <;> simp [Vm.isSubclassAux, ne, h2, h3]⟩
theorem own_nsno {C S K : String} {n : Nat} (w : (Jvm.Cond.superclass C S).before a0 Z = true) (wi : (Jvm.Cond.instantiable K n).before a0 Z = true) (m : NS Z C K) (hn : C ≠ K) : ∃ c t, Z.vm.findClass C = some c ∧ Z.vm.findClass K = some t ∧ Z.vm.assignable c t = false := by
  obtain ⟨c, t, h0, g0, n3⟩ := m
  obtain ⟨p, k, kp, h1, h2, h3, h4, h5, -, h7⟩ := Cond.superclass_spec h0 w
  obtain ⟨t', kt, g1, g2, g3, g4, -⟩ := Cond.instantiable_spec wi
  cases g0.symm.trans g1
  have ne := ids_ne h0 g0 hn
  have g5 : kt.isInterface = false := by cases hi : kt.isInterface <;> simp [hi] at g4 ⊢
  refine ⟨c, t, h0, g0, ?_⟩
  show Z.vm.assignableAux (255 + 1) c t = false
  simp [Vm.assignableAux, ne, h2, g2, h5, g3, g5, Vm.isSubclass, n3]
theorem Wk.instY {i : Nat} {K : String} {a : Addr} (w : (Jvm.Cond.classLink own i K).before a0 Z = true) (F : Ins Z h a K true) (hd : decode bytes pc = .ok (.instanceof i, 3)) (hq : pc + 3 = q) (k : Wk l Z n0 own nm bytes maxL ret R kc ks Q h cl sl q ls (.int 1 :: st)) : Wk l Z n0 own nm bytes maxL ret R kc ks Q h cl sl pc ls (.ref a :: st) := by
  subst hq; exact Wk.stepW (fun hx hby hown hZ X eT => RoadKit.instY X hx hZ hown w eT F (g := mkF _ pc ls (.ref a :: st)) rfl rfl (hb hby hd)) k
theorem Wk.instNo {i : Nat} {K C : String} {a : Addr} (w : (Jvm.Cond.classLink own i K).before a0 Z = true) (E : Exa Z h a C) (F : ∃ c t, Z.vm.findClass C = some c ∧ Z.vm.findClass K = some t ∧ Z.vm.assignable c t = false) (hd : decode bytes pc = .ok (.instanceof i, 3)) (hq : pc + 3 = q) (k : Wk l Z n0 own nm bytes maxL ret R kc ks Q h cl sl q ls (.int 0 :: st)) : Wk l Z n0 own nm bytes maxL ret R kc ks Q h cl sl pc ls (.ref a :: st) := by
  subst hq; exact Wk.stepW (fun hx hby hown hZ X eT => RoadKit.instNo X hx hZ hown w eT E F (g := mkF _ pc ls (.ref a :: st)) rfl rfl (hb hby hd)) k
end Own2

theorem w_0 {a0 : Array Value} {Z : State} (hw : ∀ d ∈ tables_1, d.before a0 Z = true) : (Jvm.Cond.methodLink "com/example/kaiten_draft/kaitendraft/table/HandAppendPinLaw" (47 : Nat) ({ cls := "com/example/kaiten_draft/kaitendraft/table/HandAppendPinLaw", name := "pick", desc := "(I)Lcom/example/kaiten_draft/kaitendraft/cards/Card;" } : Jvm.MethodName)).before a0 Z = true := hw _ (List.mem_of_getElem? (i := 0) rfl)
theorem w_1 {a0 : Array Value} {Z : State} (hw : ∀ d ∈ tables_1, d.before a0 Z = true) : (Jvm.Cond.static ({ cls := "com/example/kaiten_draft/kaitendraft/table/HandAppendPinLaw", name := "pick", desc := "(I)Lcom/example/kaiten_draft/kaitendraft/cards/Card;" } : Jvm.MethodName)).before a0 Z = true := hw _ (List.mem_of_getElem? (i := 1) rfl)
theorem w_2 {a0 : Array Value} {Z : State} (hw : ∀ d ∈ tables_1, d.before a0 Z = true) : (Jvm.Cond.initialized "com/example/kaiten_draft/kaitendraft/table/HandAppendPinLaw").before a0 Z = true := hw _ (List.mem_of_getElem? (i := 2) rfl)
theorem w_3 {a0 : Array Value} {Z : State} (hw : ∀ d ∈ tables_1, d.before a0 Z = true) : (Jvm.Cond.code ({ cls := "com/example/kaiten_draft/kaitendraft/table/HandAppendPinLaw", name := "pick", desc := "(I)Lcom/example/kaiten_draft/kaitendraft/cards/Card;" } : Jvm.MethodName) method_2_code (2 : Nat) (Option.some (Jvm.ClassFile.FieldType.object "com/example/kaiten_draft/kaitendraft/cards/Card"))).before a0 Z = true := hw _ (List.mem_of_getElem? (i := 3) rfl)
theorem w_4 {a0 : Array Value} {Z : State} (hw : ∀ d ∈ tables_1, d.before a0 Z = true) : (Jvm.Cond.constant "com/example/kaiten_draft/kaitendraft/table/HandAppendPinLaw" (7 : Nat) (2147483647 : Int32)).before a0 Z = true := hw _ (List.mem_of_getElem? (i := 4) rfl)
theorem w_5 {a0 : Array Value} {Z : State} (hw : ∀ d ∈ tables_1, d.before a0 Z = true) : (Jvm.Cond.fieldLink "com/example/kaiten_draft/kaitendraft/table/HandAppendPinLaw" (8 : Nat) "com/example/kaiten_draft/kaitendraft/cards/Card" "TEMPURA" "Lcom/example/kaiten_draft/kaitendraft/cards/Card;").before a0 Z = true := hw _ (List.mem_of_getElem? (i := 5) rfl)
theorem w_6 {a0 : Array Value} {Z : State} (hw : ∀ d ∈ tables_1, d.before a0 Z = true) : (Jvm.Cond.initialized "com/example/kaiten_draft/kaitendraft/cards/Card").before a0 Z = true := hw _ (List.mem_of_getElem? (i := 6) rfl)
theorem w_7 {a0 : Array Value} {Z : State} (hw : ∀ d ∈ tables_1, d.before a0 Z = true) : (Jvm.Cond.laysStatic "com/example/kaiten_draft/kaitendraft/cards/Card" "TEMPURA" "Lcom/example/kaiten_draft/kaitendraft/cards/Card;").before a0 Z = true := hw _ (List.mem_of_getElem? (i := 7) rfl)
theorem w_8 {a0 : Array Value} {Z : State} (hw : ∀ d ∈ tables_1, d.before a0 Z = true) : (Jvm.Cond.fieldLink "com/example/kaiten_draft/kaitendraft/table/HandAppendPinLaw" (20 : Nat) "com/example/kaiten_draft/kaitendraft/cards/Card" "MAKI1" "Lcom/example/kaiten_draft/kaitendraft/cards/Card;").before a0 Z = true := hw _ (List.mem_of_getElem? (i := 8) rfl)
theorem w_9 {a0 : Array Value} {Z : State} (hw : ∀ d ∈ tables_1, d.before a0 Z = true) : (Jvm.Cond.laysStatic "com/example/kaiten_draft/kaitendraft/cards/Card" "MAKI1" "Lcom/example/kaiten_draft/kaitendraft/cards/Card;").before a0 Z = true := hw _ (List.mem_of_getElem? (i := 9) rfl)
theorem w_10 {a0 : Array Value} {Z : State} (hw : ∀ d ∈ tables_1, d.before a0 Z = true) : (Jvm.Cond.fieldLink "com/example/kaiten_draft/kaitendraft/table/HandAppendPinLaw" (17 : Nat) "com/example/kaiten_draft/kaitendraft/cards/Card" "DUMPLING" "Lcom/example/kaiten_draft/kaitendraft/cards/Card;").before a0 Z = true := hw _ (List.mem_of_getElem? (i := 10) rfl)
theorem w_11 {a0 : Array Value} {Z : State} (hw : ∀ d ∈ tables_1, d.before a0 Z = true) : (Jvm.Cond.laysStatic "com/example/kaiten_draft/kaitendraft/cards/Card" "DUMPLING" "Lcom/example/kaiten_draft/kaitendraft/cards/Card;").before a0 Z = true := hw _ (List.mem_of_getElem? (i := 11) rfl)
theorem w_12 {a0 : Array Value} {Z : State} (hw : ∀ d ∈ tables_1, d.before a0 Z = true) : (Jvm.Cond.classLink "com/example/kaiten_draft/kaitendraft/table/HandAppendPinLaw" (53 : Nat) "com/example/kaiten_draft/kaitendraft/table/Hand").before a0 Z = true := hw _ (List.mem_of_getElem? (i := 12) rfl)
theorem w_13 {a0 : Array Value} {Z : State} (hw : ∀ d ∈ tables_1, d.before a0 Z = true) : (Jvm.Cond.instantiable "com/example/kaiten_draft/kaitendraft/table/Hand" (3 : Nat)).before a0 Z = true := hw _ (List.mem_of_getElem? (i := 13) rfl)
theorem w_14 {a0 : Array Value} {Z : State} (hw : ∀ d ∈ tables_1, d.before a0 Z = true) : (Jvm.Cond.initialized "com/example/kaiten_draft/kaitendraft/table/Hand").before a0 Z = true := hw _ (List.mem_of_getElem? (i := 14) rfl)
theorem w_15 {a0 : Array Value} {Z : State} (hw : ∀ d ∈ tables_1, d.before a0 Z = true) : (Jvm.Cond.methodLink "com/example/kaiten_draft/kaitendraft/table/HandAppendPinLaw" (55 : Nat) ({ cls := "com/example/kaiten_draft/kaitendraft/table/Hand", name := "<init>", desc := "(I)V" } : Jvm.MethodName)).before a0 Z = true := hw _ (List.mem_of_getElem? (i := 15) rfl)
theorem w_16 {a0 : Array Value} {Z : State} (hw : ∀ d ∈ tables_1, d.before a0 Z = true) : (Jvm.Cond.instanceMethod ({ cls := "com/example/kaiten_draft/kaitendraft/table/Hand", name := "<init>", desc := "(I)V" } : Jvm.MethodName)).before a0 Z = true := hw _ (List.mem_of_getElem? (i := 16) rfl)
theorem w_17 {a0 : Array Value} {Z : State} (hw : ∀ d ∈ tables_1, d.before a0 Z = true) : (Jvm.Cond.code ({ cls := "com/example/kaiten_draft/kaitendraft/table/Hand", name := "<init>", desc := "(I)V" } : Jvm.MethodName) prog_36_method_1_code (2 : Nat) (Option.none : Option Jvm.ClassFile.FieldType)).before a0 Z = true := hw _ (List.mem_of_getElem? (i := 17) rfl)
theorem w_18 {a0 : Array Value} {Z : State} (hw : ∀ d ∈ tables_1, d.before a0 Z = true) : (Jvm.Cond.methodLink "com/example/kaiten_draft/kaitendraft/table/Hand" (1 : Nat) ({ cls := "java/util/AbstractList", name := "<init>", desc := "()V" } : Jvm.MethodName)).before a0 Z = true := hw _ (List.mem_of_getElem? (i := 18) rfl)
theorem w_19 {a0 : Array Value} {Z : State} (hw : ∀ d ∈ tables_1, d.before a0 Z = true) : (Jvm.Cond.instanceMethod ({ cls := "java/util/AbstractList", name := "<init>", desc := "()V" } : Jvm.MethodName)).before a0 Z = true := hw _ (List.mem_of_getElem? (i := 19) rfl)
theorem w_20 {a0 : Array Value} {Z : State} (hw : ∀ d ∈ tables_1, d.before a0 Z = true) : (Jvm.Cond.declares ({ cls := "java/util/AbstractList", name := "<init>", desc := "()V" } : Jvm.MethodName)).before a0 Z = true := hw _ (List.mem_of_getElem? (i := 20) rfl)
theorem w_21 {a0 : Array Value} {Z : State} (hw : ∀ d ∈ tables_1, d.before a0 Z = true) : (Jvm.Cond.initialized "java/util/AbstractList").before a0 Z = true := hw _ (List.mem_of_getElem? (i := 21) rfl)
theorem w_22 {a0 : Array Value} {Z : State} (hw : ∀ d ∈ tables_1, d.before a0 Z = true) : (Jvm.Cond.code ({ cls := "java/util/AbstractList", name := "<init>", desc := "()V" } : Jvm.MethodName) jdk_39_method_1_code (1 : Nat) (Option.none : Option Jvm.ClassFile.FieldType)).before a0 Z = true := hw _ (List.mem_of_getElem? (i := 22) rfl)
theorem w_23 {a0 : Array Value} {Z : State} (hw : ∀ d ∈ tables_1, d.before a0 Z = true) : (Jvm.Cond.methodLink "java/util/AbstractList" (1 : Nat) ({ cls := "java/util/AbstractCollection", name := "<init>", desc := "()V" } : Jvm.MethodName)).before a0 Z = true := hw _ (List.mem_of_getElem? (i := 23) rfl)
theorem w_24 {a0 : Array Value} {Z : State} (hw : ∀ d ∈ tables_1, d.before a0 Z = true) : (Jvm.Cond.instanceMethod ({ cls := "java/util/AbstractCollection", name := "<init>", desc := "()V" } : Jvm.MethodName)).before a0 Z = true := hw _ (List.mem_of_getElem? (i := 24) rfl)
theorem w_25 {a0 : Array Value} {Z : State} (hw : ∀ d ∈ tables_1, d.before a0 Z = true) : (Jvm.Cond.declares ({ cls := "java/util/AbstractCollection", name := "<init>", desc := "()V" } : Jvm.MethodName)).before a0 Z = true := hw _ (List.mem_of_getElem? (i := 25) rfl)
theorem w_26 {a0 : Array Value} {Z : State} (hw : ∀ d ∈ tables_1, d.before a0 Z = true) : (Jvm.Cond.castable "com/example/kaiten_draft/kaitendraft/table/Hand" "java/util/AbstractCollection").before a0 Z = true := hw _ (List.mem_of_getElem? (i := 26) rfl)
theorem w_27 {a0 : Array Value} {Z : State} (hw : ∀ d ∈ tables_1, d.before a0 Z = true) : (Jvm.Cond.initialized "java/util/AbstractCollection").before a0 Z = true := hw _ (List.mem_of_getElem? (i := 27) rfl)
theorem w_28 {a0 : Array Value} {Z : State} (hw : ∀ d ∈ tables_1, d.before a0 Z = true) : (Jvm.Cond.code ({ cls := "java/util/AbstractCollection", name := "<init>", desc := "()V" } : Jvm.MethodName) jdk_22_method_1_code (1 : Nat) (Option.none : Option Jvm.ClassFile.FieldType)).before a0 Z = true := hw _ (List.mem_of_getElem? (i := 28) rfl)
theorem w_29 {a0 : Array Value} {Z : State} (hw : ∀ d ∈ tables_1, d.before a0 Z = true) : (Jvm.Cond.methodLink "java/util/AbstractCollection" (1 : Nat) ({ cls := "java/lang/Object", name := "<init>", desc := "()V" } : Jvm.MethodName)).before a0 Z = true := hw _ (List.mem_of_getElem? (i := 29) rfl)
theorem w_30 {a0 : Array Value} {Z : State} (hw : ∀ d ∈ tables_1, d.before a0 Z = true) : (Jvm.Cond.instanceMethod ({ cls := "java/lang/Object", name := "<init>", desc := "()V" } : Jvm.MethodName)).before a0 Z = true := hw _ (List.mem_of_getElem? (i := 30) rfl)
theorem w_31 {a0 : Array Value} {Z : State} (hw : ∀ d ∈ tables_1, d.before a0 Z = true) : (Jvm.Cond.code ({ cls := "java/lang/Object", name := "<init>", desc := "()V" } : Jvm.MethodName) object_method_1_code (1 : Nat) (Option.none : Option Jvm.ClassFile.FieldType)).before a0 Z = true := hw _ (List.mem_of_getElem? (i := 31) rfl)
theorem w_32 {a0 : Array Value} {Z : State} (hw : ∀ d ∈ tables_1, d.before a0 Z = true) : (Jvm.Cond.fieldLink "java/util/AbstractList" (7 : Nat) "java/util/AbstractList" "modCount" "I").before a0 Z = true := hw _ (List.mem_of_getElem? (i := 32) rfl)
theorem w_33 {a0 : Array Value} {Z : State} (hw : ∀ d ∈ tables_1, d.before a0 Z = true) : (Jvm.Cond.lays "com/example/kaiten_draft/kaitendraft/table/Hand" "java/util/AbstractList" "modCount" "I").before a0 Z = true := hw _ (List.mem_of_getElem? (i := 33) rfl)
theorem w_34 {a0 : Array Value} {Z : State} (hw : ∀ d ∈ tables_1, d.before a0 Z = true) : (Jvm.Cond.classLink "com/example/kaiten_draft/kaitendraft/table/Hand" (7 : Nat) "com/example/kaiten_draft/kaitendraft/cards/Card").before a0 Z = true := hw _ (List.mem_of_getElem? (i := 34) rfl)
theorem w_35 {a0 : Array Value} {Z : State} (hw : ∀ d ∈ tables_1, d.before a0 Z = true) : (Jvm.Cond.arrayOver (Jvm.ClassFile.FieldType.object "com/example/kaiten_draft/kaitendraft/cards/Card")).before a0 Z = true := hw _ (List.mem_of_getElem? (i := 35) rfl)
theorem w_36 {a0 : Array Value} {Z : State} (hw : ∀ d ∈ tables_1, d.before a0 Z = true) : (Jvm.Cond.fieldLink "com/example/kaiten_draft/kaitendraft/table/Hand" (9 : Nat) "com/example/kaiten_draft/kaitendraft/table/Hand" "cards" "[Lcom/example/kaiten_draft/kaitendraft/cards/Card;").before a0 Z = true := hw _ (List.mem_of_getElem? (i := 36) rfl)
theorem w_37 {a0 : Array Value} {Z : State} (hw : ∀ d ∈ tables_1, d.before a0 Z = true) : (Jvm.Cond.laysFinal "com/example/kaiten_draft/kaitendraft/table/Hand" "com/example/kaiten_draft/kaitendraft/table/Hand" "cards" "[Lcom/example/kaiten_draft/kaitendraft/cards/Card;").before a0 Z = true := hw _ (List.mem_of_getElem? (i := 37) rfl)
theorem w_38 {a0 : Array Value} {Z : State} (hw : ∀ d ∈ tables_1, d.before a0 Z = true) : (Jvm.Cond.methodLink "com/example/kaiten_draft/kaitendraft/table/HandAppendPinLaw" (58 : Nat) ({ cls := "com/example/kaiten_draft/kaitendraft/table/Hand", name := "append", desc := "(Lcom/example/kaiten_draft/kaitendraft/cards/Card;)V" } : Jvm.MethodName)).before a0 Z = true := hw _ (List.mem_of_getElem? (i := 38) rfl)
theorem w_39 {a0 : Array Value} {Z : State} (hw : ∀ d ∈ tables_1, d.before a0 Z = true) : (Jvm.Cond.declares ({ cls := "com/example/kaiten_draft/kaitendraft/table/Hand", name := "append", desc := "(Lcom/example/kaiten_draft/kaitendraft/cards/Card;)V" } : Jvm.MethodName)).before a0 Z = true := hw _ (List.mem_of_getElem? (i := 39) rfl)
theorem w_40 {a0 : Array Value} {Z : State} (hw : ∀ d ∈ tables_1, d.before a0 Z = true) : (Jvm.Cond.instanceMethod ({ cls := "com/example/kaiten_draft/kaitendraft/table/Hand", name := "append", desc := "(Lcom/example/kaiten_draft/kaitendraft/cards/Card;)V" } : Jvm.MethodName)).before a0 Z = true := hw _ (List.mem_of_getElem? (i := 40) rfl)
theorem w_41 {a0 : Array Value} {Z : State} (hw : ∀ d ∈ tables_1, d.before a0 Z = true) : (Jvm.Cond.selects "com/example/kaiten_draft/kaitendraft/table/Hand" ({ cls := "com/example/kaiten_draft/kaitendraft/table/Hand", name := "append", desc := "(Lcom/example/kaiten_draft/kaitendraft/cards/Card;)V" } : Jvm.MethodName) ({ cls := "com/example/kaiten_draft/kaitendraft/table/Hand", name := "append", desc := "(Lcom/example/kaiten_draft/kaitendraft/cards/Card;)V" } : Jvm.MethodName)).before a0 Z = true := hw _ (List.mem_of_getElem? (i := 41) rfl)
theorem w_42 {a0 : Array Value} {Z : State} (hw : ∀ d ∈ tables_1, d.before a0 Z = true) : (Jvm.Cond.code ({ cls := "com/example/kaiten_draft/kaitendraft/table/Hand", name := "append", desc := "(Lcom/example/kaiten_draft/kaitendraft/cards/Card;)V" } : Jvm.MethodName) prog_36_method_4_code (2 : Nat) (Option.none : Option Jvm.ClassFile.FieldType)).before a0 Z = true := hw _ (List.mem_of_getElem? (i := 42) rfl)
theorem w_43 {a0 : Array Value} {Z : State} (hw : ∀ d ∈ tables_1, d.before a0 Z = true) : (Jvm.Cond.fieldLink "com/example/kaiten_draft/kaitendraft/table/Hand" (15 : Nat) "com/example/kaiten_draft/kaitendraft/table/Hand" "size" "I").before a0 Z = true := hw _ (List.mem_of_getElem? (i := 43) rfl)
theorem w_44 {a0 : Array Value} {Z : State} (hw : ∀ d ∈ tables_1, d.before a0 Z = true) : (Jvm.Cond.lays "com/example/kaiten_draft/kaitendraft/table/Hand" "com/example/kaiten_draft/kaitendraft/table/Hand" "size" "I").before a0 Z = true := hw _ (List.mem_of_getElem? (i := 44) rfl)
theorem w_45 {a0 : Array Value} {Z : State} (hw : ∀ d ∈ tables_1, d.before a0 Z = true) : (Jvm.Cond.castable "com/example/kaiten_draft/kaitendraft/cards/Card" "com/example/kaiten_draft/kaitendraft/cards/Card").before a0 Z = true := hw _ (List.mem_of_getElem? (i := 45) rfl)
theorem w_46 {a0 : Array Value} {Z : State} (hw : ∀ d ∈ tables_1, d.before a0 Z = true) : (Jvm.Cond.methodLink "com/example/kaiten_draft/kaitendraft/table/HandAppendPinLaw" (62 : Nat) ({ cls := "com/example/kaiten_draft/kaitendraft/table/Hand", name := "size", desc := "()I" } : Jvm.MethodName)).before a0 Z = true := hw _ (List.mem_of_getElem? (i := 46) rfl)
theorem w_47 {a0 : Array Value} {Z : State} (hw : ∀ d ∈ tables_1, d.before a0 Z = true) : (Jvm.Cond.declares ({ cls := "com/example/kaiten_draft/kaitendraft/table/Hand", name := "size", desc := "()I" } : Jvm.MethodName)).before a0 Z = true := hw _ (List.mem_of_getElem? (i := 47) rfl)
theorem w_48 {a0 : Array Value} {Z : State} (hw : ∀ d ∈ tables_1, d.before a0 Z = true) : (Jvm.Cond.instanceMethod ({ cls := "com/example/kaiten_draft/kaitendraft/table/Hand", name := "size", desc := "()I" } : Jvm.MethodName)).before a0 Z = true := hw _ (List.mem_of_getElem? (i := 48) rfl)
theorem w_49 {a0 : Array Value} {Z : State} (hw : ∀ d ∈ tables_1, d.before a0 Z = true) : (Jvm.Cond.selects "com/example/kaiten_draft/kaitendraft/table/Hand" ({ cls := "com/example/kaiten_draft/kaitendraft/table/Hand", name := "size", desc := "()I" } : Jvm.MethodName) ({ cls := "com/example/kaiten_draft/kaitendraft/table/Hand", name := "size", desc := "()I" } : Jvm.MethodName)).before a0 Z = true := hw _ (List.mem_of_getElem? (i := 49) rfl)
theorem w_50 {a0 : Array Value} {Z : State} (hw : ∀ d ∈ tables_1, d.before a0 Z = true) : (Jvm.Cond.code ({ cls := "com/example/kaiten_draft/kaitendraft/table/Hand", name := "size", desc := "()I" } : Jvm.MethodName) prog_36_method_3_code (1 : Nat) (Option.some Jvm.ClassFile.FieldType.int)).before a0 Z = true := hw _ (List.mem_of_getElem? (i := 50) rfl)
theorem w_51 {a0 : Array Value} {Z : State} (hw : ∀ d ∈ tables_1, d.before a0 Z = true) : (Jvm.Cond.methodLink "com/example/kaiten_draft/kaitendraft/table/HandAppendPinLaw" (66 : Nat) ({ cls := "com/example/kaiten_draft/kaitendraft/table/Hand", name := "get", desc := "(I)Lcom/example/kaiten_draft/kaitendraft/cards/Card;" } : Jvm.MethodName)).before a0 Z = true := hw _ (List.mem_of_getElem? (i := 51) rfl)
theorem w_52 {a0 : Array Value} {Z : State} (hw : ∀ d ∈ tables_1, d.before a0 Z = true) : (Jvm.Cond.declares ({ cls := "com/example/kaiten_draft/kaitendraft/table/Hand", name := "get", desc := "(I)Lcom/example/kaiten_draft/kaitendraft/cards/Card;" } : Jvm.MethodName)).before a0 Z = true := hw _ (List.mem_of_getElem? (i := 52) rfl)
theorem w_53 {a0 : Array Value} {Z : State} (hw : ∀ d ∈ tables_1, d.before a0 Z = true) : (Jvm.Cond.instanceMethod ({ cls := "com/example/kaiten_draft/kaitendraft/table/Hand", name := "get", desc := "(I)Lcom/example/kaiten_draft/kaitendraft/cards/Card;" } : Jvm.MethodName)).before a0 Z = true := hw _ (List.mem_of_getElem? (i := 53) rfl)
theorem w_54 {a0 : Array Value} {Z : State} (hw : ∀ d ∈ tables_1, d.before a0 Z = true) : (Jvm.Cond.selects "com/example/kaiten_draft/kaitendraft/table/Hand" ({ cls := "com/example/kaiten_draft/kaitendraft/table/Hand", name := "get", desc := "(I)Lcom/example/kaiten_draft/kaitendraft/cards/Card;" } : Jvm.MethodName) ({ cls := "com/example/kaiten_draft/kaitendraft/table/Hand", name := "get", desc := "(I)Lcom/example/kaiten_draft/kaitendraft/cards/Card;" } : Jvm.MethodName)).before a0 Z = true := hw _ (List.mem_of_getElem? (i := 54) rfl)
theorem w_55 {a0 : Array Value} {Z : State} (hw : ∀ d ∈ tables_1, d.before a0 Z = true) : (Jvm.Cond.code ({ cls := "com/example/kaiten_draft/kaitendraft/table/Hand", name := "get", desc := "(I)Lcom/example/kaiten_draft/kaitendraft/cards/Card;" } : Jvm.MethodName) prog_36_method_2_code (2 : Nat) (Option.some (Jvm.ClassFile.FieldType.object "com/example/kaiten_draft/kaitendraft/cards/Card"))).before a0 Z = true := hw _ (List.mem_of_getElem? (i := 55) rfl)
theorem w_56 {a0 : Array Value} {Z : State} (hw : ∀ d ∈ tables_1, d.before a0 Z = true) : (Jvm.Cond.methodLink "com/example/kaiten_draft/kaitendraft/table/Hand" (19 : Nat) ({ cls := "java/util/Objects", name := "checkIndex", desc := "(II)I" } : Jvm.MethodName)).before a0 Z = true := hw _ (List.mem_of_getElem? (i := 56) rfl)
theorem w_57 {a0 : Array Value} {Z : State} (hw : ∀ d ∈ tables_1, d.before a0 Z = true) : (Jvm.Cond.static ({ cls := "java/util/Objects", name := "checkIndex", desc := "(II)I" } : Jvm.MethodName)).before a0 Z = true := hw _ (List.mem_of_getElem? (i := 57) rfl)
theorem w_58 {a0 : Array Value} {Z : State} (hw : ∀ d ∈ tables_1, d.before a0 Z = true) : (Jvm.Cond.initialized "java/util/Objects").before a0 Z = true := hw _ (List.mem_of_getElem? (i := 58) rfl)
theorem w_59 {a0 : Array Value} {Z : State} (hw : ∀ d ∈ tables_1, d.before a0 Z = true) : (Jvm.Cond.code ({ cls := "java/util/Objects", name := "checkIndex", desc := "(II)I" } : Jvm.MethodName) jdk_31_method_17_code (2 : Nat) (Option.some Jvm.ClassFile.FieldType.int)).before a0 Z = true := hw _ (List.mem_of_getElem? (i := 59) rfl)
theorem w_60 {a0 : Array Value} {Z : State} (hw : ∀ d ∈ tables_1, d.before a0 Z = true) : (Jvm.Cond.methodLink "java/util/Objects" (105 : Nat) ({ cls := "jdk/internal/util/Preconditions", name := "checkIndex", desc := "(IILjava/util/function/BiFunction;)I" } : Jvm.MethodName)).before a0 Z = true := hw _ (List.mem_of_getElem? (i := 60) rfl)
theorem w_61 {a0 : Array Value} {Z : State} (hw : ∀ d ∈ tables_1, d.before a0 Z = true) : (Jvm.Cond.static ({ cls := "jdk/internal/util/Preconditions", name := "checkIndex", desc := "(IILjava/util/function/BiFunction;)I" } : Jvm.MethodName)).before a0 Z = true := hw _ (List.mem_of_getElem? (i := 61) rfl)
theorem w_62 {a0 : Array Value} {Z : State} (hw : ∀ d ∈ tables_1, d.before a0 Z = true) : (Jvm.Cond.initialized "jdk/internal/util/Preconditions").before a0 Z = true := hw _ (List.mem_of_getElem? (i := 62) rfl)
theorem w_63 {a0 : Array Value} {Z : State} (hw : ∀ d ∈ tables_1, d.before a0 Z = true) : (Jvm.Cond.code ({ cls := "jdk/internal/util/Preconditions", name := "checkIndex", desc := "(IILjava/util/function/BiFunction;)I" } : Jvm.MethodName) jdk_41_method_11_code (3 : Nat) (Option.some Jvm.ClassFile.FieldType.int)).before a0 Z = true := hw _ (List.mem_of_getElem? (i := 63) rfl)
theorem w_64 {a0 : Array Value} {Z : State} (hw : ∀ d ∈ tables_1, d.before a0 Z = true) : (Jvm.Cond.fieldLink "com/example/kaiten_draft/kaitendraft/table/HandAppendPinLaw" (23 : Nat) "com/example/kaiten_draft/kaitendraft/cards/Card" "MAKI2" "Lcom/example/kaiten_draft/kaitendraft/cards/Card;").before a0 Z = true := hw _ (List.mem_of_getElem? (i := 64) rfl)
theorem w_65 {a0 : Array Value} {Z : State} (hw : ∀ d ∈ tables_1, d.before a0 Z = true) : (Jvm.Cond.laysStatic "com/example/kaiten_draft/kaitendraft/cards/Card" "MAKI2" "Lcom/example/kaiten_draft/kaitendraft/cards/Card;").before a0 Z = true := hw _ (List.mem_of_getElem? (i := 65) rfl)
theorem w_66 {a0 : Array Value} {Z : State} (hw : ∀ d ∈ tables_1, d.before a0 Z = true) : (Jvm.Cond.fieldLink "com/example/kaiten_draft/kaitendraft/table/HandAppendPinLaw" (32 : Nat) "com/example/kaiten_draft/kaitendraft/cards/Card" "SQUID" "Lcom/example/kaiten_draft/kaitendraft/cards/Card;").before a0 Z = true := hw _ (List.mem_of_getElem? (i := 66) rfl)
theorem w_67 {a0 : Array Value} {Z : State} (hw : ∀ d ∈ tables_1, d.before a0 Z = true) : (Jvm.Cond.laysStatic "com/example/kaiten_draft/kaitendraft/cards/Card" "SQUID" "Lcom/example/kaiten_draft/kaitendraft/cards/Card;").before a0 Z = true := hw _ (List.mem_of_getElem? (i := 67) rfl)
theorem w_68 {a0 : Array Value} {Z : State} (hw : ∀ d ∈ tables_1, d.before a0 Z = true) : (Jvm.Cond.fieldLink "com/example/kaiten_draft/kaitendraft/table/HandAppendPinLaw" (35 : Nat) "com/example/kaiten_draft/kaitendraft/cards/Card" "EGG" "Lcom/example/kaiten_draft/kaitendraft/cards/Card;").before a0 Z = true := hw _ (List.mem_of_getElem? (i := 68) rfl)
theorem w_69 {a0 : Array Value} {Z : State} (hw : ∀ d ∈ tables_1, d.before a0 Z = true) : (Jvm.Cond.laysStatic "com/example/kaiten_draft/kaitendraft/cards/Card" "EGG" "Lcom/example/kaiten_draft/kaitendraft/cards/Card;").before a0 Z = true := hw _ (List.mem_of_getElem? (i := 69) rfl)
theorem w_70 {a0 : Array Value} {Z : State} (hw : ∀ d ∈ tables_1, d.before a0 Z = true) : (Jvm.Cond.fieldLink "com/example/kaiten_draft/kaitendraft/table/HandAppendPinLaw" (41 : Nat) "com/example/kaiten_draft/kaitendraft/cards/Card" "WASABI" "Lcom/example/kaiten_draft/kaitendraft/cards/Card;").before a0 Z = true := hw _ (List.mem_of_getElem? (i := 70) rfl)
theorem w_71 {a0 : Array Value} {Z : State} (hw : ∀ d ∈ tables_1, d.before a0 Z = true) : (Jvm.Cond.laysStatic "com/example/kaiten_draft/kaitendraft/cards/Card" "WASABI" "Lcom/example/kaiten_draft/kaitendraft/cards/Card;").before a0 Z = true := hw _ (List.mem_of_getElem? (i := 71) rfl)
theorem w_72 {a0 : Array Value} {Z : State} (hw : ∀ d ∈ tables_1, d.before a0 Z = true) : (Jvm.Cond.fieldLink "com/example/kaiten_draft/kaitendraft/table/HandAppendPinLaw" (44 : Nat) "com/example/kaiten_draft/kaitendraft/cards/Card" "CHOPSTICKS" "Lcom/example/kaiten_draft/kaitendraft/cards/Card;").before a0 Z = true := hw _ (List.mem_of_getElem? (i := 72) rfl)
theorem w_73 {a0 : Array Value} {Z : State} (hw : ∀ d ∈ tables_1, d.before a0 Z = true) : (Jvm.Cond.laysStatic "com/example/kaiten_draft/kaitendraft/cards/Card" "CHOPSTICKS" "Lcom/example/kaiten_draft/kaitendraft/cards/Card;").before a0 Z = true := hw _ (List.mem_of_getElem? (i := 73) rfl)
theorem w_74 {a0 : Array Value} {Z : State} (hw : ∀ d ∈ tables_1, d.before a0 Z = true) : (Jvm.Cond.fieldLink "com/example/kaiten_draft/kaitendraft/table/HandAppendPinLaw" (14 : Nat) "com/example/kaiten_draft/kaitendraft/cards/Card" "SASHIMI" "Lcom/example/kaiten_draft/kaitendraft/cards/Card;").before a0 Z = true := hw _ (List.mem_of_getElem? (i := 74) rfl)
theorem w_75 {a0 : Array Value} {Z : State} (hw : ∀ d ∈ tables_1, d.before a0 Z = true) : (Jvm.Cond.laysStatic "com/example/kaiten_draft/kaitendraft/cards/Card" "SASHIMI" "Lcom/example/kaiten_draft/kaitendraft/cards/Card;").before a0 Z = true := hw _ (List.mem_of_getElem? (i := 75) rfl)
theorem w_76 {a0 : Array Value} {Z : State} (hw : ∀ d ∈ tables_1, d.before a0 Z = true) : (Jvm.Cond.fieldLink "com/example/kaiten_draft/kaitendraft/table/HandAppendPinLaw" (26 : Nat) "com/example/kaiten_draft/kaitendraft/cards/Card" "MAKI3" "Lcom/example/kaiten_draft/kaitendraft/cards/Card;").before a0 Z = true := hw _ (List.mem_of_getElem? (i := 76) rfl)
theorem w_77 {a0 : Array Value} {Z : State} (hw : ∀ d ∈ tables_1, d.before a0 Z = true) : (Jvm.Cond.laysStatic "com/example/kaiten_draft/kaitendraft/cards/Card" "MAKI3" "Lcom/example/kaiten_draft/kaitendraft/cards/Card;").before a0 Z = true := hw _ (List.mem_of_getElem? (i := 77) rfl)
theorem w_78 {a0 : Array Value} {Z : State} (hw : ∀ d ∈ tables_1, d.before a0 Z = true) : (Jvm.Cond.fieldLink "com/example/kaiten_draft/kaitendraft/table/HandAppendPinLaw" (38 : Nat) "com/example/kaiten_draft/kaitendraft/cards/Card" "PUDDING" "Lcom/example/kaiten_draft/kaitendraft/cards/Card;").before a0 Z = true := hw _ (List.mem_of_getElem? (i := 78) rfl)
theorem w_79 {a0 : Array Value} {Z : State} (hw : ∀ d ∈ tables_1, d.before a0 Z = true) : (Jvm.Cond.laysStatic "com/example/kaiten_draft/kaitendraft/cards/Card" "PUDDING" "Lcom/example/kaiten_draft/kaitendraft/cards/Card;").before a0 Z = true := hw _ (List.mem_of_getElem? (i := 79) rfl)
theorem w_80 {a0 : Array Value} {Z : State} (hw : ∀ d ∈ tables_1, d.before a0 Z = true) : (Jvm.Cond.fieldLink "com/example/kaiten_draft/kaitendraft/table/HandAppendPinLaw" (29 : Nat) "com/example/kaiten_draft/kaitendraft/cards/Card" "SALMON" "Lcom/example/kaiten_draft/kaitendraft/cards/Card;").before a0 Z = true := hw _ (List.mem_of_getElem? (i := 80) rfl)
theorem w_81 {a0 : Array Value} {Z : State} (hw : ∀ d ∈ tables_1, d.before a0 Z = true) : (Jvm.Cond.laysStatic "com/example/kaiten_draft/kaitendraft/cards/Card" "SALMON" "Lcom/example/kaiten_draft/kaitendraft/cards/Card;").before a0 Z = true := hw _ (List.mem_of_getElem? (i := 81) rfl)
theorem pn_0 : plainName "java/util/AbstractCollection" = true := by first | (simp [plainName, overriddenIn]; done) | decide +kernel
theorem pn_1 : plainName "java/util/AbstractList" = true := by first | (simp [plainName, overriddenIn]; done) | decide +kernel
theorem pn_2 : plainName "com/example/kaiten_draft/kaitendraft/table/Hand" = true := by first | (simp [plainName, overriddenIn]; done) | decide +kernel
theorem pn_3 : plainName "jdk/internal/util/Preconditions" = true := by first | (simp [plainName, overriddenIn]; done) | decide +kernel
theorem pn_4 : plainName "java/util/Objects" = true := by first | (simp [plainName, overriddenIn]; done) | decide +kernel
theorem pn_5 : plainName "com/example/kaiten_draft/kaitendraft/table/HandAppendPinLaw" = true := by first | (simp [plainName, overriddenIn]; done) | decide +kernel
theorem pd_0 : parseMethodDescriptor "()V" = some ⟨[], none⟩ := by decide +kernel
theorem pd_1 : parseMethodDescriptor "(IILjava/util/function/BiFunction;)I" = some ⟨[.int, .int, (.object "java/util/function/BiFunction")], (some .int)⟩ := by decide +kernel
theorem pd_2 : parseMethodDescriptor "(II)I" = some ⟨[.int, .int], (some .int)⟩ := by decide +kernel
theorem pd_3 : parseMethodDescriptor "(I)Lcom/example/kaiten_draft/kaitendraft/cards/Card;" = some ⟨[.int], (some (.object "com/example/kaiten_draft/kaitendraft/cards/Card"))⟩ := by decide +kernel
theorem pd_4 : parseMethodDescriptor "(I)V" = some ⟨[.int], none⟩ := by decide +kernel
theorem pd_5 : parseMethodDescriptor "(Lcom/example/kaiten_draft/kaitendraft/cards/Card;)V" = some ⟨[(.object "com/example/kaiten_draft/kaitendraft/cards/Card")], none⟩ := by decide +kernel
theorem pd_6 : parseMethodDescriptor "()I" = some ⟨[], (some .int)⟩ := by decide +kernel
theorem d10_0 : decode jdk_41_method_11_code 0 = .ok (.iload_n 0, 1) := by decide +kernel
theorem d10_1 : decode jdk_41_method_11_code 1 = .ok (.ifCond .lt 8, 3) := by decide +kernel
theorem d10_4 : decode jdk_41_method_11_code 4 = .ok (.iload_n 0, 1) := by decide +kernel
theorem d10_5 : decode jdk_41_method_11_code 5 = .ok (.iload_n 1, 1) := by decide +kernel
theorem d10_6 : decode jdk_41_method_11_code 6 = .ok (.if_icmp .lt 10, 3) := by decide +kernel
theorem d10_16 : decode jdk_41_method_11_code 16 = .ok (.iload_n 0, 1) := by decide +kernel
theorem d10_17 : decode jdk_41_method_11_code 17 = .ok (.ireturn, 1) := by decide +kernel
theorem d1_0 : decode method_2_code 0 = .ok (.iload_n 0, 1) := by decide +kernel
theorem d1_1 : decode method_2_code 1 = .ok (.ldc 7, 2) := by decide +kernel
theorem d1_3 : decode method_2_code 3 = .ok (.iand, 1) := by decide +kernel
theorem d1_4 : decode method_2_code 4 = .ok (.bipush 12, 2) := by decide +kernel
theorem d1_6 : decode method_2_code 6 = .ok (.irem, 1) := by decide +kernel
theorem d1_7 : decode method_2_code 7 = .ok (.istore_n 1, 1) := by decide +kernel
theorem d1_8 : decode method_2_code 8 = .ok (.iload_n 1, 1) := by decide +kernel
theorem d1_9 : decode method_2_code 9 = .ok (.ifCond .ne 7, 3) := by decide +kernel
theorem d1_12 : decode method_2_code 12 = .ok (.getstatic 8, 3) := by decide +kernel
theorem d1_15 : decode method_2_code 15 = .ok (.areturn, 1) := by decide +kernel
theorem d1_16 : decode method_2_code 16 = .ok (.iload_n 1, 1) := by decide +kernel
theorem d1_17 : decode method_2_code 17 = .ok (.iconst 1, 1) := by decide +kernel
theorem d1_18 : decode method_2_code 18 = .ok (.if_icmp .ne 7, 3) := by decide +kernel
theorem d1_21 : decode method_2_code 21 = .ok (.getstatic 14, 3) := by decide +kernel
theorem d1_24 : decode method_2_code 24 = .ok (.areturn, 1) := by decide +kernel
theorem d1_25 : decode method_2_code 25 = .ok (.iload_n 1, 1) := by decide +kernel
theorem d1_26 : decode method_2_code 26 = .ok (.iconst 2, 1) := by decide +kernel
theorem d1_27 : decode method_2_code 27 = .ok (.if_icmp .ne 7, 3) := by decide +kernel
theorem d1_30 : decode method_2_code 30 = .ok (.getstatic 17, 3) := by decide +kernel
theorem d1_33 : decode method_2_code 33 = .ok (.areturn, 1) := by decide +kernel
theorem d1_34 : decode method_2_code 34 = .ok (.iload_n 1, 1) := by decide +kernel
theorem d1_35 : decode method_2_code 35 = .ok (.iconst 3, 1) := by decide +kernel
theorem d1_36 : decode method_2_code 36 = .ok (.if_icmp .ne 7, 3) := by decide +kernel
theorem d1_39 : decode method_2_code 39 = .ok (.getstatic 20, 3) := by decide +kernel
theorem d1_42 : decode method_2_code 42 = .ok (.areturn, 1) := by decide +kernel
theorem d1_43 : decode method_2_code 43 = .ok (.iload_n 1, 1) := by decide +kernel
theorem d1_44 : decode method_2_code 44 = .ok (.iconst 4, 1) := by decide +kernel
theorem d1_45 : decode method_2_code 45 = .ok (.if_icmp .ne 7, 3) := by decide +kernel
theorem d1_48 : decode method_2_code 48 = .ok (.getstatic 23, 3) := by decide +kernel
theorem d1_51 : decode method_2_code 51 = .ok (.areturn, 1) := by decide +kernel
theorem d1_52 : decode method_2_code 52 = .ok (.iload_n 1, 1) := by decide +kernel
theorem d1_53 : decode method_2_code 53 = .ok (.iconst 5, 1) := by decide +kernel
theorem d1_54 : decode method_2_code 54 = .ok (.if_icmp .ne 7, 3) := by decide +kernel
theorem d1_57 : decode method_2_code 57 = .ok (.getstatic 26, 3) := by decide +kernel
theorem d1_60 : decode method_2_code 60 = .ok (.areturn, 1) := by decide +kernel
theorem d1_61 : decode method_2_code 61 = .ok (.iload_n 1, 1) := by decide +kernel
theorem d1_62 : decode method_2_code 62 = .ok (.bipush 6, 2) := by decide +kernel
theorem d1_64 : decode method_2_code 64 = .ok (.if_icmp .ne 7, 3) := by decide +kernel
theorem d1_67 : decode method_2_code 67 = .ok (.getstatic 29, 3) := by decide +kernel
theorem d1_70 : decode method_2_code 70 = .ok (.areturn, 1) := by decide +kernel
theorem d1_71 : decode method_2_code 71 = .ok (.iload_n 1, 1) := by decide +kernel
theorem d1_72 : decode method_2_code 72 = .ok (.bipush 7, 2) := by decide +kernel
theorem d1_74 : decode method_2_code 74 = .ok (.if_icmp .ne 7, 3) := by decide +kernel
theorem d1_77 : decode method_2_code 77 = .ok (.getstatic 32, 3) := by decide +kernel
theorem d1_80 : decode method_2_code 80 = .ok (.areturn, 1) := by decide +kernel
theorem d1_81 : decode method_2_code 81 = .ok (.iload_n 1, 1) := by decide +kernel
theorem d1_82 : decode method_2_code 82 = .ok (.bipush 8, 2) := by decide +kernel
theorem d1_84 : decode method_2_code 84 = .ok (.if_icmp .ne 7, 3) := by decide +kernel
theorem d1_87 : decode method_2_code 87 = .ok (.getstatic 35, 3) := by decide +kernel
theorem d1_90 : decode method_2_code 90 = .ok (.areturn, 1) := by decide +kernel
theorem d1_91 : decode method_2_code 91 = .ok (.iload_n 1, 1) := by decide +kernel
theorem d1_92 : decode method_2_code 92 = .ok (.bipush 9, 2) := by decide +kernel
theorem d1_94 : decode method_2_code 94 = .ok (.if_icmp .ne 7, 3) := by decide +kernel
theorem d1_97 : decode method_2_code 97 = .ok (.getstatic 38, 3) := by decide +kernel
theorem d1_100 : decode method_2_code 100 = .ok (.areturn, 1) := by decide +kernel
theorem d1_101 : decode method_2_code 101 = .ok (.iload_n 1, 1) := by decide +kernel
theorem d1_102 : decode method_2_code 102 = .ok (.bipush 10, 2) := by decide +kernel
theorem d1_104 : decode method_2_code 104 = .ok (.if_icmp .ne 7, 3) := by decide +kernel
theorem d1_107 : decode method_2_code 107 = .ok (.getstatic 41, 3) := by decide +kernel
theorem d1_110 : decode method_2_code 110 = .ok (.areturn, 1) := by decide +kernel
theorem d1_111 : decode method_2_code 111 = .ok (.getstatic 44, 3) := by decide +kernel
theorem d1_114 : decode method_2_code 114 = .ok (.areturn, 1) := by decide +kernel
theorem d2_0 : decode prog_36_method_1_code 0 = .ok (.aload_n 0, 1) := by decide +kernel
theorem d2_1 : decode prog_36_method_1_code 1 = .ok (.invokespecial 1, 3) := by decide +kernel
theorem d2_4 : decode prog_36_method_1_code 4 = .ok (.aload_n 0, 1) := by decide +kernel
theorem d2_5 : decode prog_36_method_1_code 5 = .ok (.iload_n 1, 1) := by decide +kernel
theorem d2_6 : decode prog_36_method_1_code 6 = .ok (.anewarray 7, 3) := by decide +kernel
theorem d2_9 : decode prog_36_method_1_code 9 = .ok (.putfield 9, 3) := by decide +kernel
theorem d2_12 : decode prog_36_method_1_code 12 = .ok (.return_, 1) := by decide +kernel
theorem d3_0 : decode jdk_39_method_1_code 0 = .ok (.aload_n 0, 1) := by decide +kernel
theorem d3_1 : decode jdk_39_method_1_code 1 = .ok (.invokespecial 1, 3) := by decide +kernel
theorem d3_4 : decode jdk_39_method_1_code 4 = .ok (.aload_n 0, 1) := by decide +kernel
theorem d3_5 : decode jdk_39_method_1_code 5 = .ok (.iconst 0, 1) := by decide +kernel
theorem d3_6 : decode jdk_39_method_1_code 6 = .ok (.putfield 7, 3) := by decide +kernel
theorem d3_9 : decode jdk_39_method_1_code 9 = .ok (.return_, 1) := by decide +kernel
theorem d4_0 : decode jdk_22_method_1_code 0 = .ok (.aload_n 0, 1) := by decide +kernel
theorem d4_1 : decode jdk_22_method_1_code 1 = .ok (.invokespecial 1, 3) := by decide +kernel
theorem d4_4 : decode jdk_22_method_1_code 4 = .ok (.return_, 1) := by decide +kernel
theorem d6_0 : decode prog_36_method_4_code 0 = .ok (.aload_n 0, 1) := by decide +kernel
theorem d6_1 : decode prog_36_method_4_code 1 = .ok (.getfield 9, 3) := by decide +kernel
theorem d6_4 : decode prog_36_method_4_code 4 = .ok (.aload_n 0, 1) := by decide +kernel
theorem d6_5 : decode prog_36_method_4_code 5 = .ok (.dup, 1) := by decide +kernel
theorem d6_6 : decode prog_36_method_4_code 6 = .ok (.getfield 15, 3) := by decide +kernel
theorem d6_9 : decode prog_36_method_4_code 9 = .ok (.dup_x1, 1) := by decide +kernel
theorem d6_10 : decode prog_36_method_4_code 10 = .ok (.iconst 1, 1) := by decide +kernel
theorem d6_11 : decode prog_36_method_4_code 11 = .ok (.iadd, 1) := by decide +kernel
theorem d6_12 : decode prog_36_method_4_code 12 = .ok (.putfield 15, 3) := by decide +kernel
theorem d6_15 : decode prog_36_method_4_code 15 = .ok (.aload_n 1, 1) := by decide +kernel
theorem d6_16 : decode prog_36_method_4_code 16 = .ok (.aastore, 1) := by decide +kernel
theorem d6_17 : decode prog_36_method_4_code 17 = .ok (.return_, 1) := by decide +kernel
theorem d7_0 : decode prog_36_method_3_code 0 = .ok (.aload_n 0, 1) := by decide +kernel
theorem d7_1 : decode prog_36_method_3_code 1 = .ok (.getfield 15, 3) := by decide +kernel
theorem d7_4 : decode prog_36_method_3_code 4 = .ok (.ireturn, 1) := by decide +kernel
theorem d8_0 : decode prog_36_method_2_code 0 = .ok (.iload_n 1, 1) := by decide +kernel
theorem d8_1 : decode prog_36_method_2_code 1 = .ok (.aload_n 0, 1) := by decide +kernel
theorem d8_2 : decode prog_36_method_2_code 2 = .ok (.getfield 15, 3) := by decide +kernel
theorem d8_5 : decode prog_36_method_2_code 5 = .ok (.invokestatic 19, 3) := by decide +kernel
theorem d8_8 : decode prog_36_method_2_code 8 = .ok (.pop, 1) := by decide +kernel
theorem d8_9 : decode prog_36_method_2_code 9 = .ok (.aload_n 0, 1) := by decide +kernel
theorem d8_10 : decode prog_36_method_2_code 10 = .ok (.getfield 9, 3) := by decide +kernel
theorem d8_13 : decode prog_36_method_2_code 13 = .ok (.iload_n 1, 1) := by decide +kernel
theorem d8_14 : decode prog_36_method_2_code 14 = .ok (.aaload, 1) := by decide +kernel
theorem d8_15 : decode prog_36_method_2_code 15 = .ok (.areturn, 1) := by decide +kernel
theorem d9_0 : decode jdk_31_method_17_code 0 = .ok (.iload_n 0, 1) := by decide +kernel
theorem d9_1 : decode jdk_31_method_17_code 1 = .ok (.iload_n 1, 1) := by decide +kernel
theorem d9_2 : decode jdk_31_method_17_code 2 = .ok (.aconst_null, 1) := by decide +kernel
theorem d9_3 : decode jdk_31_method_17_code 3 = .ok (.invokestatic 105, 3) := by decide +kernel
theorem d9_6 : decode jdk_31_method_17_code 6 = .ok (.ireturn, 1) := by decide +kernel
theorem own_hit3 {j : Nat} {v : Value} {c : Cell} (S : 3 ≤ c.slots.size) (hj : j < 3) : (c.setSlot j v).slots[j]? = some v := by
  simp [Cell.setSlot, Nat.lt_of_lt_of_le hj S]
theorem own_miss3 {sl j : Nat} {v w : Value} {c : Cell} (hj : sl ≠ j) (e : c.slots[j]? = some w) : (c.setSlot sl v).slots[j]? = some w := by
  rw [← e]; exact Array.getElem?_setIfInBounds_ne hj
theorem own_sz3 {j : Nat} {v : Value} {c : Cell} (S : 3 ≤ c.slots.size) : 3 ≤ (c.setSlot j v).slots.size := by rw [sz_set]; exact S
theorem own_in3 {j : Int32} {c : Cell} (S : 3 ≤ c.slots.size) (h1 : ¬ j < 0) (h2 : j.toNatClampNeg < 3) : ¬ (j < 0 ∨ c.slots.size ≤ j.toNatClampNeg) := fun q => q.elim h1 fun z => by omega
theorem own_n10 (x : Int32) : 3 ≤ ((3 : Int32) + (x &&& (7 : Int32))).toInt ∧ ((3 : Int32) + (x &&& (7 : Int32))).toInt ≤ 10 := by
  have h := c_and x 7 (by decide)
  have e : (7 : Int32).toInt = 7 := by decide
  have e1 : (3 : Int32).toInt = 3 := by decide
  have c := c_iadd 3 (x &&& 7)
  have r := rng32 (3 + (x &&& 7))
  omega
theorem own_h (x : Int32) : ¬ ((3 : Int32) + (x &&& (7 : Int32))) < 0 ∧ 3 ≤ ((3 : Int32) + (x &&& (7 : Int32))).toNatClampNeg ∧ ((3 : Int32) + (x &&& (7 : Int32))).toNatClampNeg ≤ 10 := by
  have q := own_n10 x
  simp only [Int32.lt_iff_toInt_lt, Int32.reduceToInt, Int32.toNatClampNeg]; omega
def OwnF (Z : State) (h : Heap) (a_TEMPURA a_MAKI1 a_DUMPLING a_MAKI2 a_SQUID a_EGG a_WASABI a_CHOPSTICKS a_SASHIMI a_MAKI3 a_PUDDING a_SALMON : Addr) : Prop := (Sta Z h "com/example/kaiten_draft/kaitendraft/cards/Card" "TEMPURA" "Lcom/example/kaiten_draft/kaitendraft/cards/Card;" (.ref a_TEMPURA)) ∧ (Exa Z h a_TEMPURA "com/example/kaiten_draft/kaitendraft/cards/Card") ∧ (Sta Z h "com/example/kaiten_draft/kaitendraft/cards/Card" "MAKI1" "Lcom/example/kaiten_draft/kaitendraft/cards/Card;" (.ref a_MAKI1)) ∧ (Exa Z h a_MAKI1 "com/example/kaiten_draft/kaitendraft/cards/Card") ∧ (Sta Z h "com/example/kaiten_draft/kaitendraft/cards/Card" "DUMPLING" "Lcom/example/kaiten_draft/kaitendraft/cards/Card;" (.ref a_DUMPLING)) ∧ (Exa Z h a_DUMPLING "com/example/kaiten_draft/kaitendraft/cards/Card") ∧ (Sta Z h "com/example/kaiten_draft/kaitendraft/cards/Card" "MAKI2" "Lcom/example/kaiten_draft/kaitendraft/cards/Card;" (.ref a_MAKI2)) ∧ (Exa Z h a_MAKI2 "com/example/kaiten_draft/kaitendraft/cards/Card") ∧ (Sta Z h "com/example/kaiten_draft/kaitendraft/cards/Card" "SQUID" "Lcom/example/kaiten_draft/kaitendraft/cards/Card;" (.ref a_SQUID)) ∧ (Exa Z h a_SQUID "com/example/kaiten_draft/kaitendraft/cards/Card") ∧ (Sta Z h "com/example/kaiten_draft/kaitendraft/cards/Card" "EGG" "Lcom/example/kaiten_draft/kaitendraft/cards/Card;" (.ref a_EGG)) ∧ (Exa Z h a_EGG "com/example/kaiten_draft/kaitendraft/cards/Card") ∧ (Sta Z h "com/example/kaiten_draft/kaitendraft/cards/Card" "WASABI" "Lcom/example/kaiten_draft/kaitendraft/cards/Card;" (.ref a_WASABI)) ∧ (Exa Z h a_WASABI "com/example/kaiten_draft/kaitendraft/cards/Card") ∧ (Sta Z h "com/example/kaiten_draft/kaitendraft/cards/Card" "CHOPSTICKS" "Lcom/example/kaiten_draft/kaitendraft/cards/Card;" (.ref a_CHOPSTICKS)) ∧ (Exa Z h a_CHOPSTICKS "com/example/kaiten_draft/kaitendraft/cards/Card") ∧ (Sta Z h "com/example/kaiten_draft/kaitendraft/cards/Card" "SASHIMI" "Lcom/example/kaiten_draft/kaitendraft/cards/Card;" (.ref a_SASHIMI)) ∧ (Exa Z h a_SASHIMI "com/example/kaiten_draft/kaitendraft/cards/Card") ∧ (Sta Z h "com/example/kaiten_draft/kaitendraft/cards/Card" "MAKI3" "Lcom/example/kaiten_draft/kaitendraft/cards/Card;" (.ref a_MAKI3)) ∧ (Exa Z h a_MAKI3 "com/example/kaiten_draft/kaitendraft/cards/Card") ∧ (Sta Z h "com/example/kaiten_draft/kaitendraft/cards/Card" "PUDDING" "Lcom/example/kaiten_draft/kaitendraft/cards/Card;" (.ref a_PUDDING)) ∧ (Exa Z h a_PUDDING "com/example/kaiten_draft/kaitendraft/cards/Card") ∧ (Sta Z h "com/example/kaiten_draft/kaitendraft/cards/Card" "SALMON" "Lcom/example/kaiten_draft/kaitendraft/cards/Card;" (.ref a_SALMON)) ∧ (Exa Z h a_SALMON "com/example/kaiten_draft/kaitendraft/cards/Card")
theorem OwnF.s_TEMPURA {Z : State} {h : Heap} {a_TEMPURA a_MAKI1 a_DUMPLING a_MAKI2 a_SQUID a_EGG a_WASABI a_CHOPSTICKS a_SASHIMI a_MAKI3 a_PUDDING a_SALMON : Addr} (F : OwnF Z h a_TEMPURA a_MAKI1 a_DUMPLING a_MAKI2 a_SQUID a_EGG a_WASABI a_CHOPSTICKS a_SASHIMI a_MAKI3 a_PUDDING a_SALMON) : Sta Z h "com/example/kaiten_draft/kaitendraft/cards/Card" "TEMPURA" "Lcom/example/kaiten_draft/kaitendraft/cards/Card;" (.ref a_TEMPURA) := F.1
theorem OwnF.x_TEMPURA {Z : State} {h : Heap} {a_TEMPURA a_MAKI1 a_DUMPLING a_MAKI2 a_SQUID a_EGG a_WASABI a_CHOPSTICKS a_SASHIMI a_MAKI3 a_PUDDING a_SALMON : Addr} (F : OwnF Z h a_TEMPURA a_MAKI1 a_DUMPLING a_MAKI2 a_SQUID a_EGG a_WASABI a_CHOPSTICKS a_SASHIMI a_MAKI3 a_PUDDING a_SALMON) : Exa Z h a_TEMPURA "com/example/kaiten_draft/kaitendraft/cards/Card" := F.2.1
theorem OwnF.s_MAKI1 {Z : State} {h : Heap} {a_TEMPURA a_MAKI1 a_DUMPLING a_MAKI2 a_SQUID a_EGG a_WASABI a_CHOPSTICKS a_SASHIMI a_MAKI3 a_PUDDING a_SALMON : Addr} (F : OwnF Z h a_TEMPURA a_MAKI1 a_DUMPLING a_MAKI2 a_SQUID a_EGG a_WASABI a_CHOPSTICKS a_SASHIMI a_MAKI3 a_PUDDING a_SALMON) : Sta Z h "com/example/kaiten_draft/kaitendraft/cards/Card" "MAKI1" "Lcom/example/kaiten_draft/kaitendraft/cards/Card;" (.ref a_MAKI1) := F.2.2.1
theorem OwnF.x_MAKI1 {Z : State} {h : Heap} {a_TEMPURA a_MAKI1 a_DUMPLING a_MAKI2 a_SQUID a_EGG a_WASABI a_CHOPSTICKS a_SASHIMI a_MAKI3 a_PUDDING a_SALMON : Addr} (F : OwnF Z h a_TEMPURA a_MAKI1 a_DUMPLING a_MAKI2 a_SQUID a_EGG a_WASABI a_CHOPSTICKS a_SASHIMI a_MAKI3 a_PUDDING a_SALMON) : Exa Z h a_MAKI1 "com/example/kaiten_draft/kaitendraft/cards/Card" := F.2.2.2.1
theorem OwnF.s_DUMPLING {Z : State} {h : Heap} {a_TEMPURA a_MAKI1 a_DUMPLING a_MAKI2 a_SQUID a_EGG a_WASABI a_CHOPSTICKS a_SASHIMI a_MAKI3 a_PUDDING a_SALMON : Addr} (F : OwnF Z h a_TEMPURA a_MAKI1 a_DUMPLING a_MAKI2 a_SQUID a_EGG a_WASABI a_CHOPSTICKS a_SASHIMI a_MAKI3 a_PUDDING a_SALMON) : Sta Z h "com/example/kaiten_draft/kaitendraft/cards/Card" "DUMPLING" "Lcom/example/kaiten_draft/kaitendraft/cards/Card;" (.ref a_DUMPLING) := F.2.2.2.2.1
theorem OwnF.x_DUMPLING {Z : State} {h : Heap} {a_TEMPURA a_MAKI1 a_DUMPLING a_MAKI2 a_SQUID a_EGG a_WASABI a_CHOPSTICKS a_SASHIMI a_MAKI3 a_PUDDING a_SALMON : Addr} (F : OwnF Z h a_TEMPURA a_MAKI1 a_DUMPLING a_MAKI2 a_SQUID a_EGG a_WASABI a_CHOPSTICKS a_SASHIMI a_MAKI3 a_PUDDING a_SALMON) : Exa Z h a_DUMPLING "com/example/kaiten_draft/kaitendraft/cards/Card" := F.2.2.2.2.2.1
theorem OwnF.s_MAKI2 {Z : State} {h : Heap} {a_TEMPURA a_MAKI1 a_DUMPLING a_MAKI2 a_SQUID a_EGG a_WASABI a_CHOPSTICKS a_SASHIMI a_MAKI3 a_PUDDING a_SALMON : Addr} (F : OwnF Z h a_TEMPURA a_MAKI1 a_DUMPLING a_MAKI2 a_SQUID a_EGG a_WASABI a_CHOPSTICKS a_SASHIMI a_MAKI3 a_PUDDING a_SALMON) : Sta Z h "com/example/kaiten_draft/kaitendraft/cards/Card" "MAKI2" "Lcom/example/kaiten_draft/kaitendraft/cards/Card;" (.ref a_MAKI2) := F.2.2.2.2.2.2.1
theorem OwnF.x_MAKI2 {Z : State} {h : Heap} {a_TEMPURA a_MAKI1 a_DUMPLING a_MAKI2 a_SQUID a_EGG a_WASABI a_CHOPSTICKS a_SASHIMI a_MAKI3 a_PUDDING a_SALMON : Addr} (F : OwnF Z h a_TEMPURA a_MAKI1 a_DUMPLING a_MAKI2 a_SQUID a_EGG a_WASABI a_CHOPSTICKS a_SASHIMI a_MAKI3 a_PUDDING a_SALMON) : Exa Z h a_MAKI2 "com/example/kaiten_draft/kaitendraft/cards/Card" := F.2.2.2.2.2.2.2.1
theorem OwnF.s_SQUID {Z : State} {h : Heap} {a_TEMPURA a_MAKI1 a_DUMPLING a_MAKI2 a_SQUID a_EGG a_WASABI a_CHOPSTICKS a_SASHIMI a_MAKI3 a_PUDDING a_SALMON : Addr} (F : OwnF Z h a_TEMPURA a_MAKI1 a_DUMPLING a_MAKI2 a_SQUID a_EGG a_WASABI a_CHOPSTICKS a_SASHIMI a_MAKI3 a_PUDDING a_SALMON) : Sta Z h "com/example/kaiten_draft/kaitendraft/cards/Card" "SQUID" "Lcom/example/kaiten_draft/kaitendraft/cards/Card;" (.ref a_SQUID) := F.2.2.2.2.2.2.2.2.1
theorem OwnF.x_SQUID {Z : State} {h : Heap} {a_TEMPURA a_MAKI1 a_DUMPLING a_MAKI2 a_SQUID a_EGG a_WASABI a_CHOPSTICKS a_SASHIMI a_MAKI3 a_PUDDING a_SALMON : Addr} (F : OwnF Z h a_TEMPURA a_MAKI1 a_DUMPLING a_MAKI2 a_SQUID a_EGG a_WASABI a_CHOPSTICKS a_SASHIMI a_MAKI3 a_PUDDING a_SALMON) : Exa Z h a_SQUID "com/example/kaiten_draft/kaitendraft/cards/Card" := F.2.2.2.2.2.2.2.2.2.1
theorem OwnF.s_EGG {Z : State} {h : Heap} {a_TEMPURA a_MAKI1 a_DUMPLING a_MAKI2 a_SQUID a_EGG a_WASABI a_CHOPSTICKS a_SASHIMI a_MAKI3 a_PUDDING a_SALMON : Addr} (F : OwnF Z h a_TEMPURA a_MAKI1 a_DUMPLING a_MAKI2 a_SQUID a_EGG a_WASABI a_CHOPSTICKS a_SASHIMI a_MAKI3 a_PUDDING a_SALMON) : Sta Z h "com/example/kaiten_draft/kaitendraft/cards/Card" "EGG" "Lcom/example/kaiten_draft/kaitendraft/cards/Card;" (.ref a_EGG) := F.2.2.2.2.2.2.2.2.2.2.1
theorem OwnF.x_EGG {Z : State} {h : Heap} {a_TEMPURA a_MAKI1 a_DUMPLING a_MAKI2 a_SQUID a_EGG a_WASABI a_CHOPSTICKS a_SASHIMI a_MAKI3 a_PUDDING a_SALMON : Addr} (F : OwnF Z h a_TEMPURA a_MAKI1 a_DUMPLING a_MAKI2 a_SQUID a_EGG a_WASABI a_CHOPSTICKS a_SASHIMI a_MAKI3 a_PUDDING a_SALMON) : Exa Z h a_EGG "com/example/kaiten_draft/kaitendraft/cards/Card" := F.2.2.2.2.2.2.2.2.2.2.2.1
theorem OwnF.s_WASABI {Z : State} {h : Heap} {a_TEMPURA a_MAKI1 a_DUMPLING a_MAKI2 a_SQUID a_EGG a_WASABI a_CHOPSTICKS a_SASHIMI a_MAKI3 a_PUDDING a_SALMON : Addr} (F : OwnF Z h a_TEMPURA a_MAKI1 a_DUMPLING a_MAKI2 a_SQUID a_EGG a_WASABI a_CHOPSTICKS a_SASHIMI a_MAKI3 a_PUDDING a_SALMON) : Sta Z h "com/example/kaiten_draft/kaitendraft/cards/Card" "WASABI" "Lcom/example/kaiten_draft/kaitendraft/cards/Card;" (.ref a_WASABI) := F.2.2.2.2.2.2.2.2.2.2.2.2.1
theorem OwnF.x_WASABI {Z : State} {h : Heap} {a_TEMPURA a_MAKI1 a_DUMPLING a_MAKI2 a_SQUID a_EGG a_WASABI a_CHOPSTICKS a_SASHIMI a_MAKI3 a_PUDDING a_SALMON : Addr} (F : OwnF Z h a_TEMPURA a_MAKI1 a_DUMPLING a_MAKI2 a_SQUID a_EGG a_WASABI a_CHOPSTICKS a_SASHIMI a_MAKI3 a_PUDDING a_SALMON) : Exa Z h a_WASABI "com/example/kaiten_draft/kaitendraft/cards/Card" := F.2.2.2.2.2.2.2.2.2.2.2.2.2.1
theorem OwnF.s_CHOPSTICKS {Z : State} {h : Heap} {a_TEMPURA a_MAKI1 a_DUMPLING a_MAKI2 a_SQUID a_EGG a_WASABI a_CHOPSTICKS a_SASHIMI a_MAKI3 a_PUDDING a_SALMON : Addr} (F : OwnF Z h a_TEMPURA a_MAKI1 a_DUMPLING a_MAKI2 a_SQUID a_EGG a_WASABI a_CHOPSTICKS a_SASHIMI a_MAKI3 a_PUDDING a_SALMON) : Sta Z h "com/example/kaiten_draft/kaitendraft/cards/Card" "CHOPSTICKS" "Lcom/example/kaiten_draft/kaitendraft/cards/Card;" (.ref a_CHOPSTICKS) := F.2.2.2.2.2.2.2.2.2.2.2.2.2.2.1
theorem OwnF.x_CHOPSTICKS {Z : State} {h : Heap} {a_TEMPURA a_MAKI1 a_DUMPLING a_MAKI2 a_SQUID a_EGG a_WASABI a_CHOPSTICKS a_SASHIMI a_MAKI3 a_PUDDING a_SALMON : Addr} (F : OwnF Z h a_TEMPURA a_MAKI1 a_DUMPLING a_MAKI2 a_SQUID a_EGG a_WASABI a_CHOPSTICKS a_SASHIMI a_MAKI3 a_PUDDING a_SALMON) : Exa Z h a_CHOPSTICKS "com/example/kaiten_draft/kaitendraft/cards/Card" := F.2.2.2.2.2.2.2.2.2.2.2.2.2.2.2.1
theorem OwnF.s_SASHIMI {Z : State} {h : Heap} {a_TEMPURA a_MAKI1 a_DUMPLING a_MAKI2 a_SQUID a_EGG a_WASABI a_CHOPSTICKS a_SASHIMI a_MAKI3 a_PUDDING a_SALMON : Addr} (F : OwnF Z h a_TEMPURA a_MAKI1 a_DUMPLING a_MAKI2 a_SQUID a_EGG a_WASABI a_CHOPSTICKS a_SASHIMI a_MAKI3 a_PUDDING a_SALMON) : Sta Z h "com/example/kaiten_draft/kaitendraft/cards/Card" "SASHIMI" "Lcom/example/kaiten_draft/kaitendraft/cards/Card;" (.ref a_SASHIMI) := F.2.2.2.2.2.2.2.2.2.2.2.2.2.2.2.2.1
theorem OwnF.x_SASHIMI {Z : State} {h : Heap} {a_TEMPURA a_MAKI1 a_DUMPLING a_MAKI2 a_SQUID a_EGG a_WASABI a_CHOPSTICKS a_SASHIMI a_MAKI3 a_PUDDING a_SALMON : Addr} (F : OwnF Z h a_TEMPURA a_MAKI1 a_DUMPLING a_MAKI2 a_SQUID a_EGG a_WASABI a_CHOPSTICKS a_SASHIMI a_MAKI3 a_PUDDING a_SALMON) : Exa Z h a_SASHIMI "com/example/kaiten_draft/kaitendraft/cards/Card" := F.2.2.2.2.2.2.2.2.2.2.2.2.2.2.2.2.2.1
theorem OwnF.s_MAKI3 {Z : State} {h : Heap} {a_TEMPURA a_MAKI1 a_DUMPLING a_MAKI2 a_SQUID a_EGG a_WASABI a_CHOPSTICKS a_SASHIMI a_MAKI3 a_PUDDING a_SALMON : Addr} (F : OwnF Z h a_TEMPURA a_MAKI1 a_DUMPLING a_MAKI2 a_SQUID a_EGG a_WASABI a_CHOPSTICKS a_SASHIMI a_MAKI3 a_PUDDING a_SALMON) : Sta Z h "com/example/kaiten_draft/kaitendraft/cards/Card" "MAKI3" "Lcom/example/kaiten_draft/kaitendraft/cards/Card;" (.ref a_MAKI3) := F.2.2.2.2.2.2.2.2.2.2.2.2.2.2.2.2.2.2.1
theorem OwnF.x_MAKI3 {Z : State} {h : Heap} {a_TEMPURA a_MAKI1 a_DUMPLING a_MAKI2 a_SQUID a_EGG a_WASABI a_CHOPSTICKS a_SASHIMI a_MAKI3 a_PUDDING a_SALMON : Addr} (F : OwnF Z h a_TEMPURA a_MAKI1 a_DUMPLING a_MAKI2 a_SQUID a_EGG a_WASABI a_CHOPSTICKS a_SASHIMI a_MAKI3 a_PUDDING a_SALMON) : Exa Z h a_MAKI3 "com/example/kaiten_draft/kaitendraft/cards/Card" := F.2.2.2.2.2.2.2.2.2.2.2.2.2.2.2.2.2.2.2.1
theorem OwnF.s_PUDDING {Z : State} {h : Heap} {a_TEMPURA a_MAKI1 a_DUMPLING a_MAKI2 a_SQUID a_EGG a_WASABI a_CHOPSTICKS a_SASHIMI a_MAKI3 a_PUDDING a_SALMON : Addr} (F : OwnF Z h a_TEMPURA a_MAKI1 a_DUMPLING a_MAKI2 a_SQUID a_EGG a_WASABI a_CHOPSTICKS a_SASHIMI a_MAKI3 a_PUDDING a_SALMON) : Sta Z h "com/example/kaiten_draft/kaitendraft/cards/Card" "PUDDING" "Lcom/example/kaiten_draft/kaitendraft/cards/Card;" (.ref a_PUDDING) := F.2.2.2.2.2.2.2.2.2.2.2.2.2.2.2.2.2.2.2.2.1
theorem OwnF.x_PUDDING {Z : State} {h : Heap} {a_TEMPURA a_MAKI1 a_DUMPLING a_MAKI2 a_SQUID a_EGG a_WASABI a_CHOPSTICKS a_SASHIMI a_MAKI3 a_PUDDING a_SALMON : Addr} (F : OwnF Z h a_TEMPURA a_MAKI1 a_DUMPLING a_MAKI2 a_SQUID a_EGG a_WASABI a_CHOPSTICKS a_SASHIMI a_MAKI3 a_PUDDING a_SALMON) : Exa Z h a_PUDDING "com/example/kaiten_draft/kaitendraft/cards/Card" := F.2.2.2.2.2.2.2.2.2.2.2.2.2.2.2.2.2.2.2.2.2.1
theorem OwnF.s_SALMON {Z : State} {h : Heap} {a_TEMPURA a_MAKI1 a_DUMPLING a_MAKI2 a_SQUID a_EGG a_WASABI a_CHOPSTICKS a_SASHIMI a_MAKI3 a_PUDDING a_SALMON : Addr} (F : OwnF Z h a_TEMPURA a_MAKI1 a_DUMPLING a_MAKI2 a_SQUID a_EGG a_WASABI a_CHOPSTICKS a_SASHIMI a_MAKI3 a_PUDDING a_SALMON) : Sta Z h "com/example/kaiten_draft/kaitendraft/cards/Card" "SALMON" "Lcom/example/kaiten_draft/kaitendraft/cards/Card;" (.ref a_SALMON) := F.2.2.2.2.2.2.2.2.2.2.2.2.2.2.2.2.2.2.2.2.2.2.1
theorem OwnF.x_SALMON {Z : State} {h : Heap} {a_TEMPURA a_MAKI1 a_DUMPLING a_MAKI2 a_SQUID a_EGG a_WASABI a_CHOPSTICKS a_SASHIMI a_MAKI3 a_PUDDING a_SALMON : Addr} (F : OwnF Z h a_TEMPURA a_MAKI1 a_DUMPLING a_MAKI2 a_SQUID a_EGG a_WASABI a_CHOPSTICKS a_SASHIMI a_MAKI3 a_PUDDING a_SALMON) : Exa Z h a_SALMON "com/example/kaiten_draft/kaitendraft/cards/Card" := F.2.2.2.2.2.2.2.2.2.2.2.2.2.2.2.2.2.2.2.2.2.2.2
set_option maxRecDepth 65536 in
set_option maxHeartbeats 40000000 in
theorem m_col {l : Launch} {Z : State} {a0 : Array Value} {n0 : Nat} {h : Heap} (hw : ∀ d ∈ tables_1, d.before a0 Z = true) {a : Addr} : Met l Z n0 (⟨"java/util/AbstractCollection", "<init>", "()V"⟩ : MethodName) jdk_22_method_1_code 1 (Option.none : Option Jvm.ClassFile.FieldType) (⟨1, 0, 0, 12⟩ : Room) #[(.ref a)] h (fun v h' => v = none ∧ h' = h) := by
  refine Met.of_wk (ls := #[.val (.ref a)]) (plainFor_of_name pn_0) (fun _ => rfl) ?_
  show Wk l Z n0 "java/util/AbstractCollection" "<init>" jdk_22_method_1_code 1 (Option.none : Option Jvm.ClassFile.FieldType) (⟨1, 0, 0, 12⟩ : Room) 0 0 (fun v h' => v = none ∧ h' = h) h 0 0 0 #[.val (.ref a)] []
  refine Wk.aloadN (q := 1) d4_0 rfl rfl rfl ?_
  refine Wk.initO (q := 4) (W := 0) (w_29 hw) (w_30 hw) (w_31 hw) d4_1 rfl rfl (by decide) rfl (by decide) ?_
  exact Wk.retV rfl d4_4 (by decide) (by decide) ⟨rfl, rfl⟩
set_option maxRecDepth 65536 in
set_option maxHeartbeats 40000000 in
theorem m_al {l : Launch} {Z : State} {a0 : Array Value} {n0 : Nat} {h : Heap} (hw : ∀ d ∈ tables_1, d.before a0 Z = true) {a : Addr} (ge : n0 ≤ a) (x : Exa Z h a "com/example/kaiten_draft/kaitendraft/table/Hand") (f_m : Fld Z h a "java/util/AbstractList" "modCount" "I" (.int (0 : Int32))) (f_c : Fld Z h a "com/example/kaiten_draft/kaitendraft/table/Hand" "cards" "[Lcom/example/kaiten_draft/kaitendraft/cards/Card;" .null) (f_s : Fld Z h a "com/example/kaiten_draft/kaitendraft/table/Hand" "size" "I" (.int (0 : Int32))) : Met l Z n0 (⟨"java/util/AbstractList", "<init>", "()V"⟩ : MethodName) jdk_39_method_1_code 1 (Option.none : Option Jvm.ClassFile.FieldType) (⟨2, 0, 0, 24⟩ : Room) #[(.ref a)] h (fun v h' => v = none ∧ Keep h h' [a] ∧ Exa Z h' a "com/example/kaiten_draft/kaitendraft/table/Hand" ∧ Fld Z h' a "com/example/kaiten_draft/kaitendraft/table/Hand" "cards" "[Lcom/example/kaiten_draft/kaitendraft/cards/Card;" .null ∧ Fld Z h' a "com/example/kaiten_draft/kaitendraft/table/Hand" "size" "I" (.int (0 : Int32))) := by
  refine Met.of_wk (ls := #[.val (.ref a)]) (plainFor_of_name pn_1) (fun _ => rfl) ?_
  show Wk l Z n0 "java/util/AbstractList" "<init>" jdk_39_method_1_code 1 (Option.none : Option Jvm.ClassFile.FieldType) (⟨2, 0, 0, 24⟩ : Room) 0 0 (fun v h' => v = none ∧ Keep h h' [a] ∧ Exa Z h' a "com/example/kaiten_draft/kaitendraft/table/Hand" ∧ Fld Z h' a "com/example/kaiten_draft/kaitendraft/table/Hand" "cards" "[Lcom/example/kaiten_draft/kaitendraft/cards/Card;" .null ∧ Fld Z h' a "com/example/kaiten_draft/kaitendraft/table/Hand" "size" "I" (.int (0 : Int32))) h 0 0 0 #[.val (.ref a)] []
  have K := Keep.refl h [a]
  refine Wk.aloadN (q := 1) d3_0 rfl rfl rfl ?_
  refine Wk.special (q := 4) (a := a) (argsL := []) (rest := []) (rm := (⟨1, 0, 0, 12⟩ : Room)) (Q' := fun h' => h' = h) (m_col hw) rfl (w_23 hw) (w_24 hw) (w_28 hw) (w_27 hw) (by decide) pd_0 rfl rfl rfl d3_1 rfl (W := 0) rfl (by decide) (by decide) (by decide) (by decide) ?_
  rintro h rfl
  refine Wk.aloadN (q := 5) d3_4 rfl rfl rfl ?_
  refine Wk.iconst (q := 6) (v := (0 : Int32)) d3_5 rfl rfl ?_
  refine Wk.putF (q := 9) (w_32 hw) Via.refl f_m x (Or.inl (w_33 hw)) (w_13 hw) (ty := .int) (by decide) rfl rfl d3_6 rfl ge ?_
  intro h2 W2
  have K := K.wr W2 (Or.inl (List.mem_of_getElem? (i := 0) rfl))
  have x := x.wr W2
  have f_c := f_c.other W2 (Or.inr (slot_ne (Or.inr (w_37 hw)) (Or.inl (w_33 hw)) (by decide) (t := (.array (.object "com/example/kaiten_draft/kaitendraft/cards/Card"))) (t' := .int) (by decide) (by decide)))
  have f_s := f_s.other W2 (Or.inr (slot_ne (Or.inl (w_44 hw)) (Or.inl (w_33 hw)) (by decide) (t := .int) (t' := .int) (by decide) (by decide)))
  exact Wk.retV rfl d3_9 (by decide) (by decide) ⟨rfl, K, x, f_c, f_s⟩
set_option maxRecDepth 65536 in
set_option maxHeartbeats 40000000 in
theorem m_hand {l : Launch} {Z : State} {a0 : Array Value} {n0 : Nat} {h : Heap} (hw : ∀ d ∈ tables_1, d.before a0 Z = true) {a : Addr} (z0 : Int32) (hz0 : ¬ z0 < 0) (hz1 : 3 ≤ z0.toNatClampNeg) (hz2 : z0.toNatClampNeg ≤ 10) (hn : n0 ≤ h.size) (ge : n0 ≤ a) (x : Exa Z h a "com/example/kaiten_draft/kaitendraft/table/Hand") (f_m : Fld Z h a "java/util/AbstractList" "modCount" "I" (.int (0 : Int32))) (f_c : Fld Z h a "com/example/kaiten_draft/kaitendraft/table/Hand" "cards" "[Lcom/example/kaiten_draft/kaitendraft/cards/Card;" .null) (f_s : Fld Z h a "com/example/kaiten_draft/kaitendraft/table/Hand" "size" "I" (.int (0 : Int32))) : Met l Z n0 (⟨"com/example/kaiten_draft/kaitendraft/table/Hand", "<init>", "(I)V"⟩ : MethodName) prog_36_method_1_code 2 (Option.none : Option Jvm.ClassFile.FieldType) (⟨3, 1, 10, 36⟩ : Room) #[(.ref a), (.int z0)] h (fun v h' => v = none ∧ Keep h h' [a] ∧ Exa Z h' a "com/example/kaiten_draft/kaitendraft/table/Hand" ∧ ∃ b c, Fld Z h' a "com/example/kaiten_draft/kaitendraft/table/Hand" "cards" "[Lcom/example/kaiten_draft/kaitendraft/cards/Card;" (.ref b) ∧ Fld Z h' a "com/example/kaiten_draft/kaitendraft/table/Hand" "size" "I" (.int (0 : Int32)) ∧ Arr Z h' b c (.object "com/example/kaiten_draft/kaitendraft/cards/Card") ∧ 3 ≤ c.slots.size ∧ Ovr Z c.cls "com/example/kaiten_draft/kaitendraft/cards/Card" ∧ n0 ≤ b ∧ b ≠ a) := by
  refine Met.of_wk (ls := #[.val (.ref a), .val (.int z0)]) (plainFor_of_name pn_2) (fun _ => rfl) ?_
  show Wk l Z n0 "com/example/kaiten_draft/kaitendraft/table/Hand" "<init>" prog_36_method_1_code 2 (Option.none : Option Jvm.ClassFile.FieldType) (⟨3, 1, 10, 36⟩ : Room) 1 10 (fun v h' => v = none ∧ Keep h h' [a] ∧ Exa Z h' a "com/example/kaiten_draft/kaitendraft/table/Hand" ∧ ∃ b c, Fld Z h' a "com/example/kaiten_draft/kaitendraft/table/Hand" "cards" "[Lcom/example/kaiten_draft/kaitendraft/cards/Card;" (.ref b) ∧ Fld Z h' a "com/example/kaiten_draft/kaitendraft/table/Hand" "size" "I" (.int (0 : Int32)) ∧ Arr Z h' b c (.object "com/example/kaiten_draft/kaitendraft/cards/Card") ∧ 3 ≤ c.slots.size ∧ Ovr Z c.cls "com/example/kaiten_draft/kaitendraft/cards/Card" ∧ n0 ≤ b ∧ b ≠ a) h 0 0 0 #[.val (.ref a), .val (.int z0)] []
  refine Wk.aloadN (q := 1) d2_0 rfl rfl rfl ?_
  refine Wk.special (q := 4) (a := a) (argsL := []) (rest := []) (rm := (⟨2, 0, 0, 24⟩ : Room)) (Q' := fun h' => Keep h h' [a] ∧ Exa Z h' a "com/example/kaiten_draft/kaitendraft/table/Hand" ∧ Fld Z h' a "com/example/kaiten_draft/kaitendraft/table/Hand" "cards" "[Lcom/example/kaiten_draft/kaitendraft/cards/Card;" .null ∧ Fld Z h' a "com/example/kaiten_draft/kaitendraft/table/Hand" "size" "I" (.int (0 : Int32))) (m_al hw ge x f_m f_c f_s) rfl (w_18 hw) (w_19 hw) (w_22 hw) (w_21 hw) (by decide) pd_0 rfl rfl rfl d2_1 rfl (W := 0) rfl (by decide) (by decide) (by decide) (by decide) ?_
  rintro h1 ⟨K, x, f_c, f_s⟩
  refine Wk.aloadN (q := 5) d2_4 rfl rfl rfl ?_
  refine Wk.iloadN (q := 6) d2_5 rfl rfl ?_
  refine Wk.newR (q := 9) (cap := 10) (w_34 hw) (w_35 hw) d2_6 rfl hz0 hz2 (by decide) (by decide) (by decide) ?_
  intro h2 b cA g2 E2 A V
  have ne : b ≠ a := fun z => absurd x.lt (by rw [← z, g2]; exact Nat.lt_irrefl _)
  have gb : n0 ≤ b := g2 ▸ Nat.le_trans hn K.1
  have K := K.ext E2
  have x := x.ext E2
  have f_c := f_c.ext E2
  have f_s := f_s.ext E2
  have S : 3 ≤ (newA cA (.object "com/example/kaiten_draft/kaitendraft/cards/Card") z0).slots.size := by rw [sz_new]; exact hz1
  refine Wk.putF (q := 12) (w_36 hw) Via.refl f_c x (Or.inr ⟨(w_37 hw), rfl, rfl⟩) (w_13 hw) (ty := (.array (.object "com/example/kaiten_draft/kaitendraft/cards/Card"))) (by decide) rfl rfl d2_9 rfl ge ?_
  intro h3 W3
  have K := K.wr W3 (Or.inl (List.mem_of_getElem? (i := 0) rfl))
  have x := x.wr W3
  have f_c := f_c.same W3
  have f_s := f_s.other W3 (Or.inr (slot_ne (Or.inl (w_44 hw)) (Or.inr (w_37 hw)) (by decide) (t := .int) (t' := (.array (.object "com/example/kaiten_draft/kaitendraft/cards/Card"))) (by decide) (by decide)))
  have A := A.other W3 ne
  exact Wk.retV rfl d2_12 (by decide) (by decide) ⟨rfl, K, x, b, _, f_c, f_s, A, S, V, gb, ne⟩
set_option maxRecDepth 65536 in
set_option maxHeartbeats 40000000 in
theorem m_app0 {l : Launch} {Z : State} {a0 : Array Value} {n0 : Nat} {h : Heap} (hw : ∀ d ∈ tables_1, d.before a0 Z = true) {a b y : Addr} {c : Cell} (ge : n0 ≤ a) (gb : n0 ≤ b) (ne : b ≠ a) (x : Exa Z h a "com/example/kaiten_draft/kaitendraft/table/Hand") (f_c : Fld Z h a "com/example/kaiten_draft/kaitendraft/table/Hand" "cards" "[Lcom/example/kaiten_draft/kaitendraft/cards/Card;" (.ref b)) (f_s : Fld Z h a "com/example/kaiten_draft/kaitendraft/table/Hand" "size" "I" (.int (0 : Int32))) (A : Arr Z h b c (.object "com/example/kaiten_draft/kaitendraft/cards/Card")) (S : 3 ≤ c.slots.size) (V : Ovr Z c.cls "com/example/kaiten_draft/kaitendraft/cards/Card") (xy : Exa Z h y "com/example/kaiten_draft/kaitendraft/cards/Card") : Met l Z n0 (⟨"com/example/kaiten_draft/kaitendraft/table/Hand", "append", "(Lcom/example/kaiten_draft/kaitendraft/cards/Card;)V"⟩ : MethodName) prog_36_method_4_code 2 (Option.none : Option Jvm.ClassFile.FieldType) (⟨0, 0, 0, 0⟩ : Room) #[(.ref a), (.ref y)] h (fun v h' => v = none ∧ Keep h h' [a, b] ∧ Exa Z h' a "com/example/kaiten_draft/kaitendraft/table/Hand" ∧ Fld Z h' a "com/example/kaiten_draft/kaitendraft/table/Hand" "cards" "[Lcom/example/kaiten_draft/kaitendraft/cards/Card;" (.ref b) ∧ Fld Z h' a "com/example/kaiten_draft/kaitendraft/table/Hand" "size" "I" (.int (1 : Int32)) ∧ Arr Z h' b (Cell.setSlot c 0 (.ref y)) (.object "com/example/kaiten_draft/kaitendraft/cards/Card")) := by
  refine Met.of_wk (ls := #[.val (.ref a), .val (.ref y)]) (plainFor_of_name pn_2) (fun _ => rfl) ?_
  show Wk l Z n0 "com/example/kaiten_draft/kaitendraft/table/Hand" "append" prog_36_method_4_code 2 (Option.none : Option Jvm.ClassFile.FieldType) (⟨0, 0, 0, 0⟩ : Room) 0 0 (fun v h' => v = none ∧ Keep h h' [a, b] ∧ Exa Z h' a "com/example/kaiten_draft/kaitendraft/table/Hand" ∧ Fld Z h' a "com/example/kaiten_draft/kaitendraft/table/Hand" "cards" "[Lcom/example/kaiten_draft/kaitendraft/cards/Card;" (.ref b) ∧ Fld Z h' a "com/example/kaiten_draft/kaitendraft/table/Hand" "size" "I" (.int (1 : Int32)) ∧ Arr Z h' b (Cell.setSlot c 0 (.ref y)) (.object "com/example/kaiten_draft/kaitendraft/cards/Card")) h 0 0 0 #[.val (.ref a), .val (.ref y)] []
  have K := Keep.refl h [a, b]
  refine Wk.aloadN (q := 1) d6_0 rfl rfl rfl ?_
  refine Wk.getF (q := 4) (w_36 hw) Via.refl f_c d6_1 rfl ?_
  refine Wk.aloadN (q := 5) d6_4 rfl rfl rfl ?_
  refine Wk.dup (q := 6) d6_5 rfl rfl ?_
  refine Wk.getF (q := 9) (w_43 hw) Via.refl f_s d6_6 rfl ?_
  refine Wk.dupX1 (q := 10) d6_9 rfl rfl rfl ?_
  refine Wk.iconst (q := 11) (v := (1 : Int32)) d6_10 rfl rfl ?_
  refine Wk.iadd (q := 12) (v := (1 : Int32)) d6_11 rfl (by decide) ?_
  refine Wk.putF (q := 15) (w_43 hw) Via.refl f_s x (Or.inl (w_44 hw)) (w_13 hw) (ty := .int) (by decide) rfl rfl d6_12 rfl ge ?_
  intro h2 W2
  have K := K.wr W2 (Or.inl (List.mem_of_getElem? (i := 0) rfl))
  have x := x.wr W2
  have f_c := f_c.other W2 (Or.inr (slot_ne (Or.inr (w_37 hw)) (Or.inl (w_44 hw)) (by decide) (t := (.array (.object "com/example/kaiten_draft/kaitendraft/cards/Card"))) (t' := .int) (by decide) (by decide)))
  have f_s := f_s.same W2
  have A := A.other W2 ne
  have xy := xy.wr W2
  refine Wk.aloadN (q := 16) d6_15 rfl rfl rfl ?_
  refine Wk.stR (q := 17) A (own_in3 S (by decide) (by decide)) rfl (Sto.of A V (Ins.self xy)) rfl d6_16 rfl gb ?_
  intro h3 W3
  have K := K.wr W3 (Or.inl (List.mem_of_getElem? (i := 1) rfl))
  have x := x.wr W3
  have f_c := f_c.other W3 (Or.inl (Ne.symm ne))
  have f_s := f_s.other W3 (Or.inl (Ne.symm ne))
  have A := A.same W3
  exact Wk.retV rfl d6_17 (by decide) (by decide) ⟨rfl, K, x, f_c, f_s, A⟩
set_option maxRecDepth 65536 in
set_option maxHeartbeats 40000000 in
theorem m_app1 {l : Launch} {Z : State} {a0 : Array Value} {n0 : Nat} {h : Heap} (hw : ∀ d ∈ tables_1, d.before a0 Z = true) {a b y : Addr} {c : Cell} (ge : n0 ≤ a) (gb : n0 ≤ b) (ne : b ≠ a) (x : Exa Z h a "com/example/kaiten_draft/kaitendraft/table/Hand") (f_c : Fld Z h a "com/example/kaiten_draft/kaitendraft/table/Hand" "cards" "[Lcom/example/kaiten_draft/kaitendraft/cards/Card;" (.ref b)) (f_s : Fld Z h a "com/example/kaiten_draft/kaitendraft/table/Hand" "size" "I" (.int (1 : Int32))) (A : Arr Z h b c (.object "com/example/kaiten_draft/kaitendraft/cards/Card")) (S : 3 ≤ c.slots.size) (V : Ovr Z c.cls "com/example/kaiten_draft/kaitendraft/cards/Card") (xy : Exa Z h y "com/example/kaiten_draft/kaitendraft/cards/Card") : Met l Z n0 (⟨"com/example/kaiten_draft/kaitendraft/table/Hand", "append", "(Lcom/example/kaiten_draft/kaitendraft/cards/Card;)V"⟩ : MethodName) prog_36_method_4_code 2 (Option.none : Option Jvm.ClassFile.FieldType) (⟨0, 0, 0, 0⟩ : Room) #[(.ref a), (.ref y)] h (fun v h' => v = none ∧ Keep h h' [a, b] ∧ Exa Z h' a "com/example/kaiten_draft/kaitendraft/table/Hand" ∧ Fld Z h' a "com/example/kaiten_draft/kaitendraft/table/Hand" "cards" "[Lcom/example/kaiten_draft/kaitendraft/cards/Card;" (.ref b) ∧ Fld Z h' a "com/example/kaiten_draft/kaitendraft/table/Hand" "size" "I" (.int (2 : Int32)) ∧ Arr Z h' b (Cell.setSlot c 1 (.ref y)) (.object "com/example/kaiten_draft/kaitendraft/cards/Card")) := by
  refine Met.of_wk (ls := #[.val (.ref a), .val (.ref y)]) (plainFor_of_name pn_2) (fun _ => rfl) ?_
  show Wk l Z n0 "com/example/kaiten_draft/kaitendraft/table/Hand" "append" prog_36_method_4_code 2 (Option.none : Option Jvm.ClassFile.FieldType) (⟨0, 0, 0, 0⟩ : Room) 0 0 (fun v h' => v = none ∧ Keep h h' [a, b] ∧ Exa Z h' a "com/example/kaiten_draft/kaitendraft/table/Hand" ∧ Fld Z h' a "com/example/kaiten_draft/kaitendraft/table/Hand" "cards" "[Lcom/example/kaiten_draft/kaitendraft/cards/Card;" (.ref b) ∧ Fld Z h' a "com/example/kaiten_draft/kaitendraft/table/Hand" "size" "I" (.int (2 : Int32)) ∧ Arr Z h' b (Cell.setSlot c 1 (.ref y)) (.object "com/example/kaiten_draft/kaitendraft/cards/Card")) h 0 0 0 #[.val (.ref a), .val (.ref y)] []
  have K := Keep.refl h [a, b]
  refine Wk.aloadN (q := 1) d6_0 rfl rfl rfl ?_
  refine Wk.getF (q := 4) (w_36 hw) Via.refl f_c d6_1 rfl ?_
  refine Wk.aloadN (q := 5) d6_4 rfl rfl rfl ?_
  refine Wk.dup (q := 6) d6_5 rfl rfl ?_
  refine Wk.getF (q := 9) (w_43 hw) Via.refl f_s d6_6 rfl ?_
  refine Wk.dupX1 (q := 10) d6_9 rfl rfl rfl ?_
  refine Wk.iconst (q := 11) (v := (1 : Int32)) d6_10 rfl rfl ?_
  refine Wk.iadd (q := 12) (v := (2 : Int32)) d6_11 rfl (by decide) ?_
  refine Wk.putF (q := 15) (w_43 hw) Via.refl f_s x (Or.inl (w_44 hw)) (w_13 hw) (ty := .int) (by decide) rfl rfl d6_12 rfl ge ?_
  intro h2 W2
  have K := K.wr W2 (Or.inl (List.mem_of_getElem? (i := 0) rfl))
  have x := x.wr W2
  have f_c := f_c.other W2 (Or.inr (slot_ne (Or.inr (w_37 hw)) (Or.inl (w_44 hw)) (by decide) (t := (.array (.object "com/example/kaiten_draft/kaitendraft/cards/Card"))) (t' := .int) (by decide) (by decide)))
  have f_s := f_s.same W2
  have A := A.other W2 ne
  have xy := xy.wr W2
  refine Wk.aloadN (q := 16) d6_15 rfl rfl rfl ?_
  refine Wk.stR (q := 17) A (own_in3 S (by decide) (by decide)) rfl (Sto.of A V (Ins.self xy)) rfl d6_16 rfl gb ?_
  intro h3 W3
  have K := K.wr W3 (Or.inl (List.mem_of_getElem? (i := 1) rfl))
  have x := x.wr W3
  have f_c := f_c.other W3 (Or.inl (Ne.symm ne))
  have f_s := f_s.other W3 (Or.inl (Ne.symm ne))
  have A := A.same W3
  exact Wk.retV rfl d6_17 (by decide) (by decide) ⟨rfl, K, x, f_c, f_s, A⟩
set_option maxRecDepth 65536 in
set_option maxHeartbeats 40000000 in
theorem m_app2 {l : Launch} {Z : State} {a0 : Array Value} {n0 : Nat} {h : Heap} (hw : ∀ d ∈ tables_1, d.before a0 Z = true) {a b y : Addr} {c : Cell} (ge : n0 ≤ a) (gb : n0 ≤ b) (ne : b ≠ a) (x : Exa Z h a "com/example/kaiten_draft/kaitendraft/table/Hand") (f_c : Fld Z h a "com/example/kaiten_draft/kaitendraft/table/Hand" "cards" "[Lcom/example/kaiten_draft/kaitendraft/cards/Card;" (.ref b)) (f_s : Fld Z h a "com/example/kaiten_draft/kaitendraft/table/Hand" "size" "I" (.int (2 : Int32))) (A : Arr Z h b c (.object "com/example/kaiten_draft/kaitendraft/cards/Card")) (S : 3 ≤ c.slots.size) (V : Ovr Z c.cls "com/example/kaiten_draft/kaitendraft/cards/Card") (xy : Exa Z h y "com/example/kaiten_draft/kaitendraft/cards/Card") : Met l Z n0 (⟨"com/example/kaiten_draft/kaitendraft/table/Hand", "append", "(Lcom/example/kaiten_draft/kaitendraft/cards/Card;)V"⟩ : MethodName) prog_36_method_4_code 2 (Option.none : Option Jvm.ClassFile.FieldType) (⟨0, 0, 0, 0⟩ : Room) #[(.ref a), (.ref y)] h (fun v h' => v = none ∧ Keep h h' [a, b] ∧ Exa Z h' a "com/example/kaiten_draft/kaitendraft/table/Hand" ∧ Fld Z h' a "com/example/kaiten_draft/kaitendraft/table/Hand" "cards" "[Lcom/example/kaiten_draft/kaitendraft/cards/Card;" (.ref b) ∧ Fld Z h' a "com/example/kaiten_draft/kaitendraft/table/Hand" "size" "I" (.int (3 : Int32)) ∧ Arr Z h' b (Cell.setSlot c 2 (.ref y)) (.object "com/example/kaiten_draft/kaitendraft/cards/Card")) := by
  refine Met.of_wk (ls := #[.val (.ref a), .val (.ref y)]) (plainFor_of_name pn_2) (fun _ => rfl) ?_
  show Wk l Z n0 "com/example/kaiten_draft/kaitendraft/table/Hand" "append" prog_36_method_4_code 2 (Option.none : Option Jvm.ClassFile.FieldType) (⟨0, 0, 0, 0⟩ : Room) 0 0 (fun v h' => v = none ∧ Keep h h' [a, b] ∧ Exa Z h' a "com/example/kaiten_draft/kaitendraft/table/Hand" ∧ Fld Z h' a "com/example/kaiten_draft/kaitendraft/table/Hand" "cards" "[Lcom/example/kaiten_draft/kaitendraft/cards/Card;" (.ref b) ∧ Fld Z h' a "com/example/kaiten_draft/kaitendraft/table/Hand" "size" "I" (.int (3 : Int32)) ∧ Arr Z h' b (Cell.setSlot c 2 (.ref y)) (.object "com/example/kaiten_draft/kaitendraft/cards/Card")) h 0 0 0 #[.val (.ref a), .val (.ref y)] []
  have K := Keep.refl h [a, b]
  refine Wk.aloadN (q := 1) d6_0 rfl rfl rfl ?_
  refine Wk.getF (q := 4) (w_36 hw) Via.refl f_c d6_1 rfl ?_
  refine Wk.aloadN (q := 5) d6_4 rfl rfl rfl ?_
  refine Wk.dup (q := 6) d6_5 rfl rfl ?_
  refine Wk.getF (q := 9) (w_43 hw) Via.refl f_s d6_6 rfl ?_
  refine Wk.dupX1 (q := 10) d6_9 rfl rfl rfl ?_
  refine Wk.iconst (q := 11) (v := (1 : Int32)) d6_10 rfl rfl ?_
  refine Wk.iadd (q := 12) (v := (3 : Int32)) d6_11 rfl (by decide) ?_
  refine Wk.putF (q := 15) (w_43 hw) Via.refl f_s x (Or.inl (w_44 hw)) (w_13 hw) (ty := .int) (by decide) rfl rfl d6_12 rfl ge ?_
  intro h2 W2
  have K := K.wr W2 (Or.inl (List.mem_of_getElem? (i := 0) rfl))
  have x := x.wr W2
  have f_c := f_c.other W2 (Or.inr (slot_ne (Or.inr (w_37 hw)) (Or.inl (w_44 hw)) (by decide) (t := (.array (.object "com/example/kaiten_draft/kaitendraft/cards/Card"))) (t' := .int) (by decide) (by decide)))
  have f_s := f_s.same W2
  have A := A.other W2 ne
  have xy := xy.wr W2
  refine Wk.aloadN (q := 16) d6_15 rfl rfl rfl ?_
  refine Wk.stR (q := 17) A (own_in3 S (by decide) (by decide)) rfl (Sto.of A V (Ins.self xy)) rfl d6_16 rfl gb ?_
  intro h3 W3
  have K := K.wr W3 (Or.inl (List.mem_of_getElem? (i := 1) rfl))
  have x := x.wr W3
  have f_c := f_c.other W3 (Or.inl (Ne.symm ne))
  have f_s := f_s.other W3 (Or.inl (Ne.symm ne))
  have A := A.same W3
  exact Wk.retV rfl d6_17 (by decide) (by decide) ⟨rfl, K, x, f_c, f_s, A⟩
set_option maxRecDepth 65536 in
set_option maxHeartbeats 40000000 in
theorem m_size1 {l : Launch} {Z : State} {a0 : Array Value} {n0 : Nat} {h : Heap} (hw : ∀ d ∈ tables_1, d.before a0 Z = true) {a : Addr} (f_s : Fld Z h a "com/example/kaiten_draft/kaitendraft/table/Hand" "size" "I" (.int (1 : Int32))) : Met l Z n0 (⟨"com/example/kaiten_draft/kaitendraft/table/Hand", "size", "()I"⟩ : MethodName) prog_36_method_3_code 1 (Option.some Jvm.ClassFile.FieldType.int) (⟨0, 0, 0, 0⟩ : Room) #[(.ref a)] h (fun v h' => v = some (.int (1 : Int32)) ∧ h' = h) := by
  refine Met.of_wk (ls := #[.val (.ref a)]) (plainFor_of_name pn_2) (fun _ => rfl) ?_
  show Wk l Z n0 "com/example/kaiten_draft/kaitendraft/table/Hand" "size" prog_36_method_3_code 1 (Option.some Jvm.ClassFile.FieldType.int) (⟨0, 0, 0, 0⟩ : Room) 0 0 (fun v h' => v = some (.int (1 : Int32)) ∧ h' = h) h 0 0 0 #[.val (.ref a)] []
  refine Wk.aloadN (q := 1) d7_0 rfl rfl rfl ?_
  refine Wk.getF (q := 4) (w_43 hw) Via.refl f_s d7_1 rfl ?_
  exact Wk.retI rfl d7_4 (by decide) (by decide) ⟨rfl, rfl⟩
set_option maxRecDepth 65536 in
set_option maxHeartbeats 40000000 in
theorem m_size2 {l : Launch} {Z : State} {a0 : Array Value} {n0 : Nat} {h : Heap} (hw : ∀ d ∈ tables_1, d.before a0 Z = true) {a : Addr} (f_s : Fld Z h a "com/example/kaiten_draft/kaitendraft/table/Hand" "size" "I" (.int (2 : Int32))) : Met l Z n0 (⟨"com/example/kaiten_draft/kaitendraft/table/Hand", "size", "()I"⟩ : MethodName) prog_36_method_3_code 1 (Option.some Jvm.ClassFile.FieldType.int) (⟨0, 0, 0, 0⟩ : Room) #[(.ref a)] h (fun v h' => v = some (.int (2 : Int32)) ∧ h' = h) := by
  refine Met.of_wk (ls := #[.val (.ref a)]) (plainFor_of_name pn_2) (fun _ => rfl) ?_
  show Wk l Z n0 "com/example/kaiten_draft/kaitendraft/table/Hand" "size" prog_36_method_3_code 1 (Option.some Jvm.ClassFile.FieldType.int) (⟨0, 0, 0, 0⟩ : Room) 0 0 (fun v h' => v = some (.int (2 : Int32)) ∧ h' = h) h 0 0 0 #[.val (.ref a)] []
  refine Wk.aloadN (q := 1) d7_0 rfl rfl rfl ?_
  refine Wk.getF (q := 4) (w_43 hw) Via.refl f_s d7_1 rfl ?_
  exact Wk.retI rfl d7_4 (by decide) (by decide) ⟨rfl, rfl⟩
set_option maxRecDepth 65536 in
set_option maxHeartbeats 40000000 in
theorem m_size3 {l : Launch} {Z : State} {a0 : Array Value} {n0 : Nat} {h : Heap} (hw : ∀ d ∈ tables_1, d.before a0 Z = true) {a : Addr} (f_s : Fld Z h a "com/example/kaiten_draft/kaitendraft/table/Hand" "size" "I" (.int (3 : Int32))) : Met l Z n0 (⟨"com/example/kaiten_draft/kaitendraft/table/Hand", "size", "()I"⟩ : MethodName) prog_36_method_3_code 1 (Option.some Jvm.ClassFile.FieldType.int) (⟨0, 0, 0, 0⟩ : Room) #[(.ref a)] h (fun v h' => v = some (.int (3 : Int32)) ∧ h' = h) := by
  refine Met.of_wk (ls := #[.val (.ref a)]) (plainFor_of_name pn_2) (fun _ => rfl) ?_
  show Wk l Z n0 "com/example/kaiten_draft/kaitendraft/table/Hand" "size" prog_36_method_3_code 1 (Option.some Jvm.ClassFile.FieldType.int) (⟨0, 0, 0, 0⟩ : Room) 0 0 (fun v h' => v = some (.int (3 : Int32)) ∧ h' = h) h 0 0 0 #[.val (.ref a)] []
  refine Wk.aloadN (q := 1) d7_0 rfl rfl rfl ?_
  refine Wk.getF (q := 4) (w_43 hw) Via.refl f_s d7_1 rfl ?_
  exact Wk.retI rfl d7_4 (by decide) (by decide) ⟨rfl, rfl⟩
set_option maxRecDepth 65536 in
set_option maxHeartbeats 40000000 in
theorem m_0 {l : Launch} {Z : State} {a0 : Array Value} {n0 : Nat} {h : Heap} (hw : ∀ d ∈ tables_1, d.before a0 Z = true) : Met l Z n0 (⟨"jdk/internal/util/Preconditions", "checkIndex", "(IILjava/util/function/BiFunction;)I"⟩ : MethodName) jdk_41_method_11_code 3 (Option.some Jvm.ClassFile.FieldType.int) (⟨0, 0, 0, 0⟩ : Room) #[(.int (0 : Int32)), (.int (1 : Int32)), .null] h (fun v h' => v = some (.int (0 : Int32)) ∧ h' = h) := by
  refine Met.of_wk (ls := #[.val (.int (0 : Int32)), .val (.int (1 : Int32)), .val .null]) (plainFor_of_name pn_3) (fun _ => rfl) ?_
  show Wk l Z n0 "jdk/internal/util/Preconditions" "checkIndex" jdk_41_method_11_code 3 (Option.some Jvm.ClassFile.FieldType.int) (⟨0, 0, 0, 0⟩ : Room) 0 0 (fun v h' => v = some (.int (0 : Int32)) ∧ h' = h) h 0 0 0 #[.val (.int (0 : Int32)), .val (.int (1 : Int32)), .val .null] []
  refine Wk.iloadN (q := 1) d10_0 rfl rfl ?_
  refine Wk.ifcF (q := 4) d10_1 rfl (by decide : ¬ (0 : Int32) < (0 : Int32)) ?_
  refine Wk.iloadN (q := 5) d10_4 rfl rfl ?_
  refine Wk.iloadN (q := 6) d10_5 rfl rfl ?_
  refine Wk.icmpT (q := 16) d10_6 (by decide) rfl (by decide : (0 : Int32) < (1 : Int32)) ?_
  refine Wk.iloadN (q := 17) d10_16 rfl rfl ?_
  exact Wk.retI rfl d10_17 (by decide) (by decide) ⟨rfl, rfl⟩
set_option maxRecDepth 65536 in
set_option maxHeartbeats 40000000 in
theorem m_1 {l : Launch} {Z : State} {a0 : Array Value} {n0 : Nat} {h : Heap} (hw : ∀ d ∈ tables_1, d.before a0 Z = true) : Met l Z n0 (⟨"java/util/Objects", "checkIndex", "(II)I"⟩ : MethodName) jdk_31_method_17_code 2 (Option.some Jvm.ClassFile.FieldType.int) (⟨1, 0, 0, 14⟩ : Room) #[(.int (0 : Int32)), (.int (1 : Int32))] h (fun v h' => v = some (.int (0 : Int32)) ∧ h' = h) := by
  refine Met.of_wk (ls := #[.val (.int (0 : Int32)), .val (.int (1 : Int32))]) (plainFor_of_name pn_4) (fun _ => rfl) ?_
  show Wk l Z n0 "java/util/Objects" "checkIndex" jdk_31_method_17_code 2 (Option.some Jvm.ClassFile.FieldType.int) (⟨1, 0, 0, 14⟩ : Room) 0 0 (fun v h' => v = some (.int (0 : Int32)) ∧ h' = h) h 0 0 0 #[.val (.int (0 : Int32)), .val (.int (1 : Int32))] []
  refine Wk.iloadN (q := 1) d9_0 rfl rfl ?_
  refine Wk.iloadN (q := 2) d9_1 rfl rfl ?_
  refine Wk.null (q := 3) d9_2 rfl ?_
  refine Wk.callS1 (q := 6) (argsL := [(.int (0 : Int32)), (.int (1 : Int32)), .null]) (rest := []) (fr := 0) (lo := 0) (v0 := (.int (0 : Int32))) (m_0 hw) (w_60 hw) (w_61 hw) (w_62 hw) (w_63 hw) (by decide) pd_1 rfl rfl rfl d9_3 rfl (W := 0) rfl (by decide) (by decide) (by decide) (by decide) ?_
  exact Wk.retI rfl d9_6 (by decide) (by decide) ⟨rfl, rfl⟩
set_option maxRecDepth 65536 in
set_option maxHeartbeats 40000000 in
theorem m_get1_0 {l : Launch} {Z : State} {a0 : Array Value} {n0 : Nat} {h : Heap} (hw : ∀ d ∈ tables_1, d.before a0 Z = true) {a b y : Addr} {c : Cell} (f_c : Fld Z h a "com/example/kaiten_draft/kaitendraft/table/Hand" "cards" "[Lcom/example/kaiten_draft/kaitendraft/cards/Card;" (.ref b)) (f_s : Fld Z h a "com/example/kaiten_draft/kaitendraft/table/Hand" "size" "I" (.int (1 : Int32))) (A : Arr Z h b c (.object "com/example/kaiten_draft/kaitendraft/cards/Card")) (S : 3 ≤ c.slots.size) (e : c.slots[0]? = some (Value.ref y)) : Met l Z n0 (⟨"com/example/kaiten_draft/kaitendraft/table/Hand", "get", "(I)Lcom/example/kaiten_draft/kaitendraft/cards/Card;"⟩ : MethodName) prog_36_method_2_code 2 (Option.some (Jvm.ClassFile.FieldType.object "com/example/kaiten_draft/kaitendraft/cards/Card")) (⟨2, 0, 0, 27⟩ : Room) #[(.ref a), (.int (0 : Int32))] h (fun v h' => v = some (.ref y) ∧ h' = h) := by
  refine Met.of_wk (ls := #[.val (.ref a), .val (.int (0 : Int32))]) (plainFor_of_name pn_2) (fun _ => rfl) ?_
  show Wk l Z n0 "com/example/kaiten_draft/kaitendraft/table/Hand" "get" prog_36_method_2_code 2 (Option.some (Jvm.ClassFile.FieldType.object "com/example/kaiten_draft/kaitendraft/cards/Card")) (⟨2, 0, 0, 27⟩ : Room) 0 0 (fun v h' => v = some (.ref y) ∧ h' = h) h 0 0 0 #[.val (.ref a), .val (.int (0 : Int32))] []
  refine Wk.iloadN (q := 1) d8_0 rfl rfl ?_
  refine Wk.aloadN (q := 2) d8_1 rfl rfl rfl ?_
  refine Wk.getF (q := 5) (w_43 hw) Via.refl f_s d8_2 rfl ?_
  refine Wk.callS1 (q := 8) (argsL := [(.int (0 : Int32)), (.int (1 : Int32))]) (rest := []) (fr := 1) (lo := 14) (v0 := (.int (0 : Int32))) (m_1 hw) (w_56 hw) (w_57 hw) (w_58 hw) (w_59 hw) (by decide) pd_2 rfl rfl rfl d8_5 rfl (W := 0) rfl (by decide) (by decide) (by decide) (by decide) ?_
  refine Wk.pop (q := 9) d8_8 rfl rfl ?_
  refine Wk.aloadN (q := 10) d8_9 rfl rfl rfl ?_
  refine Wk.getF (q := 13) (w_36 hw) Via.refl f_c d8_10 rfl ?_
  refine Wk.iloadN (q := 14) d8_13 rfl rfl ?_
  refine Wk.aaload (q := 15) A rfl (own_in3 S (by decide) (by decide)) e d8_14 rfl ?_
  exact Wk.retA rfl rfl rfl d8_15 (by decide) (by decide) ⟨rfl, rfl⟩
set_option maxRecDepth 65536 in
set_option maxHeartbeats 40000000 in
theorem m_2 {l : Launch} {Z : State} {a0 : Array Value} {n0 : Nat} {h : Heap} (hw : ∀ d ∈ tables_1, d.before a0 Z = true) : Met l Z n0 (⟨"jdk/internal/util/Preconditions", "checkIndex", "(IILjava/util/function/BiFunction;)I"⟩ : MethodName) jdk_41_method_11_code 3 (Option.some Jvm.ClassFile.FieldType.int) (⟨0, 0, 0, 0⟩ : Room) #[(.int (1 : Int32)), (.int (2 : Int32)), .null] h (fun v h' => v = some (.int (1 : Int32)) ∧ h' = h) := by
  refine Met.of_wk (ls := #[.val (.int (1 : Int32)), .val (.int (2 : Int32)), .val .null]) (plainFor_of_name pn_3) (fun _ => rfl) ?_
  show Wk l Z n0 "jdk/internal/util/Preconditions" "checkIndex" jdk_41_method_11_code 3 (Option.some Jvm.ClassFile.FieldType.int) (⟨0, 0, 0, 0⟩ : Room) 0 0 (fun v h' => v = some (.int (1 : Int32)) ∧ h' = h) h 0 0 0 #[.val (.int (1 : Int32)), .val (.int (2 : Int32)), .val .null] []
  refine Wk.iloadN (q := 1) d10_0 rfl rfl ?_
  refine Wk.ifcF (q := 4) d10_1 rfl (by decide : ¬ (1 : Int32) < (0 : Int32)) ?_
  refine Wk.iloadN (q := 5) d10_4 rfl rfl ?_
  refine Wk.iloadN (q := 6) d10_5 rfl rfl ?_
  refine Wk.icmpT (q := 16) d10_6 (by decide) rfl (by decide : (1 : Int32) < (2 : Int32)) ?_
  refine Wk.iloadN (q := 17) d10_16 rfl rfl ?_
  exact Wk.retI rfl d10_17 (by decide) (by decide) ⟨rfl, rfl⟩
set_option maxRecDepth 65536 in
set_option maxHeartbeats 40000000 in
theorem m_3 {l : Launch} {Z : State} {a0 : Array Value} {n0 : Nat} {h : Heap} (hw : ∀ d ∈ tables_1, d.before a0 Z = true) : Met l Z n0 (⟨"java/util/Objects", "checkIndex", "(II)I"⟩ : MethodName) jdk_31_method_17_code 2 (Option.some Jvm.ClassFile.FieldType.int) (⟨1, 0, 0, 14⟩ : Room) #[(.int (1 : Int32)), (.int (2 : Int32))] h (fun v h' => v = some (.int (1 : Int32)) ∧ h' = h) := by
  refine Met.of_wk (ls := #[.val (.int (1 : Int32)), .val (.int (2 : Int32))]) (plainFor_of_name pn_4) (fun _ => rfl) ?_
  show Wk l Z n0 "java/util/Objects" "checkIndex" jdk_31_method_17_code 2 (Option.some Jvm.ClassFile.FieldType.int) (⟨1, 0, 0, 14⟩ : Room) 0 0 (fun v h' => v = some (.int (1 : Int32)) ∧ h' = h) h 0 0 0 #[.val (.int (1 : Int32)), .val (.int (2 : Int32))] []
  refine Wk.iloadN (q := 1) d9_0 rfl rfl ?_
  refine Wk.iloadN (q := 2) d9_1 rfl rfl ?_
  refine Wk.null (q := 3) d9_2 rfl ?_
  refine Wk.callS1 (q := 6) (argsL := [(.int (1 : Int32)), (.int (2 : Int32)), .null]) (rest := []) (fr := 0) (lo := 0) (v0 := (.int (1 : Int32))) (m_2 hw) (w_60 hw) (w_61 hw) (w_62 hw) (w_63 hw) (by decide) pd_1 rfl rfl rfl d9_3 rfl (W := 0) rfl (by decide) (by decide) (by decide) (by decide) ?_
  exact Wk.retI rfl d9_6 (by decide) (by decide) ⟨rfl, rfl⟩
set_option maxRecDepth 65536 in
set_option maxHeartbeats 40000000 in
theorem m_get2_1 {l : Launch} {Z : State} {a0 : Array Value} {n0 : Nat} {h : Heap} (hw : ∀ d ∈ tables_1, d.before a0 Z = true) {a b y : Addr} {c : Cell} (f_c : Fld Z h a "com/example/kaiten_draft/kaitendraft/table/Hand" "cards" "[Lcom/example/kaiten_draft/kaitendraft/cards/Card;" (.ref b)) (f_s : Fld Z h a "com/example/kaiten_draft/kaitendraft/table/Hand" "size" "I" (.int (2 : Int32))) (A : Arr Z h b c (.object "com/example/kaiten_draft/kaitendraft/cards/Card")) (S : 3 ≤ c.slots.size) (e : c.slots[1]? = some (Value.ref y)) : Met l Z n0 (⟨"com/example/kaiten_draft/kaitendraft/table/Hand", "get", "(I)Lcom/example/kaiten_draft/kaitendraft/cards/Card;"⟩ : MethodName) prog_36_method_2_code 2 (Option.some (Jvm.ClassFile.FieldType.object "com/example/kaiten_draft/kaitendraft/cards/Card")) (⟨2, 0, 0, 27⟩ : Room) #[(.ref a), (.int (1 : Int32))] h (fun v h' => v = some (.ref y) ∧ h' = h) := by
  refine Met.of_wk (ls := #[.val (.ref a), .val (.int (1 : Int32))]) (plainFor_of_name pn_2) (fun _ => rfl) ?_
  show Wk l Z n0 "com/example/kaiten_draft/kaitendraft/table/Hand" "get" prog_36_method_2_code 2 (Option.some (Jvm.ClassFile.FieldType.object "com/example/kaiten_draft/kaitendraft/cards/Card")) (⟨2, 0, 0, 27⟩ : Room) 0 0 (fun v h' => v = some (.ref y) ∧ h' = h) h 0 0 0 #[.val (.ref a), .val (.int (1 : Int32))] []
  refine Wk.iloadN (q := 1) d8_0 rfl rfl ?_
  refine Wk.aloadN (q := 2) d8_1 rfl rfl rfl ?_
  refine Wk.getF (q := 5) (w_43 hw) Via.refl f_s d8_2 rfl ?_
  refine Wk.callS1 (q := 8) (argsL := [(.int (1 : Int32)), (.int (2 : Int32))]) (rest := []) (fr := 1) (lo := 14) (v0 := (.int (1 : Int32))) (m_3 hw) (w_56 hw) (w_57 hw) (w_58 hw) (w_59 hw) (by decide) pd_2 rfl rfl rfl d8_5 rfl (W := 0) rfl (by decide) (by decide) (by decide) (by decide) ?_
  refine Wk.pop (q := 9) d8_8 rfl rfl ?_
  refine Wk.aloadN (q := 10) d8_9 rfl rfl rfl ?_
  refine Wk.getF (q := 13) (w_36 hw) Via.refl f_c d8_10 rfl ?_
  refine Wk.iloadN (q := 14) d8_13 rfl rfl ?_
  refine Wk.aaload (q := 15) A rfl (own_in3 S (by decide) (by decide)) e d8_14 rfl ?_
  exact Wk.retA rfl rfl rfl d8_15 (by decide) (by decide) ⟨rfl, rfl⟩
set_option maxRecDepth 65536 in
set_option maxHeartbeats 40000000 in
theorem m_4 {l : Launch} {Z : State} {a0 : Array Value} {n0 : Nat} {h : Heap} (hw : ∀ d ∈ tables_1, d.before a0 Z = true) : Met l Z n0 (⟨"jdk/internal/util/Preconditions", "checkIndex", "(IILjava/util/function/BiFunction;)I"⟩ : MethodName) jdk_41_method_11_code 3 (Option.some Jvm.ClassFile.FieldType.int) (⟨0, 0, 0, 0⟩ : Room) #[(.int (0 : Int32)), (.int (3 : Int32)), .null] h (fun v h' => v = some (.int (0 : Int32)) ∧ h' = h) := by
  refine Met.of_wk (ls := #[.val (.int (0 : Int32)), .val (.int (3 : Int32)), .val .null]) (plainFor_of_name pn_3) (fun _ => rfl) ?_
  show Wk l Z n0 "jdk/internal/util/Preconditions" "checkIndex" jdk_41_method_11_code 3 (Option.some Jvm.ClassFile.FieldType.int) (⟨0, 0, 0, 0⟩ : Room) 0 0 (fun v h' => v = some (.int (0 : Int32)) ∧ h' = h) h 0 0 0 #[.val (.int (0 : Int32)), .val (.int (3 : Int32)), .val .null] []
  refine Wk.iloadN (q := 1) d10_0 rfl rfl ?_
  refine Wk.ifcF (q := 4) d10_1 rfl (by decide : ¬ (0 : Int32) < (0 : Int32)) ?_
  refine Wk.iloadN (q := 5) d10_4 rfl rfl ?_
  refine Wk.iloadN (q := 6) d10_5 rfl rfl ?_
  refine Wk.icmpT (q := 16) d10_6 (by decide) rfl (by decide : (0 : Int32) < (3 : Int32)) ?_
  refine Wk.iloadN (q := 17) d10_16 rfl rfl ?_
  exact Wk.retI rfl d10_17 (by decide) (by decide) ⟨rfl, rfl⟩
set_option maxRecDepth 65536 in
set_option maxHeartbeats 40000000 in
theorem m_5 {l : Launch} {Z : State} {a0 : Array Value} {n0 : Nat} {h : Heap} (hw : ∀ d ∈ tables_1, d.before a0 Z = true) : Met l Z n0 (⟨"java/util/Objects", "checkIndex", "(II)I"⟩ : MethodName) jdk_31_method_17_code 2 (Option.some Jvm.ClassFile.FieldType.int) (⟨1, 0, 0, 14⟩ : Room) #[(.int (0 : Int32)), (.int (3 : Int32))] h (fun v h' => v = some (.int (0 : Int32)) ∧ h' = h) := by
  refine Met.of_wk (ls := #[.val (.int (0 : Int32)), .val (.int (3 : Int32))]) (plainFor_of_name pn_4) (fun _ => rfl) ?_
  show Wk l Z n0 "java/util/Objects" "checkIndex" jdk_31_method_17_code 2 (Option.some Jvm.ClassFile.FieldType.int) (⟨1, 0, 0, 14⟩ : Room) 0 0 (fun v h' => v = some (.int (0 : Int32)) ∧ h' = h) h 0 0 0 #[.val (.int (0 : Int32)), .val (.int (3 : Int32))] []
  refine Wk.iloadN (q := 1) d9_0 rfl rfl ?_
  refine Wk.iloadN (q := 2) d9_1 rfl rfl ?_
  refine Wk.null (q := 3) d9_2 rfl ?_
  refine Wk.callS1 (q := 6) (argsL := [(.int (0 : Int32)), (.int (3 : Int32)), .null]) (rest := []) (fr := 0) (lo := 0) (v0 := (.int (0 : Int32))) (m_4 hw) (w_60 hw) (w_61 hw) (w_62 hw) (w_63 hw) (by decide) pd_1 rfl rfl rfl d9_3 rfl (W := 0) rfl (by decide) (by decide) (by decide) (by decide) ?_
  exact Wk.retI rfl d9_6 (by decide) (by decide) ⟨rfl, rfl⟩
set_option maxRecDepth 65536 in
set_option maxHeartbeats 40000000 in
theorem m_get3_0 {l : Launch} {Z : State} {a0 : Array Value} {n0 : Nat} {h : Heap} (hw : ∀ d ∈ tables_1, d.before a0 Z = true) {a b y : Addr} {c : Cell} (f_c : Fld Z h a "com/example/kaiten_draft/kaitendraft/table/Hand" "cards" "[Lcom/example/kaiten_draft/kaitendraft/cards/Card;" (.ref b)) (f_s : Fld Z h a "com/example/kaiten_draft/kaitendraft/table/Hand" "size" "I" (.int (3 : Int32))) (A : Arr Z h b c (.object "com/example/kaiten_draft/kaitendraft/cards/Card")) (S : 3 ≤ c.slots.size) (e : c.slots[0]? = some (Value.ref y)) : Met l Z n0 (⟨"com/example/kaiten_draft/kaitendraft/table/Hand", "get", "(I)Lcom/example/kaiten_draft/kaitendraft/cards/Card;"⟩ : MethodName) prog_36_method_2_code 2 (Option.some (Jvm.ClassFile.FieldType.object "com/example/kaiten_draft/kaitendraft/cards/Card")) (⟨2, 0, 0, 27⟩ : Room) #[(.ref a), (.int (0 : Int32))] h (fun v h' => v = some (.ref y) ∧ h' = h) := by
  refine Met.of_wk (ls := #[.val (.ref a), .val (.int (0 : Int32))]) (plainFor_of_name pn_2) (fun _ => rfl) ?_
  show Wk l Z n0 "com/example/kaiten_draft/kaitendraft/table/Hand" "get" prog_36_method_2_code 2 (Option.some (Jvm.ClassFile.FieldType.object "com/example/kaiten_draft/kaitendraft/cards/Card")) (⟨2, 0, 0, 27⟩ : Room) 0 0 (fun v h' => v = some (.ref y) ∧ h' = h) h 0 0 0 #[.val (.ref a), .val (.int (0 : Int32))] []
  refine Wk.iloadN (q := 1) d8_0 rfl rfl ?_
  refine Wk.aloadN (q := 2) d8_1 rfl rfl rfl ?_
  refine Wk.getF (q := 5) (w_43 hw) Via.refl f_s d8_2 rfl ?_
  refine Wk.callS1 (q := 8) (argsL := [(.int (0 : Int32)), (.int (3 : Int32))]) (rest := []) (fr := 1) (lo := 14) (v0 := (.int (0 : Int32))) (m_5 hw) (w_56 hw) (w_57 hw) (w_58 hw) (w_59 hw) (by decide) pd_2 rfl rfl rfl d8_5 rfl (W := 0) rfl (by decide) (by decide) (by decide) (by decide) ?_
  refine Wk.pop (q := 9) d8_8 rfl rfl ?_
  refine Wk.aloadN (q := 10) d8_9 rfl rfl rfl ?_
  refine Wk.getF (q := 13) (w_36 hw) Via.refl f_c d8_10 rfl ?_
  refine Wk.iloadN (q := 14) d8_13 rfl rfl ?_
  refine Wk.aaload (q := 15) A rfl (own_in3 S (by decide) (by decide)) e d8_14 rfl ?_
  exact Wk.retA rfl rfl rfl d8_15 (by decide) (by decide) ⟨rfl, rfl⟩
set_option maxRecDepth 65536 in
set_option maxHeartbeats 40000000 in
theorem m_6 {l : Launch} {Z : State} {a0 : Array Value} {n0 : Nat} {h : Heap} (hw : ∀ d ∈ tables_1, d.before a0 Z = true) : Met l Z n0 (⟨"jdk/internal/util/Preconditions", "checkIndex", "(IILjava/util/function/BiFunction;)I"⟩ : MethodName) jdk_41_method_11_code 3 (Option.some Jvm.ClassFile.FieldType.int) (⟨0, 0, 0, 0⟩ : Room) #[(.int (1 : Int32)), (.int (3 : Int32)), .null] h (fun v h' => v = some (.int (1 : Int32)) ∧ h' = h) := by
  refine Met.of_wk (ls := #[.val (.int (1 : Int32)), .val (.int (3 : Int32)), .val .null]) (plainFor_of_name pn_3) (fun _ => rfl) ?_
  show Wk l Z n0 "jdk/internal/util/Preconditions" "checkIndex" jdk_41_method_11_code 3 (Option.some Jvm.ClassFile.FieldType.int) (⟨0, 0, 0, 0⟩ : Room) 0 0 (fun v h' => v = some (.int (1 : Int32)) ∧ h' = h) h 0 0 0 #[.val (.int (1 : Int32)), .val (.int (3 : Int32)), .val .null] []
  refine Wk.iloadN (q := 1) d10_0 rfl rfl ?_
  refine Wk.ifcF (q := 4) d10_1 rfl (by decide : ¬ (1 : Int32) < (0 : Int32)) ?_
  refine Wk.iloadN (q := 5) d10_4 rfl rfl ?_
  refine Wk.iloadN (q := 6) d10_5 rfl rfl ?_
  refine Wk.icmpT (q := 16) d10_6 (by decide) rfl (by decide : (1 : Int32) < (3 : Int32)) ?_
  refine Wk.iloadN (q := 17) d10_16 rfl rfl ?_
  exact Wk.retI rfl d10_17 (by decide) (by decide) ⟨rfl, rfl⟩
set_option maxRecDepth 65536 in
set_option maxHeartbeats 40000000 in
theorem m_7 {l : Launch} {Z : State} {a0 : Array Value} {n0 : Nat} {h : Heap} (hw : ∀ d ∈ tables_1, d.before a0 Z = true) : Met l Z n0 (⟨"java/util/Objects", "checkIndex", "(II)I"⟩ : MethodName) jdk_31_method_17_code 2 (Option.some Jvm.ClassFile.FieldType.int) (⟨1, 0, 0, 14⟩ : Room) #[(.int (1 : Int32)), (.int (3 : Int32))] h (fun v h' => v = some (.int (1 : Int32)) ∧ h' = h) := by
  refine Met.of_wk (ls := #[.val (.int (1 : Int32)), .val (.int (3 : Int32))]) (plainFor_of_name pn_4) (fun _ => rfl) ?_
  show Wk l Z n0 "java/util/Objects" "checkIndex" jdk_31_method_17_code 2 (Option.some Jvm.ClassFile.FieldType.int) (⟨1, 0, 0, 14⟩ : Room) 0 0 (fun v h' => v = some (.int (1 : Int32)) ∧ h' = h) h 0 0 0 #[.val (.int (1 : Int32)), .val (.int (3 : Int32))] []
  refine Wk.iloadN (q := 1) d9_0 rfl rfl ?_
  refine Wk.iloadN (q := 2) d9_1 rfl rfl ?_
  refine Wk.null (q := 3) d9_2 rfl ?_
  refine Wk.callS1 (q := 6) (argsL := [(.int (1 : Int32)), (.int (3 : Int32)), .null]) (rest := []) (fr := 0) (lo := 0) (v0 := (.int (1 : Int32))) (m_6 hw) (w_60 hw) (w_61 hw) (w_62 hw) (w_63 hw) (by decide) pd_1 rfl rfl rfl d9_3 rfl (W := 0) rfl (by decide) (by decide) (by decide) (by decide) ?_
  exact Wk.retI rfl d9_6 (by decide) (by decide) ⟨rfl, rfl⟩
set_option maxRecDepth 65536 in
set_option maxHeartbeats 40000000 in
theorem m_get3_1 {l : Launch} {Z : State} {a0 : Array Value} {n0 : Nat} {h : Heap} (hw : ∀ d ∈ tables_1, d.before a0 Z = true) {a b y : Addr} {c : Cell} (f_c : Fld Z h a "com/example/kaiten_draft/kaitendraft/table/Hand" "cards" "[Lcom/example/kaiten_draft/kaitendraft/cards/Card;" (.ref b)) (f_s : Fld Z h a "com/example/kaiten_draft/kaitendraft/table/Hand" "size" "I" (.int (3 : Int32))) (A : Arr Z h b c (.object "com/example/kaiten_draft/kaitendraft/cards/Card")) (S : 3 ≤ c.slots.size) (e : c.slots[1]? = some (Value.ref y)) : Met l Z n0 (⟨"com/example/kaiten_draft/kaitendraft/table/Hand", "get", "(I)Lcom/example/kaiten_draft/kaitendraft/cards/Card;"⟩ : MethodName) prog_36_method_2_code 2 (Option.some (Jvm.ClassFile.FieldType.object "com/example/kaiten_draft/kaitendraft/cards/Card")) (⟨2, 0, 0, 27⟩ : Room) #[(.ref a), (.int (1 : Int32))] h (fun v h' => v = some (.ref y) ∧ h' = h) := by
  refine Met.of_wk (ls := #[.val (.ref a), .val (.int (1 : Int32))]) (plainFor_of_name pn_2) (fun _ => rfl) ?_
  show Wk l Z n0 "com/example/kaiten_draft/kaitendraft/table/Hand" "get" prog_36_method_2_code 2 (Option.some (Jvm.ClassFile.FieldType.object "com/example/kaiten_draft/kaitendraft/cards/Card")) (⟨2, 0, 0, 27⟩ : Room) 0 0 (fun v h' => v = some (.ref y) ∧ h' = h) h 0 0 0 #[.val (.ref a), .val (.int (1 : Int32))] []
  refine Wk.iloadN (q := 1) d8_0 rfl rfl ?_
  refine Wk.aloadN (q := 2) d8_1 rfl rfl rfl ?_
  refine Wk.getF (q := 5) (w_43 hw) Via.refl f_s d8_2 rfl ?_
  refine Wk.callS1 (q := 8) (argsL := [(.int (1 : Int32)), (.int (3 : Int32))]) (rest := []) (fr := 1) (lo := 14) (v0 := (.int (1 : Int32))) (m_7 hw) (w_56 hw) (w_57 hw) (w_58 hw) (w_59 hw) (by decide) pd_2 rfl rfl rfl d8_5 rfl (W := 0) rfl (by decide) (by decide) (by decide) (by decide) ?_
  refine Wk.pop (q := 9) d8_8 rfl rfl ?_
  refine Wk.aloadN (q := 10) d8_9 rfl rfl rfl ?_
  refine Wk.getF (q := 13) (w_36 hw) Via.refl f_c d8_10 rfl ?_
  refine Wk.iloadN (q := 14) d8_13 rfl rfl ?_
  refine Wk.aaload (q := 15) A rfl (own_in3 S (by decide) (by decide)) e d8_14 rfl ?_
  exact Wk.retA rfl rfl rfl d8_15 (by decide) (by decide) ⟨rfl, rfl⟩
set_option maxRecDepth 65536 in
set_option maxHeartbeats 40000000 in
theorem m_8 {l : Launch} {Z : State} {a0 : Array Value} {n0 : Nat} {h : Heap} (hw : ∀ d ∈ tables_1, d.before a0 Z = true) : Met l Z n0 (⟨"jdk/internal/util/Preconditions", "checkIndex", "(IILjava/util/function/BiFunction;)I"⟩ : MethodName) jdk_41_method_11_code 3 (Option.some Jvm.ClassFile.FieldType.int) (⟨0, 0, 0, 0⟩ : Room) #[(.int (2 : Int32)), (.int (3 : Int32)), .null] h (fun v h' => v = some (.int (2 : Int32)) ∧ h' = h) := by
  refine Met.of_wk (ls := #[.val (.int (2 : Int32)), .val (.int (3 : Int32)), .val .null]) (plainFor_of_name pn_3) (fun _ => rfl) ?_
  show Wk l Z n0 "jdk/internal/util/Preconditions" "checkIndex" jdk_41_method_11_code 3 (Option.some Jvm.ClassFile.FieldType.int) (⟨0, 0, 0, 0⟩ : Room) 0 0 (fun v h' => v = some (.int (2 : Int32)) ∧ h' = h) h 0 0 0 #[.val (.int (2 : Int32)), .val (.int (3 : Int32)), .val .null] []
  refine Wk.iloadN (q := 1) d10_0 rfl rfl ?_
  refine Wk.ifcF (q := 4) d10_1 rfl (by decide : ¬ (2 : Int32) < (0 : Int32)) ?_
  refine Wk.iloadN (q := 5) d10_4 rfl rfl ?_
  refine Wk.iloadN (q := 6) d10_5 rfl rfl ?_
  refine Wk.icmpT (q := 16) d10_6 (by decide) rfl (by decide : (2 : Int32) < (3 : Int32)) ?_
  refine Wk.iloadN (q := 17) d10_16 rfl rfl ?_
  exact Wk.retI rfl d10_17 (by decide) (by decide) ⟨rfl, rfl⟩
set_option maxRecDepth 65536 in
set_option maxHeartbeats 40000000 in
theorem m_9 {l : Launch} {Z : State} {a0 : Array Value} {n0 : Nat} {h : Heap} (hw : ∀ d ∈ tables_1, d.before a0 Z = true) : Met l Z n0 (⟨"java/util/Objects", "checkIndex", "(II)I"⟩ : MethodName) jdk_31_method_17_code 2 (Option.some Jvm.ClassFile.FieldType.int) (⟨1, 0, 0, 14⟩ : Room) #[(.int (2 : Int32)), (.int (3 : Int32))] h (fun v h' => v = some (.int (2 : Int32)) ∧ h' = h) := by
  refine Met.of_wk (ls := #[.val (.int (2 : Int32)), .val (.int (3 : Int32))]) (plainFor_of_name pn_4) (fun _ => rfl) ?_
  show Wk l Z n0 "java/util/Objects" "checkIndex" jdk_31_method_17_code 2 (Option.some Jvm.ClassFile.FieldType.int) (⟨1, 0, 0, 14⟩ : Room) 0 0 (fun v h' => v = some (.int (2 : Int32)) ∧ h' = h) h 0 0 0 #[.val (.int (2 : Int32)), .val (.int (3 : Int32))] []
  refine Wk.iloadN (q := 1) d9_0 rfl rfl ?_
  refine Wk.iloadN (q := 2) d9_1 rfl rfl ?_
  refine Wk.null (q := 3) d9_2 rfl ?_
  refine Wk.callS1 (q := 6) (argsL := [(.int (2 : Int32)), (.int (3 : Int32)), .null]) (rest := []) (fr := 0) (lo := 0) (v0 := (.int (2 : Int32))) (m_8 hw) (w_60 hw) (w_61 hw) (w_62 hw) (w_63 hw) (by decide) pd_1 rfl rfl rfl d9_3 rfl (W := 0) rfl (by decide) (by decide) (by decide) (by decide) ?_
  exact Wk.retI rfl d9_6 (by decide) (by decide) ⟨rfl, rfl⟩
set_option maxRecDepth 65536 in
set_option maxHeartbeats 40000000 in
theorem m_get3_2 {l : Launch} {Z : State} {a0 : Array Value} {n0 : Nat} {h : Heap} (hw : ∀ d ∈ tables_1, d.before a0 Z = true) {a b y : Addr} {c : Cell} (f_c : Fld Z h a "com/example/kaiten_draft/kaitendraft/table/Hand" "cards" "[Lcom/example/kaiten_draft/kaitendraft/cards/Card;" (.ref b)) (f_s : Fld Z h a "com/example/kaiten_draft/kaitendraft/table/Hand" "size" "I" (.int (3 : Int32))) (A : Arr Z h b c (.object "com/example/kaiten_draft/kaitendraft/cards/Card")) (S : 3 ≤ c.slots.size) (e : c.slots[2]? = some (Value.ref y)) : Met l Z n0 (⟨"com/example/kaiten_draft/kaitendraft/table/Hand", "get", "(I)Lcom/example/kaiten_draft/kaitendraft/cards/Card;"⟩ : MethodName) prog_36_method_2_code 2 (Option.some (Jvm.ClassFile.FieldType.object "com/example/kaiten_draft/kaitendraft/cards/Card")) (⟨2, 0, 0, 27⟩ : Room) #[(.ref a), (.int (2 : Int32))] h (fun v h' => v = some (.ref y) ∧ h' = h) := by
  refine Met.of_wk (ls := #[.val (.ref a), .val (.int (2 : Int32))]) (plainFor_of_name pn_2) (fun _ => rfl) ?_
  show Wk l Z n0 "com/example/kaiten_draft/kaitendraft/table/Hand" "get" prog_36_method_2_code 2 (Option.some (Jvm.ClassFile.FieldType.object "com/example/kaiten_draft/kaitendraft/cards/Card")) (⟨2, 0, 0, 27⟩ : Room) 0 0 (fun v h' => v = some (.ref y) ∧ h' = h) h 0 0 0 #[.val (.ref a), .val (.int (2 : Int32))] []
  refine Wk.iloadN (q := 1) d8_0 rfl rfl ?_
  refine Wk.aloadN (q := 2) d8_1 rfl rfl rfl ?_
  refine Wk.getF (q := 5) (w_43 hw) Via.refl f_s d8_2 rfl ?_
  refine Wk.callS1 (q := 8) (argsL := [(.int (2 : Int32)), (.int (3 : Int32))]) (rest := []) (fr := 1) (lo := 14) (v0 := (.int (2 : Int32))) (m_9 hw) (w_56 hw) (w_57 hw) (w_58 hw) (w_59 hw) (by decide) pd_2 rfl rfl rfl d8_5 rfl (W := 0) rfl (by decide) (by decide) (by decide) (by decide) ?_
  refine Wk.pop (q := 9) d8_8 rfl rfl ?_
  refine Wk.aloadN (q := 10) d8_9 rfl rfl rfl ?_
  refine Wk.getF (q := 13) (w_36 hw) Via.refl f_c d8_10 rfl ?_
  refine Wk.iloadN (q := 14) d8_13 rfl rfl ?_
  refine Wk.aaload (q := 15) A rfl (own_in3 S (by decide) (by decide)) e d8_14 rfl ?_
  exact Wk.retA rfl rfl rfl d8_15 (by decide) (by decide) ⟨rfl, rfl⟩
set_option maxRecDepth 65536 in
set_option maxHeartbeats 40000000 in
theorem m_pick {l : Launch} {Z : State} {a0 : Array Value} {n0 : Nat} {h : Heap} {a_TEMPURA a_MAKI1 a_DUMPLING a_MAKI2 a_SQUID a_EGG a_WASABI a_CHOPSTICKS a_SASHIMI a_MAKI3 a_PUDDING a_SALMON : Addr} (hw : ∀ d ∈ tables_1, d.before a0 Z = true) (F : OwnF Z h a_TEMPURA a_MAKI1 a_DUMPLING a_MAKI2 a_SQUID a_EGG a_WASABI a_CHOPSTICKS a_SASHIMI a_MAKI3 a_PUDDING a_SALMON) (z0 : Int32) : Met l Z n0 (⟨"com/example/kaiten_draft/kaitendraft/table/HandAppendPinLaw", "pick", "(I)Lcom/example/kaiten_draft/kaitendraft/cards/Card;"⟩ : MethodName) method_2_code 2 (Option.some (Jvm.ClassFile.FieldType.object "com/example/kaiten_draft/kaitendraft/cards/Card")) (⟨0, 0, 0, 0⟩ : Room) #[(.int z0)] h (fun v h' => (∃ w, v = some w ∧ ∃ y, w = .ref y ∧ Exa Z h y "com/example/kaiten_draft/kaitendraft/cards/Card") ∧ h' = h) := by
  refine Met.of_wk (ls := #[.val (.int z0), .unset]) (plainFor_of_name pn_5) (fun _ => rfl) ?_
  show Wk l Z n0 "com/example/kaiten_draft/kaitendraft/table/HandAppendPinLaw" "pick" method_2_code 2 (Option.some (Jvm.ClassFile.FieldType.object "com/example/kaiten_draft/kaitendraft/cards/Card")) (⟨0, 0, 0, 0⟩ : Room) 0 0 (fun v h' => (∃ w, v = some w ∧ ∃ y, w = .ref y ∧ Exa Z h y "com/example/kaiten_draft/kaitendraft/cards/Card") ∧ h' = h) h 0 0 0 #[.val (.int z0), .unset] []
  refine Wk.iloadN (q := 1) d1_0 rfl rfl ?_
  refine Wk.ldcI (q := 3) (w_4 hw) d1_1 rfl ?_
  refine Wk.iand (q := 4) (v := (z0 &&& (2147483647 : Int32))) d1_3 rfl rfl ?_
  refine Wk.bipush (q := 6) (v := (12 : Int32)) d1_4 rfl rfl ?_
  refine Wk.irem (q := 7) (v := ((z0 &&& (2147483647 : Int32)) % (12 : Int32))) d1_6 rfl (by decide) rfl ?_
  refine Wk.istoreN (q := 8) (ls' := #[.val (.int z0), .val (.int ((z0 &&& (2147483647 : Int32)) % (12 : Int32)))]) d1_7 rfl rfl ?_
  refine Wk.iloadN (q := 9) d1_8 rfl rfl ?_
  refine Wk.ifc (q := 16) (q' := 12) d1_9 (by decide) rfl rfl (fun (h1 : ¬ ((z0 &&& (2147483647 : Int32)) % (12 : Int32)) = (0 : Int32)) => ?_) (fun (h1 : ((z0 &&& (2147483647 : Int32)) % (12 : Int32)) = (0 : Int32)) => ?_)
  · refine Wk.iloadN (q := 17) d1_16 rfl rfl ?_
    refine Wk.iconst (q := 18) (v := (1 : Int32)) d1_17 rfl rfl ?_
    refine Wk.icmp (q := 25) (q' := 21) d1_18 (by decide) rfl rfl (fun (h2 : ¬ ((z0 &&& (2147483647 : Int32)) % (12 : Int32)) = (1 : Int32)) => ?_) (fun (h2 : ((z0 &&& (2147483647 : Int32)) % (12 : Int32)) = (1 : Int32)) => ?_)
    · refine Wk.iloadN (q := 26) d1_25 rfl rfl ?_
      refine Wk.iconst (q := 27) (v := (2 : Int32)) d1_26 rfl rfl ?_
      refine Wk.icmp (q := 34) (q' := 30) d1_27 (by decide) rfl rfl (fun (h3 : ¬ ((z0 &&& (2147483647 : Int32)) % (12 : Int32)) = (2 : Int32)) => ?_) (fun (h3 : ((z0 &&& (2147483647 : Int32)) % (12 : Int32)) = (2 : Int32)) => ?_)
      · refine Wk.iloadN (q := 35) d1_34 rfl rfl ?_
        refine Wk.iconst (q := 36) (v := (3 : Int32)) d1_35 rfl rfl ?_
        refine Wk.icmp (q := 43) (q' := 39) d1_36 (by decide) rfl rfl (fun (h4 : ¬ ((z0 &&& (2147483647 : Int32)) % (12 : Int32)) = (3 : Int32)) => ?_) (fun (h4 : ((z0 &&& (2147483647 : Int32)) % (12 : Int32)) = (3 : Int32)) => ?_)
        · refine Wk.iloadN (q := 44) d1_43 rfl rfl ?_
          refine Wk.iconst (q := 45) (v := (4 : Int32)) d1_44 rfl rfl ?_
          refine Wk.icmp (q := 52) (q' := 48) d1_45 (by decide) rfl rfl (fun (h5 : ¬ ((z0 &&& (2147483647 : Int32)) % (12 : Int32)) = (4 : Int32)) => ?_) (fun (h5 : ((z0 &&& (2147483647 : Int32)) % (12 : Int32)) = (4 : Int32)) => ?_)
          · refine Wk.iloadN (q := 53) d1_52 rfl rfl ?_
            refine Wk.iconst (q := 54) (v := (5 : Int32)) d1_53 rfl rfl ?_
            refine Wk.icmp (q := 61) (q' := 57) d1_54 (by decide) rfl rfl (fun (h6 : ¬ ((z0 &&& (2147483647 : Int32)) % (12 : Int32)) = (5 : Int32)) => ?_) (fun (h6 : ((z0 &&& (2147483647 : Int32)) % (12 : Int32)) = (5 : Int32)) => ?_)
            · refine Wk.iloadN (q := 62) d1_61 rfl rfl ?_
              refine Wk.bipush (q := 64) (v := (6 : Int32)) d1_62 rfl rfl ?_
              refine Wk.icmp (q := 71) (q' := 67) d1_64 (by decide) rfl rfl (fun (h7 : ¬ ((z0 &&& (2147483647 : Int32)) % (12 : Int32)) = (6 : Int32)) => ?_) (fun (h7 : ((z0 &&& (2147483647 : Int32)) % (12 : Int32)) = (6 : Int32)) => ?_)
              · refine Wk.iloadN (q := 72) d1_71 rfl rfl ?_
                refine Wk.bipush (q := 74) (v := (7 : Int32)) d1_72 rfl rfl ?_
                refine Wk.icmp (q := 81) (q' := 77) d1_74 (by decide) rfl rfl (fun (h8 : ¬ ((z0 &&& (2147483647 : Int32)) % (12 : Int32)) = (7 : Int32)) => ?_) (fun (h8 : ((z0 &&& (2147483647 : Int32)) % (12 : Int32)) = (7 : Int32)) => ?_)
                · refine Wk.iloadN (q := 82) d1_81 rfl rfl ?_
                  refine Wk.bipush (q := 84) (v := (8 : Int32)) d1_82 rfl rfl ?_
                  refine Wk.icmp (q := 91) (q' := 87) d1_84 (by decide) rfl rfl (fun (h9 : ¬ ((z0 &&& (2147483647 : Int32)) % (12 : Int32)) = (8 : Int32)) => ?_) (fun (h9 : ((z0 &&& (2147483647 : Int32)) % (12 : Int32)) = (8 : Int32)) => ?_)
                  · refine Wk.iloadN (q := 92) d1_91 rfl rfl ?_
                    refine Wk.bipush (q := 94) (v := (9 : Int32)) d1_92 rfl rfl ?_
                    refine Wk.icmp (q := 101) (q' := 97) d1_94 (by decide) rfl rfl (fun (h10 : ¬ ((z0 &&& (2147483647 : Int32)) % (12 : Int32)) = (9 : Int32)) => ?_) (fun (h10 : ((z0 &&& (2147483647 : Int32)) % (12 : Int32)) = (9 : Int32)) => ?_)
                    · refine Wk.iloadN (q := 102) d1_101 rfl rfl ?_
                      refine Wk.bipush (q := 104) (v := (10 : Int32)) d1_102 rfl rfl ?_
                      refine Wk.icmp (q := 111) (q' := 107) d1_104 (by decide) rfl rfl (fun (h11 : ¬ ((z0 &&& (2147483647 : Int32)) % (12 : Int32)) = (10 : Int32)) => ?_) (fun (h11 : ((z0 &&& (2147483647 : Int32)) % (12 : Int32)) = (10 : Int32)) => ?_)
                      · refine Wk.getS (q := 114) (w_72 hw) Via.refl F.s_CHOPSTICKS d1_111 rfl ?_
                        exact Wk.retA rfl rfl rfl d1_114 (by decide) (by decide) ⟨⟨_, rfl, _, rfl, F.x_CHOPSTICKS⟩, rfl⟩
                      · refine Wk.getS (q := 110) (w_70 hw) Via.refl F.s_WASABI d1_107 rfl ?_
                        exact Wk.retA rfl rfl rfl d1_110 (by decide) (by decide) ⟨⟨_, rfl, _, rfl, F.x_WASABI⟩, rfl⟩
                    · refine Wk.getS (q := 100) (w_78 hw) Via.refl F.s_PUDDING d1_97 rfl ?_
                      exact Wk.retA rfl rfl rfl d1_100 (by decide) (by decide) ⟨⟨_, rfl, _, rfl, F.x_PUDDING⟩, rfl⟩
                  · refine Wk.getS (q := 90) (w_68 hw) Via.refl F.s_EGG d1_87 rfl ?_
                    exact Wk.retA rfl rfl rfl d1_90 (by decide) (by decide) ⟨⟨_, rfl, _, rfl, F.x_EGG⟩, rfl⟩
                · refine Wk.getS (q := 80) (w_66 hw) Via.refl F.s_SQUID d1_77 rfl ?_
                  exact Wk.retA rfl rfl rfl d1_80 (by decide) (by decide) ⟨⟨_, rfl, _, rfl, F.x_SQUID⟩, rfl⟩
              · refine Wk.getS (q := 70) (w_80 hw) Via.refl F.s_SALMON d1_67 rfl ?_
                exact Wk.retA rfl rfl rfl d1_70 (by decide) (by decide) ⟨⟨_, rfl, _, rfl, F.x_SALMON⟩, rfl⟩
            · refine Wk.getS (q := 60) (w_76 hw) Via.refl F.s_MAKI3 d1_57 rfl ?_
              exact Wk.retA rfl rfl rfl d1_60 (by decide) (by decide) ⟨⟨_, rfl, _, rfl, F.x_MAKI3⟩, rfl⟩
          · refine Wk.getS (q := 51) (w_64 hw) Via.refl F.s_MAKI2 d1_48 rfl ?_
            exact Wk.retA rfl rfl rfl d1_51 (by decide) (by decide) ⟨⟨_, rfl, _, rfl, F.x_MAKI2⟩, rfl⟩
        · refine Wk.getS (q := 42) (w_8 hw) Via.refl F.s_MAKI1 d1_39 rfl ?_
          exact Wk.retA rfl rfl rfl d1_42 (by decide) (by decide) ⟨⟨_, rfl, _, rfl, F.x_MAKI1⟩, rfl⟩
      · refine Wk.getS (q := 33) (w_10 hw) Via.refl F.s_DUMPLING d1_30 rfl ?_
        exact Wk.retA rfl rfl rfl d1_33 (by decide) (by decide) ⟨⟨_, rfl, _, rfl, F.x_DUMPLING⟩, rfl⟩
    · refine Wk.getS (q := 24) (w_74 hw) Via.refl F.s_SASHIMI d1_21 rfl ?_
      exact Wk.retA rfl rfl rfl d1_24 (by decide) (by decide) ⟨⟨_, rfl, _, rfl, F.x_SASHIMI⟩, rfl⟩
  · refine Wk.getS (q := 15) (w_5 hw) Via.refl F.s_TEMPURA d1_12 rfl ?_
    exact Wk.retA rfl rfl rfl d1_15 (by decide) (by decide) ⟨⟨_, rfl, _, rfl, F.x_TEMPURA⟩, rfl⟩
set_option maxRecDepth 65536 in
set_option maxHeartbeats 40000000 in
theorem law_all {l : Launch} {Z : State} {a0 : Array Value} {n0 : Nat} {a_TEMPURA a_MAKI1 a_DUMPLING a_MAKI2 a_SQUID a_EGG a_WASABI a_CHOPSTICKS a_SASHIMI a_MAKI3 a_PUDDING a_SALMON : Addr} (hw : ∀ d ∈ tables_1, d.before a0 Z = true) (F : OwnF Z Z.heap a_TEMPURA a_MAKI1 a_DUMPLING a_MAKI2 a_SQUID a_EGG a_WASABI a_CHOPSTICKS a_SASHIMI a_MAKI3 a_PUDDING a_SALMON) (hn : n0 ≤ Z.heap.size) (p0 p1 p2 p3 : Int32) : Met l Z n0 x code maxLocals ret room_1 #[(.int p0), (.int p1), (.int p2), (.int p3)] Z.heap (fun v _ => v = some (.int (1 : Int32))) := by
  refine Met.of_wk (ls := #[.val (.int p0), .val (.int p1), .val (.int p2), .val (.int p3), .unset, .unset, .unset, .unset, .unset]) (plainFor_of_name pn_5) (fun _ => rfl) ?_
  show Wk l Z n0 "com/example/kaiten_draft/kaitendraft/table/HandAppendPinLaw" "law" code maxLocals ret room_1 16 128 (fun v _ => v = some (.int (1 : Int32))) Z.heap 0 0 0 #[.val (.int p0), .val (.int p1), .val (.int p2), .val (.int p3), .unset, .unset, .unset, .unset, .unset] []
  refine Wk.iloadN (q := 1) at_0 rfl rfl ?_
  refine Wk.callS2 (q := 4) (argsL := [(.int p0)]) (rest := []) (fr := 0) (lo := 0) (P := fun w => ∃ y, w = .ref y ∧ Exa Z Z.heap y "com/example/kaiten_draft/kaitendraft/cards/Card") (m_pick hw F p0) (w_0 hw) (w_1 hw) (w_2 hw) (w_3 hw) (by decide) pd_3 rfl rfl rfl at_1 rfl (W := 0) rfl (by decide) (by decide) (by decide) (by decide) ?_
  rintro _ ⟨y1, rfl, xy1⟩
  refine Wk.astore (q := 6) (ls' := #[.val (.int p0), .val (.int p1), .val (.int p2), .val (.int p3), .val (.ref y1), .unset, .unset, .unset, .unset]) at_4 rfl rfl rfl ?_
  refine Wk.iloadN (q := 7) at_6 rfl rfl ?_
  refine Wk.callS2 (q := 10) (argsL := [(.int p1)]) (rest := []) (fr := 0) (lo := 0) (P := fun w => ∃ y, w = .ref y ∧ Exa Z Z.heap y "com/example/kaiten_draft/kaitendraft/cards/Card") (m_pick hw F p1) (w_0 hw) (w_1 hw) (w_2 hw) (w_3 hw) (by decide) pd_3 rfl rfl rfl at_7 rfl (W := 0) rfl (by decide) (by decide) (by decide) (by decide) ?_
  rintro _ ⟨y2, rfl, xy2⟩
  refine Wk.astore (q := 12) (ls' := #[.val (.int p0), .val (.int p1), .val (.int p2), .val (.int p3), .val (.ref y1), .val (.ref y2), .unset, .unset, .unset]) at_10 rfl rfl rfl ?_
  refine Wk.iloadN (q := 13) at_12 rfl rfl ?_
  refine Wk.callS2 (q := 16) (argsL := [(.int p2)]) (rest := []) (fr := 0) (lo := 0) (P := fun w => ∃ y, w = .ref y ∧ Exa Z Z.heap y "com/example/kaiten_draft/kaitendraft/cards/Card") (m_pick hw F p2) (w_0 hw) (w_1 hw) (w_2 hw) (w_3 hw) (by decide) pd_3 rfl rfl rfl at_13 rfl (W := 0) rfl (by decide) (by decide) (by decide) (by decide) ?_
  rintro _ ⟨y3, rfl, xy3⟩
  refine Wk.astore (q := 18) (ls' := #[.val (.int p0), .val (.int p1), .val (.int p2), .val (.int p3), .val (.ref y1), .val (.ref y2), .val (.ref y3), .unset, .unset]) at_16 rfl rfl rfl ?_
  refine Wk.new (q := 21) (w_12 hw) (w_13 hw) (w_14 hw) at_18 rfl (by decide) (by decide) ?_
  intro h1 a g1 E1 x D1
  have ge : n0 ≤ a := g1 ▸ hn
  have hn : n0 ≤ h1.size := Nat.le_trans hn E1.1
  have xy1 := xy1.ext E1
  have xy2 := xy2.ext E1
  have xy3 := xy3.ext E1
  have f_m : Fld Z h1 a "java/util/AbstractList" "modCount" "I" (.int (0 : Int32)) := D1 (Or.inl (w_33 hw)) (ty := .int) (by decide)
  have f_c : Fld Z h1 a "com/example/kaiten_draft/kaitendraft/table/Hand" "cards" "[Lcom/example/kaiten_draft/kaitendraft/cards/Card;" .null := D1 (Or.inr (w_37 hw)) (ty := (.array (.object "com/example/kaiten_draft/kaitendraft/cards/Card"))) (by decide)
  have f_s : Fld Z h1 a "com/example/kaiten_draft/kaitendraft/table/Hand" "size" "I" (.int (0 : Int32)) := D1 (Or.inl (w_44 hw)) (ty := .int) (by decide)
  refine Wk.dup (q := 22) at_21 rfl rfl ?_
  refine Wk.iconst (q := 23) (v := (3 : Int32)) at_22 rfl rfl ?_
  refine Wk.iloadN (q := 24) at_23 rfl rfl ?_
  refine Wk.bipush (q := 26) (v := (7 : Int32)) at_24 rfl rfl ?_
  refine Wk.iand (q := 27) (v := (p3 &&& (7 : Int32))) at_26 rfl rfl ?_
  refine Wk.iadd (q := 28) (v := ((3 : Int32) + (p3 &&& (7 : Int32)))) at_27 rfl rfl ?_
  refine Wk.special (q := 31) (a := a) (argsL := [(.int ((3 : Int32) + (p3 &&& (7 : Int32))))]) (rest := [(.ref a)]) (rm := (⟨3, 1, 10, 36⟩ : Room)) (Q' := fun h' => Keep _ h' [a] ∧ Exa Z h' a "com/example/kaiten_draft/kaitendraft/table/Hand" ∧ ∃ b c, Fld Z h' a "com/example/kaiten_draft/kaitendraft/table/Hand" "cards" "[Lcom/example/kaiten_draft/kaitendraft/cards/Card;" (.ref b) ∧ Fld Z h' a "com/example/kaiten_draft/kaitendraft/table/Hand" "size" "I" (.int (0 : Int32)) ∧ Arr Z h' b c (.object "com/example/kaiten_draft/kaitendraft/cards/Card") ∧ 3 ≤ c.slots.size ∧ Ovr Z c.cls "com/example/kaiten_draft/kaitendraft/cards/Card" ∧ n0 ≤ b ∧ b ≠ a) (m_hand hw ((3 : Int32) + (p3 &&& (7 : Int32))) (own_h p3).1 (own_h p3).2.1 (own_h p3).2.2 hn ge x f_m f_c f_s) rfl (w_15 hw) (w_16 hw) (w_17 hw) (w_14 hw) (by decide) pd_4 rfl rfl rfl at_28 rfl (W := 1) rfl (by decide) (by decide) (by decide) (by decide) ?_
  rintro h2 ⟨K, x, b, c, f_c, f_s, A, S, V, gb, ne⟩
  have xy1 := xy1.keep K
  have xy2 := xy2.keep K
  have xy3 := xy3.keep K
  refine Wk.astore (q := 33) (ls' := #[.val (.int p0), .val (.int p1), .val (.int p2), .val (.int p3), .val (.ref y1), .val (.ref y2), .val (.ref y3), .val (.ref a), .unset]) at_31 rfl rfl rfl ?_
  refine Wk.aload (q := 35) at_33 rfl rfl rfl ?_
  refine Wk.aload (q := 37) at_35 rfl rfl rfl ?_
  refine Wk.callV0 (q := 40) (a := a) (argsL := [(.ref y1)]) (rest := []) (rm := (⟨0, 0, 0, 0⟩ : Room)) (Q' := fun h' => Keep _ h' [a, b] ∧ Exa Z h' a "com/example/kaiten_draft/kaitendraft/table/Hand" ∧ Fld Z h' a "com/example/kaiten_draft/kaitendraft/table/Hand" "cards" "[Lcom/example/kaiten_draft/kaitendraft/cards/Card;" (.ref b) ∧ Fld Z h' a "com/example/kaiten_draft/kaitendraft/table/Hand" "size" "I" (.int (1 : Int32)) ∧ Arr Z h' b (Cell.setSlot _ 0 (.ref y1)) (.object "com/example/kaiten_draft/kaitendraft/cards/Card")) (m_app0 hw ge gb ne x f_c f_s A S V xy1) x (w_38 hw) (w_39 hw) (w_41 hw) (w_40 hw) (w_42 hw) (w_14 hw) (by decide) pd_5 rfl rfl rfl at_37 rfl (W := 0) rfl (by decide) (by decide) (by decide) (by decide) ?_
  rintro h2 ⟨K, x, f_c, f_s, A⟩
  have e_0 := own_hit3 (j := 0) (v := .ref y1) S (by decide)
  have S := own_sz3 (j := 0) (v := .ref y1) S
  have xy1 := xy1.keep K
  have xy2 := xy2.keep K
  have xy3 := xy3.keep K
  refine Wk.aload (q := 42) at_40 rfl rfl rfl ?_
  refine Wk.callV1 (a := a) (q := 45) (argsL := []) (rest := []) (fr := 0) (lo := 0) (v0 := (.int (1 : Int32))) (m_size1 hw f_s) x (w_46 hw) (w_47 hw) (w_49 hw) (w_48 hw) (w_50 hw) (w_14 hw) (by decide) pd_6 rfl rfl rfl at_42 rfl (W := 0) rfl (by decide) (by decide) (by decide) (by decide) ?_
  refine Wk.iconst (q := 46) (v := (1 : Int32)) at_45 rfl rfl ?_
  refine Wk.icmpF (q := 49) at_46 rfl (by decide : (1 : Int32) = (1 : Int32)) ?_
  refine Wk.aload (q := 51) at_49 rfl rfl rfl ?_
  refine Wk.iconst (q := 52) (v := (0 : Int32)) at_51 rfl rfl ?_
  refine Wk.callV1 (a := a) (q := 55) (argsL := [(.int (0 : Int32))]) (rest := []) (fr := 2) (lo := 27) (v0 := (.ref y1)) (m_get1_0 hw f_c f_s A S e_0) x (w_51 hw) (w_52 hw) (w_54 hw) (w_53 hw) (w_55 hw) (w_14 hw) (by decide) pd_3 rfl rfl rfl at_52 rfl (W := 0) rfl (by decide) (by decide) (by decide) (by decide) ?_
  refine Wk.aload (q := 57) at_55 rfl rfl rfl ?_
  refine Wk.acmpF (q := 60) at_57 rfl rfl rfl rfl ?_
  refine Wk.iconst (q := 61) (v := (1 : Int32)) at_60 rfl rfl ?_
  refine Wk.goto (q := 65) at_61 (by decide) rfl ?_
  refine Wk.istore (q := 67) (ls' := #[.val (.int p0), .val (.int p1), .val (.int p2), .val (.int p3), .val (.ref y1), .val (.ref y2), .val (.ref y3), .val (.ref a), .val (.int (1 : Int32))]) at_65 rfl rfl ?_
  refine Wk.aload (q := 69) at_67 rfl rfl rfl ?_
  refine Wk.aload (q := 71) at_69 rfl rfl rfl ?_
  refine Wk.callV0 (q := 74) (a := a) (argsL := [(.ref y2)]) (rest := []) (rm := (⟨0, 0, 0, 0⟩ : Room)) (Q' := fun h' => Keep _ h' [a, b] ∧ Exa Z h' a "com/example/kaiten_draft/kaitendraft/table/Hand" ∧ Fld Z h' a "com/example/kaiten_draft/kaitendraft/table/Hand" "cards" "[Lcom/example/kaiten_draft/kaitendraft/cards/Card;" (.ref b) ∧ Fld Z h' a "com/example/kaiten_draft/kaitendraft/table/Hand" "size" "I" (.int (2 : Int32)) ∧ Arr Z h' b (Cell.setSlot _ 1 (.ref y2)) (.object "com/example/kaiten_draft/kaitendraft/cards/Card")) (m_app1 hw ge gb ne x f_c f_s A S V xy2) x (w_38 hw) (w_39 hw) (w_41 hw) (w_40 hw) (w_42 hw) (w_14 hw) (by decide) pd_5 rfl rfl rfl at_71 rfl (W := 0) rfl (by decide) (by decide) (by decide) (by decide) ?_
  rintro h2 ⟨K, x, f_c, f_s, A⟩
  have e_0 := own_miss3 (sl := 1) (j := 0) (v := .ref y2) (by decide) e_0
  have e_1 := own_hit3 (j := 1) (v := .ref y2) S (by decide)
  have S := own_sz3 (j := 1) (v := .ref y2) S
  have xy1 := xy1.keep K
  have xy2 := xy2.keep K
  have xy3 := xy3.keep K
  refine Wk.iload (q := 76) at_74 rfl rfl ?_
  refine Wk.ifcF (q := 79) at_76 rfl (by decide : ¬ (1 : Int32) = (0 : Int32)) ?_
  refine Wk.aload (q := 81) at_79 rfl rfl rfl ?_
  refine Wk.callV1 (a := a) (q := 84) (argsL := []) (rest := []) (fr := 0) (lo := 0) (v0 := (.int (2 : Int32))) (m_size2 hw f_s) x (w_46 hw) (w_47 hw) (w_49 hw) (w_48 hw) (w_50 hw) (w_14 hw) (by decide) pd_6 rfl rfl rfl at_81 rfl (W := 0) rfl (by decide) (by decide) (by decide) (by decide) ?_
  refine Wk.iconst (q := 85) (v := (2 : Int32)) at_84 rfl rfl ?_
  refine Wk.icmpF (q := 88) at_85 rfl (by decide : (2 : Int32) = (2 : Int32)) ?_
  refine Wk.aload (q := 90) at_88 rfl rfl rfl ?_
  refine Wk.iconst (q := 91) (v := (1 : Int32)) at_90 rfl rfl ?_
  refine Wk.callV1 (a := a) (q := 94) (argsL := [(.int (1 : Int32))]) (rest := []) (fr := 2) (lo := 27) (v0 := (.ref y2)) (m_get2_1 hw f_c f_s A S e_1) x (w_51 hw) (w_52 hw) (w_54 hw) (w_53 hw) (w_55 hw) (w_14 hw) (by decide) pd_3 rfl rfl rfl at_91 rfl (W := 0) rfl (by decide) (by decide) (by decide) (by decide) ?_
  refine Wk.aload (q := 96) at_94 rfl rfl rfl ?_
  refine Wk.acmpF (q := 99) at_96 rfl rfl rfl rfl ?_
  refine Wk.iconst (q := 100) (v := (1 : Int32)) at_99 rfl rfl ?_
  refine Wk.goto (q := 104) at_100 (by decide) rfl ?_
  refine Wk.istore (q := 106) (ls' := #[.val (.int p0), .val (.int p1), .val (.int p2), .val (.int p3), .val (.ref y1), .val (.ref y2), .val (.ref y3), .val (.ref a), .val (.int (1 : Int32))]) at_104 rfl rfl ?_
  refine Wk.aload (q := 108) at_106 rfl rfl rfl ?_
  refine Wk.aload (q := 110) at_108 rfl rfl rfl ?_
  refine Wk.callV0 (q := 113) (a := a) (argsL := [(.ref y3)]) (rest := []) (rm := (⟨0, 0, 0, 0⟩ : Room)) (Q' := fun h' => Keep _ h' [a, b] ∧ Exa Z h' a "com/example/kaiten_draft/kaitendraft/table/Hand" ∧ Fld Z h' a "com/example/kaiten_draft/kaitendraft/table/Hand" "cards" "[Lcom/example/kaiten_draft/kaitendraft/cards/Card;" (.ref b) ∧ Fld Z h' a "com/example/kaiten_draft/kaitendraft/table/Hand" "size" "I" (.int (3 : Int32)) ∧ Arr Z h' b (Cell.setSlot _ 2 (.ref y3)) (.object "com/example/kaiten_draft/kaitendraft/cards/Card")) (m_app2 hw ge gb ne x f_c f_s A S V xy3) x (w_38 hw) (w_39 hw) (w_41 hw) (w_40 hw) (w_42 hw) (w_14 hw) (by decide) pd_5 rfl rfl rfl at_110 rfl (W := 0) rfl (by decide) (by decide) (by decide) (by decide) ?_
  rintro h2 ⟨K, x, f_c, f_s, A⟩
  have e_0 := own_miss3 (sl := 2) (j := 0) (v := .ref y3) (by decide) e_0
  have e_1 := own_miss3 (sl := 2) (j := 1) (v := .ref y3) (by decide) e_1
  have e_2 := own_hit3 (j := 2) (v := .ref y3) S (by decide)
  have S := own_sz3 (j := 2) (v := .ref y3) S
  have xy1 := xy1.keep K
  have xy2 := xy2.keep K
  have xy3 := xy3.keep K
  refine Wk.iload (q := 115) at_113 rfl rfl ?_
  refine Wk.ifcF (q := 118) at_115 rfl (by decide : ¬ (1 : Int32) = (0 : Int32)) ?_
  refine Wk.aload (q := 120) at_118 rfl rfl rfl ?_
  refine Wk.callV1 (a := a) (q := 123) (argsL := []) (rest := []) (fr := 0) (lo := 0) (v0 := (.int (3 : Int32))) (m_size3 hw f_s) x (w_46 hw) (w_47 hw) (w_49 hw) (w_48 hw) (w_50 hw) (w_14 hw) (by decide) pd_6 rfl rfl rfl at_120 rfl (W := 0) rfl (by decide) (by decide) (by decide) (by decide) ?_
  refine Wk.iconst (q := 124) (v := (3 : Int32)) at_123 rfl rfl ?_
  refine Wk.icmpF (q := 127) at_124 rfl (by decide : (3 : Int32) = (3 : Int32)) ?_
  refine Wk.aload (q := 129) at_127 rfl rfl rfl ?_
  refine Wk.iconst (q := 130) (v := (0 : Int32)) at_129 rfl rfl ?_
  refine Wk.callV1 (a := a) (q := 133) (argsL := [(.int (0 : Int32))]) (rest := []) (fr := 2) (lo := 27) (v0 := (.ref y1)) (m_get3_0 hw f_c f_s A S e_0) x (w_51 hw) (w_52 hw) (w_54 hw) (w_53 hw) (w_55 hw) (w_14 hw) (by decide) pd_3 rfl rfl rfl at_130 rfl (W := 0) rfl (by decide) (by decide) (by decide) (by decide) ?_
  refine Wk.aload (q := 135) at_133 rfl rfl rfl ?_
  refine Wk.acmpF (q := 138) at_135 rfl rfl rfl rfl ?_
  refine Wk.aload (q := 140) at_138 rfl rfl rfl ?_
  refine Wk.iconst (q := 141) (v := (1 : Int32)) at_140 rfl rfl ?_
  refine Wk.callV1 (a := a) (q := 144) (argsL := [(.int (1 : Int32))]) (rest := []) (fr := 2) (lo := 27) (v0 := (.ref y2)) (m_get3_1 hw f_c f_s A S e_1) x (w_51 hw) (w_52 hw) (w_54 hw) (w_53 hw) (w_55 hw) (w_14 hw) (by decide) pd_3 rfl rfl rfl at_141 rfl (W := 0) rfl (by decide) (by decide) (by decide) (by decide) ?_
  refine Wk.aload (q := 146) at_144 rfl rfl rfl ?_
  refine Wk.acmpF (q := 149) at_146 rfl rfl rfl rfl ?_
  refine Wk.aload (q := 151) at_149 rfl rfl rfl ?_
  refine Wk.iconst (q := 152) (v := (2 : Int32)) at_151 rfl rfl ?_
  refine Wk.callV1 (a := a) (q := 155) (argsL := [(.int (2 : Int32))]) (rest := []) (fr := 2) (lo := 27) (v0 := (.ref y3)) (m_get3_2 hw f_c f_s A S e_2) x (w_51 hw) (w_52 hw) (w_54 hw) (w_53 hw) (w_55 hw) (w_14 hw) (by decide) pd_3 rfl rfl rfl at_152 rfl (W := 0) rfl (by decide) (by decide) (by decide) (by decide) ?_
  refine Wk.aload (q := 157) at_155 rfl rfl rfl ?_
  refine Wk.acmpF (q := 160) at_157 rfl rfl rfl rfl ?_
  refine Wk.iconst (q := 161) (v := (1 : Int32)) at_160 rfl rfl ?_
  refine Wk.goto (q := 165) at_161 (by decide) rfl ?_
  refine Wk.istore (q := 167) (ls' := #[.val (.int p0), .val (.int p1), .val (.int p2), .val (.int p3), .val (.ref y1), .val (.ref y2), .val (.ref y3), .val (.ref a), .val (.int (1 : Int32))]) at_165 rfl rfl ?_
  refine Wk.iload (q := 169) at_167 rfl rfl ?_
  exact Wk.retZ rfl rfl at_169 (by decide) (by decide) rfl
set_option maxRecDepth 65536 in
set_option maxHeartbeats 40000000 in
theorem comes_1 {Post : Tables → Env → Array Value → State → Outcome → State → Prop} (hpost : ∀ tb e args s v u, (limb_1_1.after args s (.returned v) u = true ∧ limb_1_2.after args s (.returned v) u = true ∧ True) → FrameEnd s (.returned v) u (Jvm.fieldLocs frame_1_writes args s ++ Jvm.arrayLocs frame_1_arrays args s ++ Jvm.staticLocs frame_1_statics s) 16 128 → Post tb e args s (.returned v) u) :
    ArmFor flags0 classFile x code maxLocals ret World_1 tables_1 room_1 Calls_1 rest_1 Pre_1 Post := by
  intro l hfl _ _ p e ha hc hk s m args below hf hA hF happ hP
  obtain ⟨hcalls, hrest, hpre⟩ := hP
  obtain ⟨-, -, -, hnamed, -, -, -, hat⟩ := (Spec.applies_iff hf).mp happ
  obtain ⟨hg, hn⟩ := and_e (Cond.before_iff.mp (show (Jvm.Cond.and given_1 narrow_1).before args s = true from hpre))
  obtain ⟨h1, g0⟩ := and_e hg
  obtain ⟨w0, w1, w2, w3, rfl⟩ : ∃ w0 w1 w2 w3 : Value, args = #[w0, w1, w2, w3] := by
    have hs : args.size = 4 := by simpa [Cond.value, given_1] using h1
    obtain ⟨L⟩ := args
    match L, hs with
    | [w0, w1, w2, w3], _ => exact ⟨w0, w1, w2, w3, rfl⟩
  have hw := fun d (hd : d ∈ tables_1) => atoms_spec (ws := Jvm.Cond.code x code maxLocals ret :: tables_1) hat d (List.mem_cons_of_mem _ hd)
  have hfit : Fit s := fun {y c} hc i hi => by
    obtain ⟨ha, rfl⟩ := Array.getElem?_eq_some_iff.mp hc
    have q := List.all_eq_true.mp ((Array.all_eq_true_iff_forall_mem.mp hF) _ (Array.getElem_mem ha)) i (List.mem_range.mpr hi)
    simpa [Array.getElem?_eq_getElem hi] using q
  obtain ⟨q0, g1⟩ := and_e g0
  obtain ⟨i0, e0⟩ := is_v q0
  obtain rfl : w0 = (.int i0) := Option.some.inj e0
  obtain ⟨q1, g2⟩ := and_e g1
  obtain ⟨i1, e1⟩ := is_v q1
  obtain rfl : w1 = (.int i1) := Option.some.inj e1
  obtain ⟨q2, g3⟩ := and_e g2
  obtain ⟨i2, e2⟩ := is_v q2
  obtain rfl : w2 = (.int i2) := Option.some.inj e2
  obtain ⟨i3, e3⟩ := is_v g3
  obtain rfl : w3 = (.int i3) := Option.some.inj e3
  obtain ⟨k1a, k1b⟩ := and_e hn
  obtain ⟨k2a, k2b⟩ := and_e k1b
  obtain ⟨k3a, k3b⟩ := and_e k2b
  obtain ⟨k4a, k4b⟩ := and_e k3b
  obtain ⟨k5a, k5b⟩ := and_e k4b
  obtain ⟨k6a, k6b⟩ := and_e k5b
  obtain ⟨k7a, k7b⟩ := and_e k6b
  obtain ⟨k8a, k8b⟩ := and_e k7b
  obtain ⟨k9a, k9b⟩ := and_e k8b
  obtain ⟨k10a, k10b⟩ := and_e k9b
  obtain ⟨k11a, k11b⟩ := and_e k10b
  obtain ⟨a_TEMPURA, v_TEMPURA, s_TEMPURA, x_TEMPURA⟩ := own_exa k1a (w_6 hw) (w_7 hw)
  obtain ⟨a_MAKI1, v_MAKI1, s_MAKI1, x_MAKI1⟩ := own_exa k2a (w_6 hw) (w_9 hw)
  obtain ⟨a_DUMPLING, v_DUMPLING, s_DUMPLING, x_DUMPLING⟩ := own_exa k3a (w_6 hw) (w_11 hw)
  obtain ⟨a_MAKI2, v_MAKI2, s_MAKI2, x_MAKI2⟩ := own_exa k4a (w_6 hw) (w_65 hw)
  obtain ⟨a_SQUID, v_SQUID, s_SQUID, x_SQUID⟩ := own_exa k5a (w_6 hw) (w_67 hw)
  obtain ⟨a_EGG, v_EGG, s_EGG, x_EGG⟩ := own_exa k6a (w_6 hw) (w_69 hw)
  obtain ⟨a_WASABI, v_WASABI, s_WASABI, x_WASABI⟩ := own_exa k7a (w_6 hw) (w_71 hw)
  obtain ⟨a_CHOPSTICKS, v_CHOPSTICKS, s_CHOPSTICKS, x_CHOPSTICKS⟩ := own_exa k8a (w_6 hw) (w_73 hw)
  obtain ⟨a_SASHIMI, v_SASHIMI, s_SASHIMI, x_SASHIMI⟩ := own_exa k9a (w_6 hw) (w_75 hw)
  obtain ⟨a_MAKI3, v_MAKI3, s_MAKI3, x_MAKI3⟩ := own_exa k10a (w_6 hw) (w_77 hw)
  obtain ⟨a_PUDDING, v_PUDDING, s_PUDDING, x_PUDDING⟩ := own_exa k11a (w_6 hw) (w_79 hw)
  obtain ⟨a_SALMON, v_SALMON, s_SALMON, x_SALMON⟩ := own_exa k11b (w_6 hw) (w_81 hw)
  obtain ⟨n, o, h1, h2, h3, _, L, rfl, ⟨N, rfl⟩, hq⟩ := (law_all (l := l) (n0 := s.heap.size) hw ⟨s_TEMPURA, x_TEMPURA, s_MAKI1, x_MAKI1, s_DUMPLING, x_DUMPLING, s_MAKI2, x_MAKI2, s_SQUID, x_SQUID, s_EGG, x_EGG, s_WASABI, x_WASABI, s_CHOPSTICKS, x_CHOPSTICKS, s_SASHIMI, x_SASHIMI, s_MAKI3, x_MAKI3, s_PUDDING, x_PUDDING, s_SALMON, x_SALMON⟩ (Nat.le_refl _) i0 i1 i2 i3) tables_1 p e ha hc hk s m _ below hf ((Spec.applies_iff_loose hf).mp happ).1 ⟨rfl, State.Warmed39.refl s, rfl⟩ trivial
  refine ⟨n, _, h1, h2, h3, hpost _ _ _ _ _ _ ⟨Cond.after_iff.mpr rfl, Cond.after_iff.mpr (eq_i res_at (Term.int_eval (1)) rfl), trivial⟩ ⟨hq.1, hq.2.1, (hq.2.2.sift fun y hy => Or.inr (N y hy)).mono (by decide) (by decide)⟩⟩
theorem main_1_1 : Claimed_1_1 := comes_1 fun _ _ _ _ _ _ h hF => ⟨h.1, hF⟩
theorem main_1_2 : Claimed_1_2 := comes_1 fun _ _ _ _ _ _ h hF => ⟨h.2.1, hF⟩
end Jvm.Pilot.@@N@@
namespace Jvm.Pilot.@@N@@
open Jvm Jvm.ClassFile Sem Op Lib Jvm.Free Jvm.Stand Jvm.Pilot.@@N@@.Jvm.D
/-! MADE BY PROGRAM (witnessworld.py) out of the Statement's table words and the real class files: 23 classes; the members and pool entries that the words name. The judged class is class 1, her method 2. -/
namespace start1
open Jvm.ClassFile
def u (s : String) : CpInfo := .utf8 (stringToUtf16 s)
/-- a pool by its gaps: so many unusable entries, then the entry; so many at the end -/
def gap : Nat → List CpInfo → List CpInfo
  | 0, r => r
  | n + 1, r => .unusable :: gap n r
def poolList (es : List (Nat × CpInfo)) (last : Nat) : List CpInfo := es.foldr (fun e r => gap e.1 (e.2 :: r)) (gap last [])
def pool (es : List (Nat × CpInfo)) (last : Nat) : Array CpInfo := ⟨poolList es last⟩
def fileOf (pool : Array CpInfo) (this : Nat) (attrs : Array Attribute := #[]) (ms : Array MethodInfo := #[]) (fl : Nat := 33) (sup : Nat := 0) (ifs : Array Nat := #[]) (fds : Array FieldInfo := #[]) : ClassFile where
  minorVersion := 0
  majorVersion := 65
  constantPool := pool
  accessFlags := fl
  thisClass := this
  superClass := sup
  interfaces := ifs
  fields := fds
  methods := ms
  attributes := attrs
def plain (name : String) (sup : Option ClassId) : Class where
  name := name
  kind := .ordinary
  loader := none
  accessFlags := 33
  super := sup
  interfaces := #[]
  cf := none
  fields := #[]
  methods := #[]
  instanceTypes := #[]
  staticTypes := #[]
  resolved := #[]
  callSites := []
  init := .initialized
  statics := none
  mirror := none

def pool0 : Array CpInfo := pool [(5, u "<init>"), (0, u "()V"), (1, .class_ 10), (1, u "java/lang/Object")] 113

def k0c0 : Code := { maxStack := 0, maxLocals := 1, code := object_method_1_code, exceptionTable := #[], attributes := #[] }
def k0m0 : Method := { name := "<init>", desc := "()V", sig := { parameters := [], returnType := none }, accessFlags := 1, code := some k0c0 }
/-- java/lang/Object -/
def k0 : Class := { plain "java/lang/Object" none with
  accessFlags := 33
  interfaces := #[]
  cf := some (fileOf pool0 8 #[] #[{ accessFlags := 1, nameIndex := 5, descriptorIndex := 6, attributes := #[] }] 33 0 #[] #[])
  fields := #[]
  methods := #[k0m0]
  instanceTypes := #[]
  staticTypes := #[]
  resolved := Array.replicate 124 none
  statics := none }

def pool1 : Array CpInfo := pool [(2, .class_ 4), (1, u "java/lang/Object"), (0, u "<init>"), (0, u "()V"), (0, .integer 2147483647), (0, .fieldref 9 10), (0, .class_ 11), (0, .nameAndType 12 13), (0, u "com/example/kaiten_draft/kaitendraft/cards/Card"), (0, u "TEMPURA"), (0, u "Lcom/example/kaiten_draft/kaitendraft/cards/Card;"), (0, .fieldref 9 15), (0, .nameAndType 16 13), (0, u "SASHIMI"), (0, .fieldref 9 18), (0, .nameAndType 19 13), (0, u "DUMPLING"), (0, .fieldref 9 21), (0, .nameAndType 22 13), (0, u "MAKI1"), (0, .fieldref 9 24), (0, .nameAndType 25 13), (0, u "MAKI2"), (0, .fieldref 9 27), (0, .nameAndType 28 13), (0, u "MAKI3"), (0, .fieldref 9 30), (0, .nameAndType 31 13), (0, u "SALMON"), (0, .fieldref 9 33), (0, .nameAndType 34 13), (0, u "SQUID"), (0, .fieldref 9 36), (0, .nameAndType 37 13), (0, u "EGG"), (0, .fieldref 9 39), (0, .nameAndType 40 13), (0, u "PUDDING"), (0, .fieldref 9 42), (0, .nameAndType 43 13), (0, u "WASABI"), (0, .fieldref 9 45), (0, .nameAndType 46 13), (0, u "CHOPSTICKS"), (0, .methodref 48 49), (0, .class_ 50), (0, .nameAndType 51 52), (0, u "com/example/kaiten_draft/kaitendraft/table/HandAppendPinLaw"), (0, u "pick"), (0, u "(I)Lcom/example/kaiten_draft/kaitendraft/cards/Card;"), (0, .class_ 54), (0, u "com/example/kaiten_draft/kaitendraft/table/Hand"), (0, .methodref 53 56), (0, .nameAndType 5 57), (0, u "(I)V"), (0, .methodref 53 59), (0, .nameAndType 60 61), (0, u "append"), (0, u "(Lcom/example/kaiten_draft/kaitendraft/cards/Card;)V"), (0, .methodref 53 63), (0, .nameAndType 64 65), (0, u "size"), (0, u "()I"), (0, .methodref 53 67), (0, .nameAndType 68 52), (0, u "get"), (3, u "law"), (0, u "(IIII)Z")] 2

def k1m0 : Method := { name := "<init>", desc := "()V", sig := { parameters := [], returnType := none }, accessFlags := 1, code := none }
def k1c1 : Code := { maxStack := 2, maxLocals := 2, code := method_2_code, exceptionTable := #[], attributes := #[] }
def k1m1 : Method := { name := "pick", desc := "(I)Lcom/example/kaiten_draft/kaitendraft/cards/Card;", sig := { parameters := [.int], returnType := some (.object "com/example/kaiten_draft/kaitendraft/cards/Card") }, accessFlags := 10, code := some k1c1 }
def k1c2 : Code := { maxStack := 5, maxLocals := 9, code := code, exceptionTable := #[], attributes := #[] }
def k1m2 : Method := { name := "law", desc := "(IIII)Z", sig := { parameters := [.int, .int, .int, .int], returnType := some .boolean }, accessFlags := 9, code := some k1c2 }
/-- com/example/kaiten_draft/kaitendraft/table/HandAppendPinLaw -/
def k1 : Class := { plain "com/example/kaiten_draft/kaitendraft/table/HandAppendPinLaw" (some 0) with
  accessFlags := 49
  interfaces := #[]
  cf := some (fileOf pool1 48 #[] #[{ accessFlags := 1, nameIndex := 5, descriptorIndex := 6, attributes := #[] }, { accessFlags := 10, nameIndex := 51, descriptorIndex := 52, attributes := #[] }, { accessFlags := 9, nameIndex := 72, descriptorIndex := 73, attributes := #[] }] 49 2 #[] #[])
  fields := #[]
  methods := #[k1m0, k1m1, k1m2]
  instanceTypes := #[]
  staticTypes := #[]
  resolved := Array.replicate 76 none
  statics := none }

def pool2 : Array CpInfo := pool [(1, .class_ 2), (0, u "java/lang/constant/Constable"), (0, .class_ 4), (0, u "java/lang/Object")] 6

/-- java/lang/constant/Constable -/
def k2 : Class := { plain "java/lang/constant/Constable" (some 0) with
  accessFlags := 1537
  interfaces := #[]
  cf := some (fileOf pool2 1 #[] #[] 1537 3 #[] #[])
  fields := #[]
  methods := #[]
  instanceTypes := #[]
  staticTypes := #[]
  resolved := Array.replicate 11 none
  statics := none }

def pool3 : Array CpInfo := pool [(1, .class_ 2), (0, u "java/lang/Comparable"), (0, .class_ 4), (0, u "java/lang/Object")] 7

/-- java/lang/Comparable -/
def k3 : Class := { plain "java/lang/Comparable" (some 0) with
  accessFlags := 1537
  interfaces := #[]
  cf := some (fileOf pool3 1 #[] #[] 1537 3 #[] #[])
  fields := #[]
  methods := #[]
  instanceTypes := #[]
  staticTypes := #[]
  resolved := Array.replicate 12 none
  statics := none }

def pool4 : Array CpInfo := pool [(1, .class_ 2), (0, u "java/io/Serializable"), (0, .class_ 4), (0, u "java/lang/Object")] 2

/-- java/io/Serializable -/
def k4 : Class := { plain "java/io/Serializable" (some 0) with
  accessFlags := 1537
  interfaces := #[]
  cf := some (fileOf pool4 1 #[] #[] 1537 3 #[] #[])
  fields := #[]
  methods := #[]
  instanceTypes := #[]
  staticTypes := #[]
  resolved := Array.replicate 7 none
  statics := none }

def pool5 : Array CpInfo := pool [(2, .class_ 4), (1, u "java/lang/Enum"), (0, u "name"), (0, u "Ljava/lang/String;"), (2, u "ordinal"), (0, u "I"), (1, .class_ 14), (1, u "java/lang/Object"), (4, u "hash"), (86, .class_ 108), (1, u "java/lang/Enum$EnumDesc"), (2, .class_ 112), (0, u "java/lang/constant/Constable"), (0, .class_ 114), (0, u "java/lang/Comparable"), (0, .class_ 116), (0, u "java/io/Serializable")] 87

/-- java/lang/Enum -/
def k5 : Class := { plain "java/lang/Enum" (some 0) with
  accessFlags := 1057
  interfaces := #[2, 3, 4]
  cf := some (fileOf pool5 2 #[.nestMembers #[106]] #[] 1057 12 #[111, 113, 115] #[{ accessFlags := 18, nameIndex := 5, descriptorIndex := 6, attributes := #[] }, { accessFlags := 18, nameIndex := 9, descriptorIndex := 10, attributes := #[] }, { accessFlags := 2, nameIndex := 19, descriptorIndex := 10, attributes := #[] }])
  fields := #[{ name := "name", type := (.object "java/lang/String"), accessFlags := 18, slot := 0, constantValue := 0 }, { name := "ordinal", type := .int, accessFlags := 18, slot := 1, constantValue := 0 }, { name := "hash", type := .int, accessFlags := 2, slot := 2, constantValue := 0 }]
  methods := #[]
  instanceTypes := #[(.object "java/lang/String"), .int, .int]
  staticTypes := #[]
  resolved := Array.replicate 204 none
  statics := none }

def pool6 : Array CpInfo := pool [(1, .class_ 2), (0, u "com/example/kaiten_draft/kaitendraft/cards/Card"), (2, u "TEMPURA"), (0, u "Lcom/example/kaiten_draft/kaitendraft/cards/Card;"), (2, u "SASHIMI"), (2, u "DUMPLING"), (2, u "MAKI1"), (2, u "MAKI2"), (2, u "MAKI3"), (2, u "SALMON"), (2, u "SQUID"), (2, u "EGG"), (2, u "PUDDING"), (2, u "WASABI"), (2, u "CHOPSTICKS"), (2, u "$VALUES"), (0, u "[Lcom/example/kaiten_draft/kaitendraft/cards/Card;"), (6, .class_ 52), (1, u "java/lang/Enum"), (8, u "word"), (0, u "Ljava/lang/String;"), (2, u "copiesInDeck"), (0, u "I"), (2, u "BY_WORD"), (0, u "Ljava/util/Map;")] 94

/-- com/example/kaiten_draft/kaitendraft/cards/Card -/
def k6 : Class := { plain "com/example/kaiten_draft/kaitendraft/cards/Card" (some 5) with
  accessFlags := 16433
  interfaces := #[]
  cf := some (fileOf pool6 1 #[] #[] 16433 50 #[] #[{ accessFlags := 16409, nameIndex := 5, descriptorIndex := 6, attributes := #[] }, { accessFlags := 16409, nameIndex := 9, descriptorIndex := 6, attributes := #[] }, { accessFlags := 16409, nameIndex := 12, descriptorIndex := 6, attributes := #[] }, { accessFlags := 16409, nameIndex := 15, descriptorIndex := 6, attributes := #[] }, { accessFlags := 16409, nameIndex := 18, descriptorIndex := 6, attributes := #[] }, { accessFlags := 16409, nameIndex := 21, descriptorIndex := 6, attributes := #[] }, { accessFlags := 16409, nameIndex := 24, descriptorIndex := 6, attributes := #[] }, { accessFlags := 16409, nameIndex := 27, descriptorIndex := 6, attributes := #[] }, { accessFlags := 16409, nameIndex := 30, descriptorIndex := 6, attributes := #[] }, { accessFlags := 16409, nameIndex := 33, descriptorIndex := 6, attributes := #[] }, { accessFlags := 16409, nameIndex := 36, descriptorIndex := 6, attributes := #[] }, { accessFlags := 16409, nameIndex := 39, descriptorIndex := 6, attributes := #[] }, { accessFlags := 26, nameIndex := 69, descriptorIndex := 70, attributes := #[] }, { accessFlags := 18, nameIndex := 61, descriptorIndex := 62, attributes := #[] }, { accessFlags := 18, nameIndex := 65, descriptorIndex := 66, attributes := #[] }, { accessFlags := 4122, nameIndex := 42, descriptorIndex := 43, attributes := #[] }])
  fields := #[{ name := "TEMPURA", type := (.object "com/example/kaiten_draft/kaitendraft/cards/Card"), accessFlags := 16409, slot := 0, constantValue := 0 }, { name := "SASHIMI", type := (.object "com/example/kaiten_draft/kaitendraft/cards/Card"), accessFlags := 16409, slot := 1, constantValue := 0 }, { name := "DUMPLING", type := (.object "com/example/kaiten_draft/kaitendraft/cards/Card"), accessFlags := 16409, slot := 2, constantValue := 0 }, { name := "MAKI1", type := (.object "com/example/kaiten_draft/kaitendraft/cards/Card"), accessFlags := 16409, slot := 3, constantValue := 0 }, { name := "MAKI2", type := (.object "com/example/kaiten_draft/kaitendraft/cards/Card"), accessFlags := 16409, slot := 4, constantValue := 0 }, { name := "MAKI3", type := (.object "com/example/kaiten_draft/kaitendraft/cards/Card"), accessFlags := 16409, slot := 5, constantValue := 0 }, { name := "SALMON", type := (.object "com/example/kaiten_draft/kaitendraft/cards/Card"), accessFlags := 16409, slot := 6, constantValue := 0 }, { name := "SQUID", type := (.object "com/example/kaiten_draft/kaitendraft/cards/Card"), accessFlags := 16409, slot := 7, constantValue := 0 }, { name := "EGG", type := (.object "com/example/kaiten_draft/kaitendraft/cards/Card"), accessFlags := 16409, slot := 8, constantValue := 0 }, { name := "PUDDING", type := (.object "com/example/kaiten_draft/kaitendraft/cards/Card"), accessFlags := 16409, slot := 9, constantValue := 0 }, { name := "WASABI", type := (.object "com/example/kaiten_draft/kaitendraft/cards/Card"), accessFlags := 16409, slot := 10, constantValue := 0 }, { name := "CHOPSTICKS", type := (.object "com/example/kaiten_draft/kaitendraft/cards/Card"), accessFlags := 16409, slot := 11, constantValue := 0 }, { name := "BY_WORD", type := (.object "java/util/Map"), accessFlags := 26, slot := 12, constantValue := 0 }, { name := "word", type := (.object "java/lang/String"), accessFlags := 18, slot := 3, constantValue := 0 }, { name := "copiesInDeck", type := .int, accessFlags := 18, slot := 4, constantValue := 0 }, { name := "$VALUES", type := (.array (.object "com/example/kaiten_draft/kaitendraft/cards/Card")), accessFlags := 4122, slot := 13, constantValue := 0 }]
  methods := #[]
  instanceTypes := #[(.object "java/lang/String"), .int, .int, (.object "java/lang/String"), .int]
  staticTypes := #[(.object "com/example/kaiten_draft/kaitendraft/cards/Card"), (.object "com/example/kaiten_draft/kaitendraft/cards/Card"), (.object "com/example/kaiten_draft/kaitendraft/cards/Card"), (.object "com/example/kaiten_draft/kaitendraft/cards/Card"), (.object "com/example/kaiten_draft/kaitendraft/cards/Card"), (.object "com/example/kaiten_draft/kaitendraft/cards/Card"), (.object "com/example/kaiten_draft/kaitendraft/cards/Card"), (.object "com/example/kaiten_draft/kaitendraft/cards/Card"), (.object "com/example/kaiten_draft/kaitendraft/cards/Card"), (.object "com/example/kaiten_draft/kaitendraft/cards/Card"), (.object "com/example/kaiten_draft/kaitendraft/cards/Card"), (.object "com/example/kaiten_draft/kaitendraft/cards/Card"), (.object "java/util/Map"), (.array (.object "com/example/kaiten_draft/kaitendraft/cards/Card"))]
  resolved := Array.replicate 165 none
  statics := some 0 }

def pool7 : Array CpInfo := pool [(8, .class_ 10), (1, u "java/lang/Iterable"), (24, .class_ 36), (0, u "java/lang/Object")] 25

/-- java/lang/Iterable -/
def k7 : Class := { plain "java/lang/Iterable" (some 0) with
  accessFlags := 1537
  interfaces := #[]
  cf := some (fileOf pool7 8 #[] #[] 1537 35 #[] #[])
  fields := #[]
  methods := #[]
  instanceTypes := #[]
  staticTypes := #[]
  resolved := Array.replicate 62 none
  statics := none }

def pool8 : Array CpInfo := pool [(10, .class_ 12), (1, u "java/util/Collection"), (47, .class_ 61), (0, u "java/lang/Object"), (0, .class_ 63), (0, u "java/lang/Iterable")] 51

/-- java/util/Collection -/
def k8 : Class := { plain "java/util/Collection" (some 0) with
  accessFlags := 1537
  interfaces := #[7]
  cf := some (fileOf pool8 10 #[] #[] 1537 60 #[62] #[])
  fields := #[]
  methods := #[]
  instanceTypes := #[]
  staticTypes := #[]
  resolved := Array.replicate 115 none
  statics := none }

def pool9 : Array CpInfo := pool [(1, .methodref 2 3), (0, .class_ 4), (0, .nameAndType 5 6), (0, u "java/lang/Object"), (0, u "<init>"), (0, u "()V"), (1, .class_ 10), (1, u "java/util/AbstractCollection"), (66, .class_ 78), (0, u "java/util/Collection")] 81

def k9c0 : Code := { maxStack := 1, maxLocals := 1, code := jdk_22_method_1_code, exceptionTable := #[], attributes := #[] }
def k9m0 : Method := { name := "<init>", desc := "()V", sig := { parameters := [], returnType := none }, accessFlags := 4, code := some k9c0 }
/-- java/util/AbstractCollection -/
def k9 : Class := { plain "java/util/AbstractCollection" (some 0) with
  accessFlags := 1057
  interfaces := #[8]
  cf := some (fileOf pool9 8 #[] #[{ accessFlags := 4, nameIndex := 5, descriptorIndex := 6, attributes := #[] }] 1057 2 #[77] #[])
  fields := #[]
  methods := #[k9m0]
  instanceTypes := #[]
  staticTypes := #[]
  resolved := Array.replicate 160 none
  statics := none }

def pool10 : Array CpInfo := pool [(8, .class_ 10), (1, u "java/util/SequencedCollection"), (15, .class_ 27), (0, u "java/lang/Object"), (0, .class_ 29), (0, u "java/util/Collection")] 27

/-- java/util/SequencedCollection -/
def k10 : Class := { plain "java/util/SequencedCollection" (some 0) with
  accessFlags := 1537
  interfaces := #[8]
  cf := some (fileOf pool10 8 #[] #[] 1537 26 #[28] #[])
  fields := #[]
  methods := #[]
  instanceTypes := #[]
  staticTypes := #[]
  resolved := Array.replicate 57 none
  statics := none }

def pool11 : Array CpInfo := pool [(8, .class_ 10), (1, u "java/util/List"), (92, .class_ 104), (0, u "java/lang/Object"), (15, .class_ 121), (0, u "java/util/SequencedCollection")] 129

/-- java/util/List -/
def k11 : Class := { plain "java/util/List" (some 0) with
  accessFlags := 1537
  interfaces := #[10]
  cf := some (fileOf pool11 8 #[] #[] 1537 103 #[120] #[])
  fields := #[]
  methods := #[]
  instanceTypes := #[]
  staticTypes := #[]
  resolved := Array.replicate 251 none
  statics := none }

def pool12 : Array CpInfo := pool [(1, .methodref 2 3), (0, .class_ 4), (0, .nameAndType 5 6), (0, u "java/util/AbstractCollection"), (0, u "<init>"), (0, u "()V"), (0, .fieldref 8 9), (0, .class_ 10), (0, .nameAndType 11 12), (0, u "java/util/AbstractList"), (0, u "modCount"), (0, u "I"), (64, .class_ 78), (0, u "java/util/AbstractList$Itr"), (3, .class_ 83), (0, u "java/util/AbstractList$ListItr"), (9, .class_ 94), (0, u "java/util/AbstractList$RandomAccessSubList"), (3, .class_ 99), (0, u "java/util/AbstractList$SubList"), (33, .class_ 134), (0, u "java/util/List"), (73, .class_ 209), (0, u "java/util/AbstractList$SubList$1"), (0, .class_ 211), (0, u "java/util/AbstractList$RandomAccessSpliterator")] 6

def k12c0 : Code := { maxStack := 2, maxLocals := 1, code := jdk_39_method_1_code, exceptionTable := #[], attributes := #[] }
def k12m0 : Method := { name := "<init>", desc := "()V", sig := { parameters := [], returnType := none }, accessFlags := 4, code := some k12c0 }
/-- java/util/AbstractList -/
def k12 : Class := { plain "java/util/AbstractList" (some 9) with
  accessFlags := 1057
  interfaces := #[11]
  cf := some (fileOf pool12 8 #[.nestMembers #[93, 98, 208, 210, 82, 77]] #[{ accessFlags := 4, nameIndex := 5, descriptorIndex := 6, attributes := #[] }] 1057 2 #[133] #[{ accessFlags := 132, nameIndex := 11, descriptorIndex := 12, attributes := #[] }])
  fields := #[{ name := "modCount", type := .int, accessFlags := 132, slot := 0, constantValue := 0 }]
  methods := #[k12m0]
  instanceTypes := #[.int]
  staticTypes := #[]
  resolved := Array.replicate 218 none
  statics := none }

def pool13 : Array CpInfo := pool [(1, .class_ 2), (0, u "java/util/RandomAccess"), (0, .class_ 4), (0, u "java/lang/Object")] 2

/-- java/util/RandomAccess -/
def k13 : Class := { plain "java/util/RandomAccess" (some 0) with
  accessFlags := 1537
  interfaces := #[]
  cf := some (fileOf pool13 1 #[] #[] 1537 3 #[] #[])
  fields := #[]
  methods := #[]
  instanceTypes := #[]
  staticTypes := #[]
  resolved := Array.replicate 7 none
  statics := none }

def pool14 : Array CpInfo := pool [(1, .methodref 2 3), (0, .class_ 4), (0, .nameAndType 5 6), (0, u "java/util/AbstractList"), (0, u "<init>"), (0, u "()V"), (0, .class_ 8), (0, u "com/example/kaiten_draft/kaitendraft/cards/Card"), (0, .fieldref 10 11), (0, .class_ 12), (0, .nameAndType 13 14), (0, u "com/example/kaiten_draft/kaitendraft/table/Hand"), (0, u "cards"), (0, u "[Lcom/example/kaiten_draft/kaitendraft/cards/Card;"), (0, .fieldref 10 16), (0, .nameAndType 17 18), (0, u "size"), (0, u "I"), (0, .methodref 20 21), (0, .class_ 22), (0, .nameAndType 23 24), (0, u "java/util/Objects"), (0, u "checkIndex"), (0, u "(II)I"), (2, u "get"), (0, u "(I)Lcom/example/kaiten_draft/kaitendraft/cards/Card;"), (6, .class_ 36), (0, u "java/util/RandomAccess"), (0, u "(I)V"), (2, u "()I"), (0, u "append"), (0, u "(Lcom/example/kaiten_draft/kaitendraft/cards/Card;)V")] 7

def k14c0 : Code := { maxStack := 2, maxLocals := 2, code := prog_36_method_1_code, exceptionTable := #[], attributes := #[] }
def k14m0 : Method := { name := "<init>", desc := "(I)V", sig := { parameters := [.int], returnType := none }, accessFlags := 0, code := some k14c0 }
def k14c1 : Code := { maxStack := 2, maxLocals := 2, code := prog_36_method_2_code, exceptionTable := #[], attributes := #[] }
def k14m1 : Method := { name := "get", desc := "(I)Lcom/example/kaiten_draft/kaitendraft/cards/Card;", sig := { parameters := [.int], returnType := some (.object "com/example/kaiten_draft/kaitendraft/cards/Card") }, accessFlags := 1, code := some k14c1 }
def k14c2 : Code := { maxStack := 1, maxLocals := 1, code := prog_36_method_3_code, exceptionTable := #[], attributes := #[] }
def k14m2 : Method := { name := "size", desc := "()I", sig := { parameters := [], returnType := some .int }, accessFlags := 1, code := some k14c2 }
def k14c3 : Code := { maxStack := 5, maxLocals := 2, code := prog_36_method_4_code, exceptionTable := #[], attributes := #[] }
def k14m3 : Method := { name := "append", desc := "(Lcom/example/kaiten_draft/kaitendraft/cards/Card;)V", sig := { parameters := [(.object "com/example/kaiten_draft/kaitendraft/cards/Card")], returnType := none }, accessFlags := 0, code := some k14c3 }
/-- com/example/kaiten_draft/kaitendraft/table/Hand -/
def k14 : Class := { plain "com/example/kaiten_draft/kaitendraft/table/Hand" (some 12) with
  accessFlags := 48
  interfaces := #[13]
  cf := some (fileOf pool14 10 #[] #[{ accessFlags := 0, nameIndex := 5, descriptorIndex := 37, attributes := #[] }, { accessFlags := 1, nameIndex := 27, descriptorIndex := 28, attributes := #[] }, { accessFlags := 1, nameIndex := 17, descriptorIndex := 40, attributes := #[] }, { accessFlags := 0, nameIndex := 41, descriptorIndex := 42, attributes := #[] }] 48 2 #[35] #[{ accessFlags := 18, nameIndex := 13, descriptorIndex := 14, attributes := #[] }, { accessFlags := 2, nameIndex := 17, descriptorIndex := 18, attributes := #[] }])
  fields := #[{ name := "cards", type := (.array (.object "com/example/kaiten_draft/kaitendraft/cards/Card")), accessFlags := 18, slot := 1, constantValue := 0 }, { name := "size", type := .int, accessFlags := 2, slot := 2, constantValue := 0 }]
  methods := #[k14m0, k14m1, k14m2, k14m3]
  instanceTypes := #[.int, (.array (.object "com/example/kaiten_draft/kaitendraft/cards/Card")), .int]
  staticTypes := #[]
  resolved := Array.replicate 50 none
  statics := none }

def pool15 : Array CpInfo := pool [(2, .class_ 4), (1, u "java/lang/Object"), (0, u "<init>"), (0, u "()V"), (35, .class_ 44), (1, u "java/util/Objects"), (60, .methodref 106 107), (0, .class_ 108), (0, .nameAndType 109 110), (0, u "jdk/internal/util/Preconditions"), (0, u "checkIndex"), (0, u "(IILjava/util/function/BiFunction;)I"), (60, u "(II)I")] 12

def k15m0 : Method := { name := "<init>", desc := "()V", sig := { parameters := [], returnType := none }, accessFlags := 2, code := none }
def k15c1 : Code := { maxStack := 3, maxLocals := 2, code := jdk_31_method_17_code, exceptionTable := #[], attributes := #[] }
def k15m1 : Method := { name := "checkIndex", desc := "(II)I", sig := { parameters := [.int, .int], returnType := some .int }, accessFlags := 9, code := some k15c1 }
/-- java/util/Objects -/
def k15 : Class := { plain "java/util/Objects" (some 0) with
  accessFlags := 49
  interfaces := #[]
  cf := some (fileOf pool15 42 #[] #[{ accessFlags := 2, nameIndex := 5, descriptorIndex := 6, attributes := #[] }, { accessFlags := 9, nameIndex := 109, descriptorIndex := 171, attributes := #[] }] 49 2 #[] #[])
  fields := #[]
  methods := #[k15m0, k15m1]
  instanceTypes := #[]
  staticTypes := #[]
  resolved := Array.replicate 184 none
  statics := none }

def pool16 : Array CpInfo := pool [(2, .class_ 4), (1, u "java/lang/Object"), (0, u "<init>"), (0, u "()V"), (17, .class_ 26), (1, u "jdk/internal/util/Preconditions"), (6, u "checkIndex"), (21, .class_ 56), (0, u "jdk/internal/util/Preconditions$4"), (57, .class_ 115), (0, u "jdk/internal/util/Preconditions$1"), (7, u "SIOOBE_FORMATTER"), (0, u "Ljava/util/function/BiFunction;"), (0, .class_ 126), (0, u "jdk/internal/util/Preconditions$2"), (3, u "AIOOBE_FORMATTER"), (0, .class_ 132), (0, u "jdk/internal/util/Preconditions$3"), (3, u "IOOBE_FORMATTER"), (41, u "(IILjava/util/function/BiFunction;)I")] 15

def k16m0 : Method := { name := "<init>", desc := "()V", sig := { parameters := [], returnType := none }, accessFlags := 1, code := none }
def k16c1 : Code := { maxStack := 3, maxLocals := 3, code := jdk_41_method_11_code, exceptionTable := #[], attributes := #[] }
def k16m1 : Method := { name := "checkIndex", desc := "(IILjava/util/function/BiFunction;)I", sig := { parameters := [.int, .int, (.object "java/util/function/BiFunction")], returnType := some .int }, accessFlags := 9, code := some k16c1 }
/-- jdk/internal/util/Preconditions -/
def k16 : Class := { plain "jdk/internal/util/Preconditions" (some 0) with
  accessFlags := 33
  interfaces := #[]
  cf := some (fileOf pool16 24 #[.nestMembers #[55, 131, 125, 114]] #[{ accessFlags := 1, nameIndex := 5, descriptorIndex := 6, attributes := #[] }, { accessFlags := 9, nameIndex := 33, descriptorIndex := 178, attributes := #[] }] 33 2 #[] #[{ accessFlags := 25, nameIndex := 123, descriptorIndex := 124, attributes := #[] }, { accessFlags := 25, nameIndex := 130, descriptorIndex := 124, attributes := #[] }, { accessFlags := 25, nameIndex := 136, descriptorIndex := 124, attributes := #[] }])
  fields := #[{ name := "SIOOBE_FORMATTER", type := (.object "java/util/function/BiFunction"), accessFlags := 25, slot := 0, constantValue := 0 }, { name := "AIOOBE_FORMATTER", type := (.object "java/util/function/BiFunction"), accessFlags := 25, slot := 1, constantValue := 0 }, { name := "IOOBE_FORMATTER", type := (.object "java/util/function/BiFunction"), accessFlags := 25, slot := 2, constantValue := 0 }]
  methods := #[k16m0, k16m1]
  instanceTypes := #[]
  staticTypes := #[(.object "java/util/function/BiFunction"), (.object "java/util/function/BiFunction"), (.object "java/util/function/BiFunction")]
  resolved := Array.replicate 194 none
  statics := none }

def pool17 : Array CpInfo := pool [(1, u "java/lang/Cloneable"), (0, .class_ 1), (0, u "java/lang/Object"), (0, .class_ 3)] 3

/-- java/lang/Cloneable -/
def k17 : Class := { plain "java/lang/Cloneable" (some 0) with
  accessFlags := 1537
  interfaces := #[]
  cf := some (fileOf pool17 2 #[] #[] 1537 4 #[] #[])
  fields := #[]
  methods := #[]
  instanceTypes := #[]
  staticTypes := #[]
  resolved := Array.replicate 8 none
  statics := none }

/-- the primitive byte -/
def k18 : Class := { plain "byte" none with kind := .primitive 'B', accessFlags := 0x411 }
/-- [B -/
def k19 : Class := { plain "[B" (some 0) with kind := .array 18 .byte, interfaces := #[17, 4], accessFlags := 1041 }

/-- the primitive int -/
def k20 : Class := { plain "int" none with kind := .primitive 'I', accessFlags := 0x411 }
/-- [I -/
def k21 : Class := { plain "[I" (some 0) with kind := .array 20 .int, interfaces := #[17, 4], accessFlags := 1041 }

/-- [Lcom/example/kaiten_draft/kaitendraft/cards/Card; -/
def k22 : Class := { plain "[Lcom/example/kaiten_draft/kaitendraft/cards/Card;" (some 0) with kind := .array 6 (.object "com/example/kaiten_draft/kaitendraft/cards/Card"), interfaces := #[17, 4], accessFlags := 1041 }

def heap : Heap := #[{ cls := 6, slots := #[.ref 1, .ref 9, .ref 3, .ref 2, .ref 4, .ref 10, .ref 12, .ref 5, .ref 6, .ref 11, .ref 7, .ref 8, .null, .null], vm := .statics 6 },
  { cls := 6, slots := #[.null, .int 0, .int 0, .null, .int 0], vm := .none },
  { cls := 6, slots := #[.null, .int 0, .int 0, .null, .int 0], vm := .none },
  { cls := 6, slots := #[.null, .int 0, .int 0, .null, .int 0], vm := .none },
  { cls := 6, slots := #[.null, .int 0, .int 0, .null, .int 0], vm := .none },
  { cls := 6, slots := #[.null, .int 0, .int 0, .null, .int 0], vm := .none },
  { cls := 6, slots := #[.null, .int 0, .int 0, .null, .int 0], vm := .none },
  { cls := 6, slots := #[.null, .int 0, .int 0, .null, .int 0], vm := .none },
  { cls := 6, slots := #[.null, .int 0, .int 0, .null, .int 0], vm := .none },
  { cls := 6, slots := #[.null, .int 0, .int 0, .null, .int 0], vm := .none },
  { cls := 6, slots := #[.null, .int 0, .int 0, .null, .int 0], vm := .none },
  { cls := 6, slots := #[.null, .int 0, .int 0, .null, .int 0], vm := .none },
  { cls := 6, slots := #[.null, .int 0, .int 0, .null, .int 0], vm := .none }]
def classes : Array Class := #[k0, k1, k2, k3, k4, k5, k6, k7, k8, k9, k10, k11, k12, k13, k14, k15, k16, k17, k18, k19, k20, k21, k22]
def interned : List (Array UInt16 × Addr) := []
def slotsUsed : Nat := 74
def theMethod : MethodId := ⟨1, 2⟩
def args0 : Array Value := #[.int 5, .int 1, .int 7, .int 3]
def aboutOver (below : List Frame) : State where
  vm := { classes := classes, interned := interned.toArray }
  heap := heap
  slotsUsed := slotsUsed
  threads := #[{ frames := .invoking theMethod args0 :: below }]
def below0 : List Frame := [.native { method := ⟨0, 0⟩, args := #[] }]
def about1 : State := aboutOver below0
def p0 : Program := .bare "" "" ""
def e0 : Env := launch0.env 0 0 0
theorem w_frames : about1.frames = Frame.invoking theMethod args0 :: below0 := rfl
set_option maxRecDepth 65536 in
theorem w_args : argsFit about1.vm theMethod args0 = true := by decide +kernel
set_option maxRecDepth 65536 in
theorem w_heap : heapFits about1 = true := by decide +kernel
set_option maxRecDepth 65536 in
theorem w_runnable : about1.curStatus? = some .runnable := by decide +kernel
set_option maxRecDepth 65536 in
theorem w_alone : about1.alone = true := by decide +kernel
set_option maxRecDepth 65536 in
theorem w_named : about1.methodNamed? x = some theMethod := by decide +kernel
set_option maxRecDepth 65536 in
theorem w_hears : about1.hears theMethod below0 = true := by decide +kernel
set_option maxRecDepth 65536 in
theorem w_ripe : about1.ripe theMethod args0 below0 = true := by decide +kernel
theorem w_running : about1.status = .running := rfl
set_option maxRecDepth 65536 in
theorem w_room : about1.hasRoom e0.platform room_1 = true :=
  launch0.hasRoom_least _ room_1 (by decide +kernel) (by decide +kernel) (by decide +kernel) (by decide +kernel) (by decide +kernel) (by decide +kernel)
theorem allAtoms_all (ts : List Jvm.Cond) (a : Array Jvm.Value) (st : Jvm.State) : (allAtoms ts).before a st = ts.all (fun c => c.before a st) := by
  induction ts with
  | nil => rfl
  | cons c t ih =>
    show (Jvm.Cond.and c (allAtoms t)).before a st = _
    rw [Jvm.Cond.before_and, ih, List.all_cons]
def words1 : List Jvm.Cond := Jvm.Cond.code x code maxLocals ret :: tables_1
/-- a 'code' word, met by the world's own term for the bytes: nothing is compared byte by byte -/
theorem code_word {y : MethodName} {bytes : ByteArray} {mx : Nat} {rt : Option FieldType} {a : Array Value} {s : State} {m : MethodId} {meth : Method} {c : Code} (h1 : s.methodNamed? y = some m) (h2 : s.vm.method? m = some meth) (h3 : meth.code = some c) (h4 : c.code = bytes)
    (h5 : (c.maxLocals == mx && c.exceptionTable.isEmpty && decide (c.maxStack ≤ mostOperands) && decide (meth.sig.returnType = rt) && !meth.locks && decide (parseMethodDescriptor y.desc = some meth.sig)) = true) : (Jvm.Cond.code y bytes mx rt).before a s = true := by
  simp only [Bool.and_eq_true, beq_iff_eq, Bool.not_eq_true', decide_eq_true_eq] at h5
  obtain ⟨⟨⟨⟨⟨g1, g2⟩, g3⟩, g4⟩, g5⟩, g6⟩ := h5
  simp [Cond.before, Cond.holds, Cond.value, h1, h2, h3, h4, g1, g2, g3, g4, g5, g6]
def isCode : Jvm.Cond → Bool
  | .code _ _ _ _ => true
  | _ => false
theorem all_split {L : List Jvm.Cond} {P : Jvm.Cond → Bool} (h1 : L.all (fun c => isCode c || P c) = true) (h2 : ∀ c ∈ L.filter isCode, P c = true) : L.all P = true := by
  refine List.all_eq_true.mpr fun c hc => ?_
  have h := List.all_eq_true.mp h1 c hc
  rcases Bool.eq_false_or_eq_true (isCode c) with hi | hi
  · exact h2 c (List.mem_filter.mpr ⟨hc, hi⟩)
  · simpa [hi] using h
set_option maxRecDepth 65536 in
theorem w_c0 : (Jvm.Cond.code x code maxLocals ret).before args0 about1 = true := code_word (m := ⟨1, 2⟩) (meth := k1m2) (c := k1c2) (by decide +kernel) rfl rfl rfl (by decide +kernel)
set_option maxRecDepth 65536 in
theorem w_c1 : (Jvm.Cond.code ({ cls := "com/example/kaiten_draft/kaitendraft/table/HandAppendPinLaw", name := "pick", desc := "(I)Lcom/example/kaiten_draft/kaitendraft/cards/Card;" } : Jvm.MethodName) method_2_code (2 : Nat) (Option.some (Jvm.ClassFile.FieldType.object "com/example/kaiten_draft/kaitendraft/cards/Card"))).before args0 about1 = true := code_word (m := ⟨1, 1⟩) (meth := k1m1) (c := k1c1) (by decide +kernel) rfl rfl rfl (by decide +kernel)
set_option maxRecDepth 65536 in
theorem w_c2 : (Jvm.Cond.code ({ cls := "com/example/kaiten_draft/kaitendraft/table/Hand", name := "<init>", desc := "(I)V" } : Jvm.MethodName) prog_36_method_1_code (2 : Nat) (Option.none : Option Jvm.ClassFile.FieldType)).before args0 about1 = true := code_word (m := ⟨14, 0⟩) (meth := k14m0) (c := k14c0) (by decide +kernel) rfl rfl rfl (by decide +kernel)
set_option maxRecDepth 65536 in
theorem w_c3 : (Jvm.Cond.code ({ cls := "java/util/AbstractList", name := "<init>", desc := "()V" } : Jvm.MethodName) jdk_39_method_1_code (1 : Nat) (Option.none : Option Jvm.ClassFile.FieldType)).before args0 about1 = true := code_word (m := ⟨12, 0⟩) (meth := k12m0) (c := k12c0) (by decide +kernel) rfl rfl rfl (by decide +kernel)
set_option maxRecDepth 65536 in
theorem w_c4 : (Jvm.Cond.code ({ cls := "java/util/AbstractCollection", name := "<init>", desc := "()V" } : Jvm.MethodName) jdk_22_method_1_code (1 : Nat) (Option.none : Option Jvm.ClassFile.FieldType)).before args0 about1 = true := code_word (m := ⟨9, 0⟩) (meth := k9m0) (c := k9c0) (by decide +kernel) rfl rfl rfl (by decide +kernel)
set_option maxRecDepth 65536 in
theorem w_c5 : (Jvm.Cond.code ({ cls := "java/lang/Object", name := "<init>", desc := "()V" } : Jvm.MethodName) object_method_1_code (1 : Nat) (Option.none : Option Jvm.ClassFile.FieldType)).before args0 about1 = true := code_word (m := ⟨0, 0⟩) (meth := k0m0) (c := k0c0) (by decide +kernel) rfl rfl rfl (by decide +kernel)
set_option maxRecDepth 65536 in
theorem w_c6 : (Jvm.Cond.code ({ cls := "com/example/kaiten_draft/kaitendraft/table/Hand", name := "append", desc := "(Lcom/example/kaiten_draft/kaitendraft/cards/Card;)V" } : Jvm.MethodName) prog_36_method_4_code (2 : Nat) (Option.none : Option Jvm.ClassFile.FieldType)).before args0 about1 = true := code_word (m := ⟨14, 3⟩) (meth := k14m3) (c := k14c3) (by decide +kernel) rfl rfl rfl (by decide +kernel)
set_option maxRecDepth 65536 in
theorem w_c7 : (Jvm.Cond.code ({ cls := "com/example/kaiten_draft/kaitendraft/table/Hand", name := "size", desc := "()I" } : Jvm.MethodName) prog_36_method_3_code (1 : Nat) (Option.some Jvm.ClassFile.FieldType.int)).before args0 about1 = true := code_word (m := ⟨14, 2⟩) (meth := k14m2) (c := k14c2) (by decide +kernel) rfl rfl rfl (by decide +kernel)
set_option maxRecDepth 65536 in
theorem w_c8 : (Jvm.Cond.code ({ cls := "com/example/kaiten_draft/kaitendraft/table/Hand", name := "get", desc := "(I)Lcom/example/kaiten_draft/kaitendraft/cards/Card;" } : Jvm.MethodName) prog_36_method_2_code (2 : Nat) (Option.some (Jvm.ClassFile.FieldType.object "com/example/kaiten_draft/kaitendraft/cards/Card"))).before args0 about1 = true := code_word (m := ⟨14, 1⟩) (meth := k14m1) (c := k14c1) (by decide +kernel) rfl rfl rfl (by decide +kernel)
set_option maxRecDepth 65536 in
theorem w_c9 : (Jvm.Cond.code ({ cls := "java/util/Objects", name := "checkIndex", desc := "(II)I" } : Jvm.MethodName) jdk_31_method_17_code (2 : Nat) (Option.some Jvm.ClassFile.FieldType.int)).before args0 about1 = true := code_word (m := ⟨15, 1⟩) (meth := k15m1) (c := k15c1) (by decide +kernel) rfl rfl rfl (by decide +kernel)
set_option maxRecDepth 65536 in
theorem w_c10 : (Jvm.Cond.code ({ cls := "jdk/internal/util/Preconditions", name := "checkIndex", desc := "(IILjava/util/function/BiFunction;)I" } : Jvm.MethodName) jdk_41_method_11_code (3 : Nat) (Option.some Jvm.ClassFile.FieldType.int)).before args0 about1 = true := code_word (m := ⟨16, 1⟩) (meth := k16m1) (c := k16c1) (by decide +kernel) rfl rfl rfl (by decide +kernel)
def codes1 : List Jvm.Cond := [Jvm.Cond.code x code maxLocals ret, Jvm.Cond.code ({ cls := "com/example/kaiten_draft/kaitendraft/table/HandAppendPinLaw", name := "pick", desc := "(I)Lcom/example/kaiten_draft/kaitendraft/cards/Card;" } : Jvm.MethodName) method_2_code (2 : Nat) (Option.some (Jvm.ClassFile.FieldType.object "com/example/kaiten_draft/kaitendraft/cards/Card")), Jvm.Cond.code ({ cls := "com/example/kaiten_draft/kaitendraft/table/Hand", name := "<init>", desc := "(I)V" } : Jvm.MethodName) prog_36_method_1_code (2 : Nat) (Option.none : Option Jvm.ClassFile.FieldType), Jvm.Cond.code ({ cls := "java/util/AbstractList", name := "<init>", desc := "()V" } : Jvm.MethodName) jdk_39_method_1_code (1 : Nat) (Option.none : Option Jvm.ClassFile.FieldType), Jvm.Cond.code ({ cls := "java/util/AbstractCollection", name := "<init>", desc := "()V" } : Jvm.MethodName) jdk_22_method_1_code (1 : Nat) (Option.none : Option Jvm.ClassFile.FieldType), Jvm.Cond.code ({ cls := "java/lang/Object", name := "<init>", desc := "()V" } : Jvm.MethodName) object_method_1_code (1 : Nat) (Option.none : Option Jvm.ClassFile.FieldType), Jvm.Cond.code ({ cls := "com/example/kaiten_draft/kaitendraft/table/Hand", name := "append", desc := "(Lcom/example/kaiten_draft/kaitendraft/cards/Card;)V" } : Jvm.MethodName) prog_36_method_4_code (2 : Nat) (Option.none : Option Jvm.ClassFile.FieldType), Jvm.Cond.code ({ cls := "com/example/kaiten_draft/kaitendraft/table/Hand", name := "size", desc := "()I" } : Jvm.MethodName) prog_36_method_3_code (1 : Nat) (Option.some Jvm.ClassFile.FieldType.int), Jvm.Cond.code ({ cls := "com/example/kaiten_draft/kaitendraft/table/Hand", name := "get", desc := "(I)Lcom/example/kaiten_draft/kaitendraft/cards/Card;" } : Jvm.MethodName) prog_36_method_2_code (2 : Nat) (Option.some (Jvm.ClassFile.FieldType.object "com/example/kaiten_draft/kaitendraft/cards/Card")), Jvm.Cond.code ({ cls := "java/util/Objects", name := "checkIndex", desc := "(II)I" } : Jvm.MethodName) jdk_31_method_17_code (2 : Nat) (Option.some Jvm.ClassFile.FieldType.int), Jvm.Cond.code ({ cls := "jdk/internal/util/Preconditions", name := "checkIndex", desc := "(IILjava/util/function/BiFunction;)I" } : Jvm.MethodName) jdk_41_method_11_code (3 : Nat) (Option.some Jvm.ClassFile.FieldType.int)]
set_option maxRecDepth 65536 in
theorem codes_eq : words1.filter isCode = codes1 := rfl
theorem w_codes : ∀ c ∈ words1.filter isCode, c.before args0 about1 = true := by
  rw [codes_eq]
  intro c hc
  simp only [codes1, List.mem_cons, List.not_mem_nil, or_false] at hc
  rcases hc with rfl | rfl | rfl | rfl | rfl | rfl | rfl | rfl | rfl | rfl | rfl
  · exact w_c0
  · exact w_c1
  · exact w_c2
  · exact w_c3
  · exact w_c4
  · exact w_c5
  · exact w_c6
  · exact w_c7
  · exact w_c8
  · exact w_c9
  · exact w_c10
set_option maxRecDepth 65536 in
theorem w_t1 : (words1.take 24).all (fun c => isCode c || c.before args0 about1) = true := by decide +kernel
set_option maxRecDepth 65536 in
theorem w_t2 : ((words1.drop 24).take 24).all (fun c => isCode c || c.before args0 about1) = true := by decide +kernel
set_option maxRecDepth 65536 in
theorem w_t3 : (((words1.drop 24).drop 24).take 24).all (fun c => isCode c || c.before args0 about1) = true := by decide +kernel
set_option maxRecDepth 65536 in
theorem w_t4 : (((words1.drop 24).drop 24).drop 24).all (fun c => isCode c || c.before args0 about1) = true := by decide +kernel
theorem w_tables : (allAtoms (Jvm.Cond.code x code maxLocals ret :: tables_1)).before args0 about1 = true := by
  rw [allAtoms_all]
  show words1.all (fun c => c.before args0 about1) = true
  refine all_split ?_ w_codes
  rw [← List.take_append_drop 24 words1, List.all_append, w_t1, ← List.take_append_drop 24 (words1.drop 24), List.all_append, w_t2, ← List.take_append_drop 24 ((words1.drop 24).drop 24), List.all_append, w_t3, w_t4]
  rfl
set_option maxRecDepth 65536 in
theorem w_case : (Jvm.Cond.and given_1 narrow_1).before args0 about1 = true := by decide +kernel
theorem w_applies : (headSpec (Jvm.Cond.code x code maxLocals ret :: tables_1) room_1).applies x e0.platform about1 = true :=
  (Spec.applies_iff w_frames).mpr ⟨w_running, w_runnable, w_alone, w_named, w_hears, w_ripe, w_room, w_tables⟩
theorem atStart : AtStart classFile x code maxLocals ret World_1 tables_1 room_1 Calls_1 rest_1 Pre_1 launch0 p0 e0 about1 theMethod args0 below0 :=
  ⟨lists_1, trivial, launch0.admits_env _ _ _, launch0.least_env, fairChoices_fair.cas, fairChoices_fair.clock, w_frames, w_args, w_heap, w_applies, trivial, trivial, w_case⟩
end start1
theorem witness_1 : WitnessClaimed_1 := ⟨start1.p0, start1.e0, start1.about1, start1.theMethod, start1.args0, start1.below0, start1.atStart⟩
end Jvm.Pilot.@@N@@
