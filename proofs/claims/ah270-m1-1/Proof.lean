import JvmDerived
import JvmDerived.Pilot.@@N@@Statement
import JvmDerived.Pilot.@@N@@Code
set_option linter.unusedVariables false
set_option linter.unusedSimpArgs false
namespace Jvm.Pilot.@@N@@
open Jvm Jvm.ClassFile Sem Op Lib Jvm.Free Jvm.Stand Jvm.LawKit Jvm.RoadKit Bundle Jvm.Pilot.@@N@@.Jvm.D
namespace Wd
section Inv
variable {Z : State} {EL : List (String × Nat)} {n0 : Nat} {vm vm1 : Vm} {h h' : Heap} {WL FL : List Addr}
/-- of tables vm and heap h: the constants EL say their text; the start's cells stand; WL: cells of our own making that are no constant's; FL: other cells -/
def Inv (Z : State) (EL : List (String × Nat)) (n0 : Nat) (vm : Vm) (h : Heap) (WL FL : List Addr) : Prop :=
  (∃ a0, EW Z a0 EL) ∧ CHv Z EL vm h ∧ Old Z n0 h ∧ (∀ x ∈ WL, n0 ≤ x ∧ x < h.size ∧ Safe Z EL vm h x) ∧ WL.Nodup ∧ ∀ y ∈ FL, y < h.size ∧ y ∉ WL
theorem Inv.ext (I : Inv Z EL n0 vm h WL FL) (E : Ext h h') : Inv Z EL n0 vm h' WL FL := by
  obtain ⟨i1, i2, i3, i4, i5, i6⟩ := I
  exact ⟨i1, CHv.ext E i2, i3.ext E, fun x hx => ⟨(i4 x hx).1, Nat.lt_of_lt_of_le (i4 x hx).2.1 E.1, Safe.ext E i2 (i4 x hx).2.2⟩, i5, fun y hy => ⟨Nat.lt_of_lt_of_le (i6 y hy).1 E.1, (i6 y hy).2⟩⟩
theorem Inv.keep {ws : List Addr} (I : Inv Z EL n0 vm h WL FL) (K : Keep h h' ws) (hs : ∀ x ∈ ws, x ∈ WL) : Inv Z EL n0 vm h' WL FL := by
  obtain ⟨i1, i2, i3, i4, i5, i6⟩ := I
  have q : ∀ x ∈ ws, Safe Z EL vm h x := fun x hx => (i4 x (hs x hx)).2.2
  exact ⟨i1, CHv.keep K q i2, i3.keep K (fun x hx => (i4 x (hs x hx)).1), fun x hx => ⟨(i4 x hx).1, Nat.lt_of_lt_of_le (i4 x hx).2.1 K.1, Safe.keep K q i2 (i4 x hx).2.2⟩, i5, fun y hy => ⟨Nat.lt_of_lt_of_le (i6 y hy).1 K.1, (i6 y hy).2⟩⟩
theorem Inv.wr {a : Addr} {sl : Nat} {v : Value} (I : Inv Z EL n0 vm h WL FL) (W : Wr h h' a sl v) (ha : a ∈ WL) : Inv Z EL n0 vm h' WL FL :=
  I.keep (Keep.of_wr W) (allS ha all0)
theorem Inv.new (I : Inv Z EL n0 vm h WL FL) (E : Ext h h') (hlt : h.size < h'.size) : Inv Z EL n0 vm h' (h.size :: WL) FL := by
  have J := I.ext E
  obtain ⟨i1, i2, i3, i4, i5, i6⟩ := I
  obtain ⟨j1, j2, j3, j4, j5, j6⟩ := J
  refine ⟨j1, j2, j3, fun x hx => ?_, ?_, fun y hy => ⟨(j6 y hy).1, fun q => ?_⟩⟩
  · rcases List.mem_cons.mp hx with rfl | hx
    · exact ⟨by rw [← i3.1]; exact i3.2.1, hlt, Safe.ext E i2 (Safe.new (Nat.le_refl _))⟩
    · exact j4 x hx
  · exact List.nodup_cons.mpr ⟨fun q => Nat.lt_irrefl _ (i4 _ q).2.1, j5⟩
  · rcases List.mem_cons.mp q with rfl | q
    · exact Nat.lt_irrefl _ (i6 _ hy).1
    · exact (j6 y hy).2 q
/-- another cell comes into sight -/
theorem Inv.adopt {y : Addr} (I : Inv Z EL n0 vm h WL FL) (h1 : y < h.size) (h2 : y ∉ WL) : Inv Z EL n0 vm h WL (y :: FL) := by
  obtain ⟨i1, i2, i3, i4, i5, i6⟩ := I
  refine ⟨i1, i2, i3, i4, i5, fun x hx => ?_⟩
  rcases List.mem_cons.mp hx with rfl | hx
  · exact ⟨h1, h2⟩
  · exact i6 x hx
/-- a cell of ours is given up -/
theorem Inv.drop {A B : List Addr} {t : Addr} (I : Inv Z EL n0 vm h (A ++ t :: B) FL) : Inv Z EL n0 vm h (A ++ B) (t :: FL) := by
  obtain ⟨i1, i2, i3, i4, i5, i6⟩ := I
  have m : ∀ x, x ∈ A ++ B → x ∈ A ++ t :: B := fun x hx => by
    rcases List.mem_append.mp hx with q | q
    · exact List.mem_append_left _ q
    · exact List.mem_append_right _ (List.mem_cons_of_mem _ q)
  have pm : (A ++ t :: B).Perm (t :: (A ++ B)) := List.perm_middle
  have nd := pm.nodup_iff.mp i5
  obtain ⟨n1, n2⟩ := List.nodup_cons.mp nd
  refine ⟨i1, i2, i3, fun x hx => i4 x (m x hx), n2, fun y hy => ?_⟩
  rcases List.mem_cons.mp hy with rfl | hy
  · exact ⟨(i4 _ (List.mem_append_right _ (List.mem_cons_self ..))).2.1, n1⟩
  · exact ⟨(i6 y hy).1, fun q => (i6 y hy).2 (m y q)⟩
/-- other cells are forgotten -/
theorem Inv.fl {FL2 : List Addr} (I : Inv Z EL n0 vm h WL FL) (q : ∀ y ∈ FL2, y ∈ FL) : Inv Z EL n0 vm h WL FL2 := by
  obtain ⟨i1, i2, i3, i4, i5, i6⟩ := I
  exact ⟨i1, i2, i3, i4, i5, fun y hy => i6 y (q y hy)⟩
theorem Inv.ne {i j : Nat} {a b : Addr} (I : Inv Z EL n0 vm h WL FL) (ha : WL[i]? = some a) (hb : WL[j]? = some b) (q : i ≠ j) : a ≠ b := fun e => by
  obtain ⟨i1, i2, i3, i4, i5, i6⟩ := I
  subst e
  obtain ⟨hi, e1⟩ := List.getElem?_eq_some_iff.mp ha
  obtain ⟨hj, e2⟩ := List.getElem?_eq_some_iff.mp hb
  have pw := List.pairwise_iff_getElem.mp i5
  rcases Nat.lt_or_gt_of_ne q with z | z
  · exact pw i j hi hj z (e1.trans e2.symm)
  · exact pw j i hj hi z (e2.trans e1.symm)
theorem Inv.neF {a b : Addr} (I : Inv Z EL n0 vm h WL FL) (ha : a ∈ FL) (hb : b ∈ WL) : a ≠ b := fun e => by
  subst e; exact (I.2.2.2.2.2 _ ha).2 hb
theorem Inv.neT {A B : List Addr} {a b : Addr} (I : Inv Z EL n0 vm h (A ++ B) FL) (ha : a ∈ A) (hb : b ∈ B) : a ≠ b := fun e => by
  subst e; exact (List.nodup_append.mp I.2.2.2.2.1).2.2 a ha a hb rfl
theorem Inv.ge {a : Addr} (I : Inv Z EL n0 vm h WL FL) (ha : a ∈ WL) : n0 ≤ a := (I.2.2.2.1 a ha).1
theorem Inv.lt {a : Addr} (I : Inv Z EL n0 vm h WL FL) (ha : a ∈ WL) : a < h.size := (I.2.2.2.1 a ha).2.1
theorem Inv.old (I : Inv Z EL n0 vm h WL FL) : Old Z n0 h := I.2.2.1
theorem Inv.n0le (I : Inv Z EL n0 vm h WL FL) : n0 ≤ h.size := by have q := I.old; rw [← q.1]; exact q.2.1
end Inv
section Walk
variable {p : Program} {l : Launch} {e : Env} {R : Room} {s : State} {m : MethodId} {args : Array Value} {below : List Frame} {meth : Method} {c : Code} {T T' : State} {cells slots : Nat} {Z : State} {EL : List (String × Nat)} {n0 : Nat} {own : String} {h h' : Heap} {WL FL : List Addr} {a0 : Array Value}
/-- where the walk stands -/
def WS (p : Program) (l : Launch) (e : Env) (R : Room) (s : State) (m : MethodId) (args : Array Value) (below : List Frame) (meth : Method) (c : Code) (Z : State) (EL : List (String × Nat)) (n0 : Nat) (own : String) (T : State) (h : Heap) (WL FL : List Addr) (cells slots : Nat) : Prop :=
  ∃ (vm0 : Vm) (k0 : Nat) (locs : List Loc), Stand p l e R (s.setVm vm0) m args below meth c T locs cells slots ∧ T.heap = h ∧ s.Since vm0 k0 ∧ k0 ≤ h.size ∧ Z.Warmed39 vm0 ∧ vm0.findClass own = some m.cls ∧ Fr n0 locs ∧ Inv Z EL n0 vm0 h WL FL
theorem WS.here (X : WS p l e R s m args below meth c Z EL n0 own T h WL FL cells slots) : At T m c below := by
  obtain ⟨_, _, _, X, -⟩ := X; exact X.here
theorem WS.hZ (X : WS p l e R s m args below meth c Z EL n0 own T h WL FL cells slots) : ∃ vm0, Inv Z EL n0 vm0 h WL FL := by
  obtain ⟨vm0, _, _, _, _, _, _, _, _, _, I⟩ := X; exact ⟨vm0, I⟩
theorem WS.old (X : WS p l e R s m args below meth c Z EL n0 own T h WL FL cells slots) : Old Z n0 h := by obtain ⟨_, I⟩ := X.hZ; exact I.old
theorem WS.n0le (X : WS p l e R s m args below meth c Z EL n0 own T h WL FL cells slots) : n0 ≤ h.size := by obtain ⟨_, I⟩ := X.hZ; exact I.n0le
theorem WS.ge {a : Addr} (X : WS p l e R s m args below meth c Z EL n0 own T h WL FL cells slots) (ha : a ∈ WL) : n0 ≤ a := by obtain ⟨_, I⟩ := X.hZ; exact I.ge ha
theorem WS.ne {i j : Nat} {a b : Addr} (X : WS p l e R s m args below meth c Z EL n0 own T h WL FL cells slots) (ha : WL[i]? = some a) (hb : WL[j]? = some b) (q : i ≠ j) : a ≠ b := by obtain ⟨_, I⟩ := X.hZ; exact I.ne ha hb q
theorem WS.neF {a b : Addr} (X : WS p l e R s m args below meth c Z EL n0 own T h WL FL cells slots) (ha : a ∈ FL) (hb : b ∈ WL) : a ≠ b := by obtain ⟨_, I⟩ := X.hZ; exact I.neF ha hb
theorem WS.neT {A B : List Addr} {a b : Addr} (X : WS p l e R s m args below meth c Z EL n0 own T h (A ++ B) FL cells slots) (ha : a ∈ A) (hb : b ∈ B) : a ≠ b := by obtain ⟨_, I⟩ := X.hZ; exact I.neT ha hb
theorem WS.sta {C n d : String} {v : Value} (X : WS p l e R s m args below meth c Z EL n0 own T h WL FL cells slots) (F : Sta Z Z.heap C n d v) : Sta Z h C n d v := F.ext X.old.2
theorem WS.drop {A B : List Addr} {t : Addr} (X : WS p l e R s m args below meth c Z EL n0 own T h (A ++ t :: B) FL cells slots) : WS p l e R s m args below meth c Z EL n0 own T h (A ++ B) (t :: FL) cells slots := by
  obtain ⟨vm0, k0, locs, X, eT, hS, hk, hZ, hown, N, I⟩ := X; exact ⟨vm0, k0, locs, X, eT, hS, hk, hZ, hown, N, I.drop⟩
theorem WS.adopt {y : Addr} (X : WS p l e R s m args below meth c Z EL n0 own T h WL FL cells slots) (h1 : y < h.size) (h2 : y ∉ WL) : WS p l e R s m args below meth c Z EL n0 own T h WL (y :: FL) cells slots := by
  obtain ⟨vm0, k0, locs, X, eT, hS, hk, hZ, hown, N, I⟩ := X; exact ⟨vm0, k0, locs, X, eT, hS, hk, hZ, hown, N, I.adopt h1 h2⟩
theorem WS.fl {FL2 : List Addr} (X : WS p l e R s m args below meth c Z EL n0 own T h WL FL cells slots) (q : ∀ y ∈ FL2, y ∈ FL) : WS p l e R s m args below meth c Z EL n0 own T h WL FL2 cells slots := by
  obtain ⟨vm0, k0, locs, X, eT, hS, hk, hZ, hown, N, I⟩ := X; exact ⟨vm0, k0, locs, X, eT, hS, hk, hZ, hown, N, I.fl q⟩
theorem WS.mono {cells' slots' : Nat} (X : WS p l e R s m args below meth c Z EL n0 own T h WL FL cells slots) (h1 : cells ≤ cells') (h2 : slots ≤ slots') : WS p l e R s m args below meth c Z EL n0 own T h WL FL cells' slots' := by
  obtain ⟨vm0, k0, locs, X, eT, hS, hk, hZ, hown, N, I⟩ := X; exact ⟨vm0, k0, locs, X.mono h1 h2, eT, hS, hk, hZ, hown, N, I⟩
/-- what is to be shown from here on -/
def Wo (p : Program) (e : Env) (s : State) (below : List Frame) (Z : State) (EL : List (String × Nat)) (n0 : Nat) (WL0 FL0 : List Addr) (rm : Room) (Q : Option Value → Heap → List Addr → List Addr → Prop) (T : State) (f : JFrame) : Prop :=
  ∃ s₂ o, Steps p.tables e below (T.setTop f) s₂ ∧ s₂.status = .running ∧ Ended s₂ below o ∧ ∃ v L WL' FL', o = .returned v ∧ Inv Z EL n0 s₂.vm s₂.heap (WL' ++ WL0) (FL' ++ FL0) ∧ Fr n0 L ∧ Q v s₂.heap WL' FL' ∧ ReturnedEndW s o s₂ L rm.cells rm.slots
variable {WL0 FL0 : List Addr} {rm : Room} {Q : Option Value → Heap → List Addr → List Addr → Prop} {f f' : JFrame} {pc : Nat} {Ls : Array Slot} {st rest : List Value}
theorem Wo.by (k : ∀ t, Steps p.tables e below (T'.setTop f') t → Steps p.tables e below (T.setTop f) t) (o : Wo p e s below Z EL n0 WL0 FL0 rm Q T' f') : Wo p e s below Z EL n0 WL0 FL0 rm Q T f := by
  obtain ⟨s₂, o, h1, r⟩ := o; exact ⟨s₂, o, k _ h1, r⟩
theorem Wo.cast (q : f = f') (o : Wo p e s below Z EL n0 WL0 FL0 rm Q T f') : Wo p e s below Z EL n0 WL0 FL0 rm Q T f := q ▸ o
/-- a method's contract -/
def Ct (l : Launch) (Z : State) (EL : List (String × Nat)) (n0 : Nat) (y : MethodName) (bytes : ByteArray) (maxL : Nat) (ret : Option FieldType) (rm : Room) (as' : Array Value) (h : Heap) (WL FL : List Addr) (Q : Option Value → Heap → List Addr → List Addr → Prop) : Prop :=
  ∀ ws : List Jvm.Cond, MetFree l y (head1 (Jvm.Cond.code y bytes maxL ret :: ws) rm) (fun a U => a = as' ∧ Z.Warmed39 U.vm ∧ U.heap = h ∧ Inv Z EL n0 U.vm h WL FL) (fun _ _ _ _ _ => True)
    (fun _ U o U' => ∃ v L WL' FL', o = .returned v ∧ Inv Z EL n0 U'.vm U'.heap (WL' ++ WL) (FL' ++ FL) ∧ Fr n0 L ∧ Q v U'.heap WL' FL' ∧ ReturnedEndW U o U' L rm.cells rm.slots)
theorem Ct.of {y : MethodName} {bytes : ByteArray} {maxL : Nat} {ret : Option FieldType} {as' : Array Value} (hy : plainFor y = true)
    (body : ∀ p e s m below meth c s₁, p.tables.exec = Jvm.exec → c.code = bytes → c.maxLocals = maxL → meth.name = y.name → meth.sig.returnType = ret → meth.locks = false →
      WS p l e rm s m as' below meth c Z EL n0 y.cls s₁ h WL FL 0 0 → Wo p e s below Z EL n0 WL FL rm Q s₁ (entryFrame m as' maxL)) :
    Ct l Z EL n0 y bytes maxL ret rm as' h WL FL Q := by
  intro ws
  refine MetFree.of_bodySF hy hisR ?_
  intro p e s m args below meth c s₁ Bd hml hP _
  obtain ⟨rfl, hZ, hh, I⟩ := hP
  have e0 : s₁.heap = h := by rw [← hh, Bd.state]; rfl
  obtain ⟨s₂, o, h1, h2, h3, h4⟩ := body p e s m below meth c s₁ Bd.exec Bd.bytes hml (name_of_methodNamed Bd.named Bd.method).1 Bd.returns (BodyLoose.notSynchronized Bd)
    ⟨s.vm, h.size, [], Stand.of_body Bd, e0, (State.WarmedH.refl s).since _, Nat.le_refl _, hZ, findClass_of_methodNamed Bd.named, Fr.nil n0, I⟩
  exact ⟨s₂, o, h1, h2, h3, h4⟩
theorem Ct.mono {y : MethodName} {bytes : ByteArray} {maxL : Nat} {ret : Option FieldType} {as' : Array Value} {Q2 : Option Value → Heap → List Addr → List Addr → Prop} (C : Ct l Z EL n0 y bytes maxL ret rm as' h WL FL Q) (hq : ∀ v h' WL' FL', Q v h' WL' FL' → Q2 v h' WL' FL') : Ct l Z EL n0 y bytes maxL ret rm as' h WL FL Q2 := by
  intro ws p e ha hc hk s m args below hf happ hP hK
  obtain ⟨n, o, h1, h2, h3, v, L, WL', FL', r1, r2, r3, r4, r5⟩ := C ws p e ha hc hk s m args below hf happ hP hK
  exact ⟨n, o, h1, h2, h3, v, L, WL', FL', r1, r2, r3, hq _ _ _ _ r4, r5⟩
/-- the tables at hand -/
theorem WS.invT {vm0 : Vm} {locs : List Loc} (X : Stand p l e R (s.setVm vm0) m args below meth c T locs cells slots) (hZ : Z.Warmed39 vm0) (I : Inv Z EL n0 vm0 h WL FL) : Inv Z EL n0 T.vm h WL FL := by
  obtain ⟨⟨a0, i1⟩, i2, i3, i4, i5, i6⟩ := I
  have A := CHv.at X hZ i1 i2
  exact ⟨⟨a0, i1⟩, A.1, i3, fun x hx => ⟨(i4 x hx).1, (i4 x hx).2.1, A.safe (i4 x hx).2.1 (i4 x hx).2.2⟩, i5, i6⟩
theorem WS.retV {WL' FL' : List Addr} (X : WS p l e R s m args below meth c Z EL n0 own T h (WL' ++ WL0) (FL' ++ FL0) cells slots) (hx : p.tables.exec = Jvm.exec) (hret : meth.sig.returnType = none) (hlk : meth.locks = false) (hd : decode c.code pc = .ok (.return_, 1)) (hc : cells ≤ rm.cells) (hl : slots ≤ rm.slots) (hQ : Q none h WL' FL') :
    Wo p e s below Z EL n0 WL0 FL0 rm Q T (mkF m pc Ls []) := by
  obtain ⟨vm0, k0, locs, X, eT, hS, hk, hZ, hown, N, I⟩ := X
  obtain ⟨fs, hr, hrun, hend, hE⟩ := (X.mono hc hl).leaveW hS (by rw [eT]; exact hk) (v := none) (fun _ => rfl) hlk
  subst eT
  exact ⟨_, _, X.returnOut hx hret hd hr, hrun, hend, none, locs, WL', FL', rfl, (show Inv Z EL n0 T.vm T.heap (WL' ++ WL0) (FL' ++ FL0) from WS.invT X hZ I), N, hQ, hE⟩
theorem WS.retN {WL' FL' : List Addr} {z : Int32} {t : FieldType} (X : WS p l e R s m args below meth c Z EL n0 own T h (WL' ++ WL0) (FL' ++ FL0) cells slots) (hx : p.tables.exec = Jvm.exec) (hret : meth.sig.returnType = some t) (ht : t = .boolean ∨ t = .byte ∨ t = .char ∨ t = .short) (hlk : meth.locks = false) (hd : decode c.code pc = .ok (.ireturn, 1)) (hc : cells ≤ rm.cells) (hl : slots ≤ rm.slots) (hQ : Q (some (.int (nar t z))) h WL' FL') :
    Wo p e s below Z EL n0 WL0 FL0 rm Q T (mkF m pc Ls (.int z :: rest)) := by
  obtain ⟨vm0, k0, locs, X, eT, hS, hk, hZ, hown, N, I⟩ := X
  obtain ⟨fs, hr, hrun, hend, hE⟩ := (X.mono hc hl).leaveW hS (by rw [eT]; exact hk) (v := some (.int (nar t z))) (fun q => by rw [hret] at q; cases q) hlk
  subst eT
  exact ⟨_, _, RoadKit.retN X hx hret ht hd hr, hrun, hend, _, locs, WL', FL', rfl, (show Inv Z EL n0 T.vm T.heap (WL' ++ WL0) (FL' ++ FL0) from WS.invT X hZ I), N, hQ, hE⟩
theorem WS.ret {WL' FL' : List Addr} {w : Value} {t : FieldType} {i : Instr} (X : WS p l e R s m args below meth c Z EL n0 own T h (WL' ++ WL0) (FL' ++ FL0) cells slots) (hx : p.tables.exec = Jvm.exec) (hret : meth.sig.returnType = some t) (hn : narrow t w = w)
    (hi : (i = .ireturn ∧ (t = .int ∨ t = .boolean ∨ t = .byte ∨ t = .char ∨ t = .short) ∧ ∃ z, w = .int z) ∨ (i = .lreturn ∧ t = .long ∧ ∃ z, w = .long z) ∨ (i = .dreturn ∧ t = .double ∧ ∃ z, w = .double z) ∨ (i = .freturn ∧ t = .float ∧ ∃ z, w = .float z) ∨ (i = .areturn ∧ t.isReference = true ∧ w.isRef = true))
    (hlk : meth.locks = false) (hd : decode c.code pc = .ok (i, 1)) (hc : cells ≤ rm.cells) (hl : slots ≤ rm.slots) (hQ : Q (some w) h WL' FL') :
    Wo p e s below Z EL n0 WL0 FL0 rm Q T (mkF m pc Ls (w :: rest)) := by
  obtain ⟨vm0, k0, locs, X, eT, hS, hk, hZ, hown, N, I⟩ := X
  obtain ⟨fs, hr, hrun, hend, hE⟩ := (X.mono hc hl).leaveW hS (by rw [eT]; exact hk) (v := some w) (fun q => by rw [hret] at q; cases q) hlk
  subst eT
  exact ⟨_, _, retOut X hx hret hn hi hd hr, hrun, hend, _, locs, WL', FL', rfl, (show Inv Z EL n0 T.vm T.heap (WL' ++ WL0) (FL' ++ FL0) from WS.invT X hZ I), N, hQ, hE⟩
theorem WS.retA {WL' FL' : List Addr} {w : Value} {t : FieldType} (X : WS p l e R s m args below meth c Z EL n0 own T h (WL' ++ WL0) (FL' ++ FL0) cells slots) (hx : p.tables.exec = Jvm.exec) (hret : meth.sig.returnType = some t) (ht : t.isReference = true) (hw : w.isRef = true) (hlk : meth.locks = false) (hd : decode c.code pc = .ok (.areturn, 1)) (hc : cells ≤ rm.cells) (hl : slots ≤ rm.slots) (hQ : Q (some w) h WL' FL') :
    Wo p e s below Z EL n0 WL0 FL0 rm Q T (mkF m pc Ls (w :: rest)) :=
  X.ret hx hret (by cases t <;> first | (cases ht; done) | (rcases ref_cases hw with rfl | ⟨a, rfl⟩ <;> rfl)) (Or.inr (Or.inr (Or.inr (Or.inr ⟨rfl, ht, hw⟩)))) hlk hd hc hl hQ
theorem WS.retI {WL' FL' : List Addr} {z : Int32} (X : WS p l e R s m args below meth c Z EL n0 own T h (WL' ++ WL0) (FL' ++ FL0) cells slots) (hx : p.tables.exec = Jvm.exec) (hret : meth.sig.returnType = some .int) (hlk : meth.locks = false) (hd : decode c.code pc = .ok (.ireturn, 1)) (hc : cells ≤ rm.cells) (hl : slots ≤ rm.slots) (hQ : Q (some (.int z)) h WL' FL') :
    Wo p e s below Z EL n0 WL0 FL0 rm Q T (mkF m pc Ls (.int z :: rest)) :=
  X.ret hx hret rfl (Or.inl ⟨rfl, Or.inl rfl, z, rfl⟩) hlk hd hc hl hQ
/-- plain steps -/
theorem P.iloadN (X : WS p l e R s m args below meth c Z EL n0 own T h WL FL cells slots) (hx : p.tables.exec = Jvm.exec) (pc' : Nat) {k : Fin 4} {v : Int32} (hd : decode c.code pc = .ok (.iload_n k, 1)) (hl : Ls[k.val]? = some (.val (.int v))) (hp : pc + 1 = pc')
    (o : Wo p e s below Z EL n0 WL0 FL0 rm Q T (mkF m pc' Ls (.int v :: st))) : Wo p e s below Z EL n0 WL0 FL0 rm Q T (mkF m pc Ls (st)) := by
  subst hp; exact Wo.by (fun _ q => XS.iloadN X.here hx rfl hd hl q) o
theorem P.iload (X : WS p l e R s m args below meth c Z EL n0 own T h WL FL cells slots) (hx : p.tables.exec = Jvm.exec) (pc' : Nat) {k : Nat} {v : Int32} (hd : decode c.code pc = .ok (.iload k, 2)) (hl : Ls[k]? = some (.val (.int v))) (hp : pc + 2 = pc')
    (o : Wo p e s below Z EL n0 WL0 FL0 rm Q T (mkF m pc' Ls (.int v :: st))) : Wo p e s below Z EL n0 WL0 FL0 rm Q T (mkF m pc Ls (st)) := by
  subst hp; exact Wo.by (fun _ q => XS.iload X.here hx rfl hd hl q) o
theorem P.aloadN (X : WS p l e R s m args below meth c Z EL n0 own T h WL FL cells slots) (hx : p.tables.exec = Jvm.exec) (pc' : Nat) {k : Fin 4} {v : Value} (hd : decode c.code pc = .ok (.aload_n k, 1)) (hl : Ls[k.val]? = some (.val v)) (hv : v.isRef = true) (hp : pc + 1 = pc')
    (o : Wo p e s below Z EL n0 WL0 FL0 rm Q T (mkF m pc' Ls (v :: st))) : Wo p e s below Z EL n0 WL0 FL0 rm Q T (mkF m pc Ls (st)) := by
  subst hp; exact Wo.by (fun _ q => XS.aloadN X.here hx rfl hd hl hv q) o
theorem P.aload (X : WS p l e R s m args below meth c Z EL n0 own T h WL FL cells slots) (hx : p.tables.exec = Jvm.exec) (pc' : Nat) {k : Nat} {v : Value} (hd : decode c.code pc = .ok (.aload k, 2)) (hl : Ls[k]? = some (.val v)) (hv : v.isRef = true) (hp : pc + 2 = pc')
    (o : Wo p e s below Z EL n0 WL0 FL0 rm Q T (mkF m pc' Ls (v :: st))) : Wo p e s below Z EL n0 WL0 FL0 rm Q T (mkF m pc Ls (st)) := by
  subst hp; exact Wo.by (fun _ q => XS.aload X.here hx rfl hd hl hv q) o
theorem P.istoreN (X : WS p l e R s m args below meth c Z EL n0 own T h WL FL cells slots) (hx : p.tables.exec = Jvm.exec) (pc' : Nat) {k : Fin 4} {x : Int32} (L' : Array Slot) (hd : decode c.code pc = .ok (.istore_n k, 1)) (hl : storeLocals Ls k.val (.int x) = some L') (hp : pc + 1 = pc')
    (o : Wo p e s below Z EL n0 WL0 FL0 rm Q T (mkF m pc' L' (st))) : Wo p e s below Z EL n0 WL0 FL0 rm Q T (mkF m pc Ls (.int x :: st)) := by
  subst hp; exact Wo.by (fun _ q => XS.istoreN X.here hx rfl hd rfl hl q) o
theorem P.istore (X : WS p l e R s m args below meth c Z EL n0 own T h WL FL cells slots) (hx : p.tables.exec = Jvm.exec) (pc' : Nat) {k : Nat} {x : Int32} (L' : Array Slot) (hd : decode c.code pc = .ok (.istore k, 2)) (hl : storeLocals Ls k (.int x) = some L') (hp : pc + 2 = pc')
    (o : Wo p e s below Z EL n0 WL0 FL0 rm Q T (mkF m pc' L' (st))) : Wo p e s below Z EL n0 WL0 FL0 rm Q T (mkF m pc Ls (.int x :: st)) := by
  subst hp; exact Wo.by (fun _ q => XS.istore X.here hx rfl hd rfl hl q) o
theorem P.astoreN (X : WS p l e R s m args below meth c Z EL n0 own T h WL FL cells slots) (hx : p.tables.exec = Jvm.exec) (pc' : Nat) {k : Fin 4} {x : Value} (L' : Array Slot) (hd : decode c.code pc = .ok (.astore_n k, 1)) (hv : x.isRef = true) (hl : storeLocals Ls k.val x = some L') (hp : pc + 1 = pc')
    (o : Wo p e s below Z EL n0 WL0 FL0 rm Q T (mkF m pc' L' (st))) : Wo p e s below Z EL n0 WL0 FL0 rm Q T (mkF m pc Ls (x :: st)) := by
  subst hp; exact Wo.by (fun _ q => XS.astoreN X.here hx rfl hd rfl hv hl q) o
theorem P.astore (X : WS p l e R s m args below meth c Z EL n0 own T h WL FL cells slots) (hx : p.tables.exec = Jvm.exec) (pc' : Nat) {k : Nat} {x : Value} (L' : Array Slot) (hd : decode c.code pc = .ok (.astore k, 2)) (hv : x.isRef = true) (hl : storeLocals Ls k x = some L') (hp : pc + 2 = pc')
    (o : Wo p e s below Z EL n0 WL0 FL0 rm Q T (mkF m pc' L' (st))) : Wo p e s below Z EL n0 WL0 FL0 rm Q T (mkF m pc Ls (x :: st)) := by
  subst hp; exact Wo.by (fun _ q => XS.astore X.here hx rfl hd rfl hv hl q) o
theorem P.iconst (X : WS p l e R s m args below meth c Z EL n0 own T h WL FL cells slots) (hx : p.tables.exec = Jvm.exec) (pc' : Nat) (z : Int32) {i : Int} (hd : decode c.code pc = .ok (.iconst i, 1)) (hz : Int32.ofInt i = z) (hp : pc + 1 = pc')
    (o : Wo p e s below Z EL n0 WL0 FL0 rm Q T (mkF m pc' Ls (.int z :: st))) : Wo p e s below Z EL n0 WL0 FL0 rm Q T (mkF m pc Ls (st)) := by
  subst hp; subst hz; exact Wo.by (fun _ q => XS.iconst X.here hx rfl hd q) o
theorem P.bipush (X : WS p l e R s m args below meth c Z EL n0 own T h WL FL cells slots) (hx : p.tables.exec = Jvm.exec) (pc' : Nat) (z : Int32) {i : Int} (hd : decode c.code pc = .ok (.bipush i, 2)) (hz : (Int8.ofInt i).toInt32 = z) (hp : pc + 2 = pc')
    (o : Wo p e s below Z EL n0 WL0 FL0 rm Q T (mkF m pc' Ls (.int z :: st))) : Wo p e s below Z EL n0 WL0 FL0 rm Q T (mkF m pc Ls (st)) := by
  subst hp; subst hz; exact Wo.by (fun _ q => XS.bipush X.here hx rfl hd q) o
theorem P.sipush (X : WS p l e R s m args below meth c Z EL n0 own T h WL FL cells slots) (hx : p.tables.exec = Jvm.exec) (pc' : Nat) (z : Int32) {i : Int} (hd : decode c.code pc = .ok (.sipush i, 3)) (hz : (Int16.ofInt i).toInt32 = z) (hp : pc + 3 = pc')
    (o : Wo p e s below Z EL n0 WL0 FL0 rm Q T (mkF m pc' Ls (.int z :: st))) : Wo p e s below Z EL n0 WL0 FL0 rm Q T (mkF m pc Ls (st)) := by
  subst hp; subst hz; exact Wo.by (fun _ q => XS.sipush X.here hx rfl hd q) o
theorem P.aconstNull (X : WS p l e R s m args below meth c Z EL n0 own T h WL FL cells slots) (hx : p.tables.exec = Jvm.exec) (pc' : Nat) (hd : decode c.code pc = .ok (.aconst_null, 1))  (hp : pc + 1 = pc')
    (o : Wo p e s below Z EL n0 WL0 FL0 rm Q T (mkF m pc' Ls (.null :: st))) : Wo p e s below Z EL n0 WL0 FL0 rm Q T (mkF m pc Ls (st)) := by
  subst hp; exact Wo.by (fun _ q => XS.aconstNull X.here hx rfl hd q) o
theorem P.iadd (X : WS p l e R s m args below meth c Z EL n0 own T h WL FL cells slots) (hx : p.tables.exec = Jvm.exec) (pc' : Nat) {x y z : Int32} (hd : decode c.code pc = .ok (.iadd, 1)) (hz : x + y = z) (hp : pc + 1 = pc')
    (o : Wo p e s below Z EL n0 WL0 FL0 rm Q T (mkF m pc' Ls (.int z :: st))) : Wo p e s below Z EL n0 WL0 FL0 rm Q T (mkF m pc Ls (.int y :: .int x :: st)) := by
  subst hp; subst hz; exact Wo.by (fun _ q => XS.iadd X.here hx rfl hd rfl q) o
theorem P.isub (X : WS p l e R s m args below meth c Z EL n0 own T h WL FL cells slots) (hx : p.tables.exec = Jvm.exec) (pc' : Nat) {x y z : Int32} (hd : decode c.code pc = .ok (.isub, 1)) (hz : x - y = z) (hp : pc + 1 = pc')
    (o : Wo p e s below Z EL n0 WL0 FL0 rm Q T (mkF m pc' Ls (.int z :: st))) : Wo p e s below Z EL n0 WL0 FL0 rm Q T (mkF m pc Ls (.int y :: .int x :: st)) := by
  subst hp; subst hz; exact Wo.by (fun _ q => XS.isub X.here hx rfl hd rfl q) o
theorem P.imul (X : WS p l e R s m args below meth c Z EL n0 own T h WL FL cells slots) (hx : p.tables.exec = Jvm.exec) (pc' : Nat) {x y z : Int32} (hd : decode c.code pc = .ok (.imul, 1)) (hz : x * y = z) (hp : pc + 1 = pc')
    (o : Wo p e s below Z EL n0 WL0 FL0 rm Q T (mkF m pc' Ls (.int z :: st))) : Wo p e s below Z EL n0 WL0 FL0 rm Q T (mkF m pc Ls (.int y :: .int x :: st)) := by
  subst hp; subst hz; exact Wo.by (fun _ q => XS.imul X.here hx rfl hd rfl q) o
theorem P.iand (X : WS p l e R s m args below meth c Z EL n0 own T h WL FL cells slots) (hx : p.tables.exec = Jvm.exec) (pc' : Nat) {x y z : Int32} (hd : decode c.code pc = .ok (.iand, 1)) (hz : x &&& y = z) (hp : pc + 1 = pc')
    (o : Wo p e s below Z EL n0 WL0 FL0 rm Q T (mkF m pc' Ls (.int z :: st))) : Wo p e s below Z EL n0 WL0 FL0 rm Q T (mkF m pc Ls (.int y :: .int x :: st)) := by
  subst hp; subst hz; exact Wo.by (fun _ q => XS.iand X.here hx rfl hd rfl q) o
theorem P.ior (X : WS p l e R s m args below meth c Z EL n0 own T h WL FL cells slots) (hx : p.tables.exec = Jvm.exec) (pc' : Nat) {x y z : Int32} (hd : decode c.code pc = .ok (.ior, 1)) (hz : x ||| y = z) (hp : pc + 1 = pc')
    (o : Wo p e s below Z EL n0 WL0 FL0 rm Q T (mkF m pc' Ls (.int z :: st))) : Wo p e s below Z EL n0 WL0 FL0 rm Q T (mkF m pc Ls (.int y :: .int x :: st)) := by
  subst hp; subst hz; exact Wo.by (fun _ q => XS.ior X.here hx rfl hd rfl q) o
theorem P.ixor (X : WS p l e R s m args below meth c Z EL n0 own T h WL FL cells slots) (hx : p.tables.exec = Jvm.exec) (pc' : Nat) {x y z : Int32} (hd : decode c.code pc = .ok (.ixor, 1)) (hz : x ^^^ y = z) (hp : pc + 1 = pc')
    (o : Wo p e s below Z EL n0 WL0 FL0 rm Q T (mkF m pc' Ls (.int z :: st))) : Wo p e s below Z EL n0 WL0 FL0 rm Q T (mkF m pc Ls (.int y :: .int x :: st)) := by
  subst hp; subst hz; exact Wo.by (fun _ q => XS.ixor X.here hx rfl hd rfl q) o
theorem P.ishl (X : WS p l e R s m args below meth c Z EL n0 own T h WL FL cells slots) (hx : p.tables.exec = Jvm.exec) (pc' : Nat) {x y z : Int32} (hd : decode c.code pc = .ok (.ishl, 1)) (hz : x <<< (y &&& 31) = z) (hp : pc + 1 = pc')
    (o : Wo p e s below Z EL n0 WL0 FL0 rm Q T (mkF m pc' Ls (.int z :: st))) : Wo p e s below Z EL n0 WL0 FL0 rm Q T (mkF m pc Ls (.int y :: .int x :: st)) := by
  subst hp; subst hz; exact Wo.by (fun _ q => XS.ishl X.here hx rfl hd rfl q) o
theorem P.ishr (X : WS p l e R s m args below meth c Z EL n0 own T h WL FL cells slots) (hx : p.tables.exec = Jvm.exec) (pc' : Nat) {x y z : Int32} (hd : decode c.code pc = .ok (.ishr, 1)) (hz : x >>> (y &&& 31) = z) (hp : pc + 1 = pc')
    (o : Wo p e s below Z EL n0 WL0 FL0 rm Q T (mkF m pc' Ls (.int z :: st))) : Wo p e s below Z EL n0 WL0 FL0 rm Q T (mkF m pc Ls (.int y :: .int x :: st)) := by
  subst hp; subst hz; exact Wo.by (fun _ q => XS.ishr X.here hx rfl hd rfl q) o
theorem P.iushr (X : WS p l e R s m args below meth c Z EL n0 own T h WL FL cells slots) (hx : p.tables.exec = Jvm.exec) (pc' : Nat) {x y z : Int32} (hd : decode c.code pc = .ok (.iushr, 1)) (hz : (x.toUInt32 >>> (y &&& 31).toUInt32).toInt32 = z) (hp : pc + 1 = pc')
    (o : Wo p e s below Z EL n0 WL0 FL0 rm Q T (mkF m pc' Ls (.int z :: st))) : Wo p e s below Z EL n0 WL0 FL0 rm Q T (mkF m pc Ls (.int y :: .int x :: st)) := by
  subst hp; subst hz; exact Wo.by (fun _ q => XS.iushr X.here hx rfl hd rfl q) o
theorem P.i2c (X : WS p l e R s m args below meth c Z EL n0 own T h WL FL cells slots) (hx : p.tables.exec = Jvm.exec) (pc' : Nat) {x z : Int32} (hd : decode c.code pc = .ok (.i2c, 1)) (hz : x.toUInt32.toUInt16.toUInt32.toInt32 = z) (hp : pc + 1 = pc')
    (o : Wo p e s below Z EL n0 WL0 FL0 rm Q T (mkF m pc' Ls (.int z :: st))) : Wo p e s below Z EL n0 WL0 FL0 rm Q T (mkF m pc Ls (.int x :: st)) := by
  subst hp; subst hz; exact Wo.by (fun _ q => XS.i2c X.here hx rfl hd rfl q) o
theorem P.i2b (X : WS p l e R s m args below meth c Z EL n0 own T h WL FL cells slots) (hx : p.tables.exec = Jvm.exec) (pc' : Nat) {x z : Int32} (hd : decode c.code pc = .ok (.i2b, 1)) (hz : x.toInt8.toInt32 = z) (hp : pc + 1 = pc')
    (o : Wo p e s below Z EL n0 WL0 FL0 rm Q T (mkF m pc' Ls (.int z :: st))) : Wo p e s below Z EL n0 WL0 FL0 rm Q T (mkF m pc Ls (.int x :: st)) := by
  subst hp; subst hz; exact Wo.by (fun _ q => XS.i2b X.here hx rfl hd rfl q) o
theorem P.i2s (X : WS p l e R s m args below meth c Z EL n0 own T h WL FL cells slots) (hx : p.tables.exec = Jvm.exec) (pc' : Nat) {x z : Int32} (hd : decode c.code pc = .ok (.i2s, 1)) (hz : x.toInt16.toInt32 = z) (hp : pc + 1 = pc')
    (o : Wo p e s below Z EL n0 WL0 FL0 rm Q T (mkF m pc' Ls (.int z :: st))) : Wo p e s below Z EL n0 WL0 FL0 rm Q T (mkF m pc Ls (.int x :: st)) := by
  subst hp; subst hz; exact Wo.by (fun _ q => XS.i2s X.here hx rfl hd rfl q) o
theorem P.ineg (X : WS p l e R s m args below meth c Z EL n0 own T h WL FL cells slots) (hx : p.tables.exec = Jvm.exec) (pc' : Nat) {x z : Int32} (hd : decode c.code pc = .ok (.ineg, 1)) (hz : -x = z) (hp : pc + 1 = pc')
    (o : Wo p e s below Z EL n0 WL0 FL0 rm Q T (mkF m pc' Ls (.int z :: st))) : Wo p e s below Z EL n0 WL0 FL0 rm Q T (mkF m pc Ls (.int x :: st)) := by
  subst hp; subst hz; exact Wo.by (fun _ q => XS.ineg X.here hx rfl hd rfl q) o
theorem P.idiv (X : WS p l e R s m args below meth c Z EL n0 own T h WL FL cells slots) (hx : p.tables.exec = Jvm.exec) (pc' : Nat) {x y z : Int32} (hd : decode c.code pc = .ok (.idiv, 1)) (hy : y ≠ 0) (hz : x / y = z) (hp : pc + 1 = pc')
    (o : Wo p e s below Z EL n0 WL0 FL0 rm Q T (mkF m pc' Ls (.int z :: st))) : Wo p e s below Z EL n0 WL0 FL0 rm Q T (mkF m pc Ls (.int y :: .int x :: st)) := by
  subst hp; subst hz; exact Wo.by (fun _ q => XS.idiv X.here hx rfl hd rfl hy q) o
theorem P.irem (X : WS p l e R s m args below meth c Z EL n0 own T h WL FL cells slots) (hx : p.tables.exec = Jvm.exec) (pc' : Nat) {x y z : Int32} (hd : decode c.code pc = .ok (.irem, 1)) (hy : y ≠ 0) (hz : x % y = z) (hp : pc + 1 = pc')
    (o : Wo p e s below Z EL n0 WL0 FL0 rm Q T (mkF m pc' Ls (.int z :: st))) : Wo p e s below Z EL n0 WL0 FL0 rm Q T (mkF m pc Ls (.int y :: .int x :: st)) := by
  subst hp; subst hz; exact Wo.by (fun _ q => XS.irem X.here hx rfl hd rfl hy (by rw [irem_eq_mod]; exact q)) o
theorem P.iinc (X : WS p l e R s m args below meth c Z EL n0 own T h WL FL cells slots) (hx : p.tables.exec = Jvm.exec) (pc' : Nat) {k : Nat} {i : Int} {x : Int32} (L' : Array Slot) (hd : decode c.code pc = .ok (.iinc k i, 3)) (hl : Ls[k]? = some (.val (.int x))) (hl' : storeLocals Ls k (.int (x + Int32.ofInt i)) = some L') (hp : pc + 3 = pc')
    (o : Wo p e s below Z EL n0 WL0 FL0 rm Q T (mkF m pc' L' (st))) : Wo p e s below Z EL n0 WL0 FL0 rm Q T (mkF m pc Ls (st)) := by
  subst hp; exact Wo.by (fun _ q => XS.iinc X.here hx rfl hd hl hl' q) o
theorem P.dup (X : WS p l e R s m args below meth c Z EL n0 own T h WL FL cells slots) (hx : p.tables.exec = Jvm.exec) (pc' : Nat) {x : Value} (hd : decode c.code pc = .ok (.dup, 1)) (hc : x.category = 1) (hp : pc + 1 = pc')
    (o : Wo p e s below Z EL n0 WL0 FL0 rm Q T (mkF m pc' Ls (x :: x :: st))) : Wo p e s below Z EL n0 WL0 FL0 rm Q T (mkF m pc Ls (x :: st)) := by
  subst hp; exact Wo.by (fun _ q => XS.dup X.here hx rfl hd rfl hc q) o
theorem P.pop (X : WS p l e R s m args below meth c Z EL n0 own T h WL FL cells slots) (hx : p.tables.exec = Jvm.exec) (pc' : Nat) {x : Value} (hd : decode c.code pc = .ok (.pop, 1)) (hc : x.category = 1) (hp : pc + 1 = pc')
    (o : Wo p e s below Z EL n0 WL0 FL0 rm Q T (mkF m pc' Ls (st))) : Wo p e s below Z EL n0 WL0 FL0 rm Q T (mkF m pc Ls (x :: st)) := by
  subst hp; exact Wo.by (fun _ q => XS.pop X.here hx rfl hd rfl hc q) o
theorem P.dupX1 (X : WS p l e R s m args below meth c Z EL n0 own T h WL FL cells slots) (hx : p.tables.exec = Jvm.exec) (pc' : Nat) {x y : Value} (hd : decode c.code pc = .ok (.dup_x1, 1)) (hc : x.category = 1) (hc' : y.category = 1) (hp : pc + 1 = pc')
    (o : Wo p e s below Z EL n0 WL0 FL0 rm Q T (mkF m pc' Ls (x :: y :: x :: st))) : Wo p e s below Z EL n0 WL0 FL0 rm Q T (mkF m pc Ls (x :: y :: st)) := by
  subst hp; exact Wo.by (fun _ q => XS.dupX1 X.here hx rfl hd rfl hc hc' q) o
theorem P.goto (X : WS p l e R s m args below meth c Z EL n0 own T h WL FL cells slots) (hx : p.tables.exec = Jvm.exec) (pc' : Nat) {off : Int} (hd : decode c.code pc = .ok (.goto off, 3))  (ho : 0 ≤ (pc : Int) + off) (hp : ((pc : Int) + off).toNat = pc')
    (o : Wo p e s below Z EL n0 WL0 FL0 rm Q T (mkF m pc' Ls (st))) : Wo p e s below Z EL n0 WL0 FL0 rm Q T (mkF m pc Ls (st)) := by
  exact Wo.by (fun _ q => XS.goto X.here hx rfl (pc0 := pc) rfl hd ho hp q) o
theorem P.ifYes (X : WS p l e R s m args below meth c Z EL n0 own T h WL FL cells slots) (hx : p.tables.exec = Jvm.exec) (pc' : Nat) {off : Int} {cd : ClassFile.Cond} {x : Int32} (hd : decode c.code pc = .ok (.ifCond cd off, 3)) (hc : ifCond.holds cd x = true) (ho : 0 ≤ (pc : Int) + off) (hp : ((pc : Int) + off).toNat = pc')
    (o : Wo p e s below Z EL n0 WL0 FL0 rm Q T (mkF m pc' Ls (st))) : Wo p e s below Z EL n0 WL0 FL0 rm Q T (mkF m pc Ls (.int x :: st)) := by
  exact Wo.by (fun _ q => XS.ifYes X.here hx rfl (pc0 := pc) rfl hd rfl hc ho hp q) o
theorem P.ifNo (X : WS p l e R s m args below meth c Z EL n0 own T h WL FL cells slots) (hx : p.tables.exec = Jvm.exec) (pc' : Nat) {off : Int} {cd : ClassFile.Cond} {x : Int32} (hd : decode c.code pc = .ok (.ifCond cd off, 3)) (hc : ifCond.holds cd x = false) (hp : pc + 3 = pc')
    (o : Wo p e s below Z EL n0 WL0 FL0 rm Q T (mkF m pc' Ls (st))) : Wo p e s below Z EL n0 WL0 FL0 rm Q T (mkF m pc Ls (.int x :: st)) := by
  subst hp; exact Wo.by (fun _ q => XS.ifNo X.here hx rfl hd rfl hc q) o
theorem P.icmpYes (X : WS p l e R s m args below meth c Z EL n0 own T h WL FL cells slots) (hx : p.tables.exec = Jvm.exec) (pc' : Nat) {off : Int} {cd : ClassFile.Cond} {x y : Int32} (hd : decode c.code pc = .ok (.if_icmp cd off, 3)) (hc : if_icmp.holds cd x y = true) (ho : 0 ≤ (pc : Int) + off) (hp : ((pc : Int) + off).toNat = pc')
    (o : Wo p e s below Z EL n0 WL0 FL0 rm Q T (mkF m pc' Ls (st))) : Wo p e s below Z EL n0 WL0 FL0 rm Q T (mkF m pc Ls (.int y :: .int x :: st)) := by
  exact Wo.by (fun _ q => XS.icmpYes X.here hx rfl (pc0 := pc) rfl hd rfl hc ho hp q) o
theorem P.icmpNo (X : WS p l e R s m args below meth c Z EL n0 own T h WL FL cells slots) (hx : p.tables.exec = Jvm.exec) (pc' : Nat) {off : Int} {cd : ClassFile.Cond} {x y : Int32} (hd : decode c.code pc = .ok (.if_icmp cd off, 3)) (hc : if_icmp.holds cd x y = false) (hp : pc + 3 = pc')
    (o : Wo p e s below Z EL n0 WL0 FL0 rm Q T (mkF m pc' Ls (st))) : Wo p e s below Z EL n0 WL0 FL0 rm Q T (mkF m pc Ls (.int y :: .int x :: st)) := by
  subst hp; exact Wo.by (fun _ q => XS.icmpNo X.here hx rfl hd rfl hc q) o
theorem P.ifnullYes (X : WS p l e R s m args below meth c Z EL n0 own T h WL FL cells slots) (hx : p.tables.exec = Jvm.exec) (pc' : Nat) {off : Int} (hd : decode c.code pc = .ok (.ifnull off, 3))  (ho : 0 ≤ (pc : Int) + off) (hp : ((pc : Int) + off).toNat = pc')
    (o : Wo p e s below Z EL n0 WL0 FL0 rm Q T (mkF m pc' Ls (st))) : Wo p e s below Z EL n0 WL0 FL0 rm Q T (mkF m pc Ls (.null :: st)) := by
  exact Wo.by (fun _ q => XS.ifnullYes X.here hx rfl (pc0 := pc) rfl hd rfl ho hp q) o
theorem P.ifnullNo (X : WS p l e R s m args below meth c Z EL n0 own T h WL FL cells slots) (hx : p.tables.exec = Jvm.exec) (pc' : Nat) {off : Int} {b : Addr} (hd : decode c.code pc = .ok (.ifnull off, 3))  (hp : pc + 3 = pc')
    (o : Wo p e s below Z EL n0 WL0 FL0 rm Q T (mkF m pc' Ls (st))) : Wo p e s below Z EL n0 WL0 FL0 rm Q T (mkF m pc Ls (.ref b :: st)) := by
  subst hp; exact Wo.by (fun _ q => XS.ifnullNo X.here hx rfl hd rfl q) o
theorem P.ifnonnullYes (X : WS p l e R s m args below meth c Z EL n0 own T h WL FL cells slots) (hx : p.tables.exec = Jvm.exec) (pc' : Nat) {off : Int} {b : Addr} (hd : decode c.code pc = .ok (.ifnonnull off, 3))  (ho : 0 ≤ (pc : Int) + off) (hp : ((pc : Int) + off).toNat = pc')
    (o : Wo p e s below Z EL n0 WL0 FL0 rm Q T (mkF m pc' Ls (st))) : Wo p e s below Z EL n0 WL0 FL0 rm Q T (mkF m pc Ls (.ref b :: st)) := by
  exact Wo.by (fun _ q => XS.ifnonnullYes X.here hx rfl (pc0 := pc) rfl hd rfl ho hp q) o
theorem P.ifnonnullNo (X : WS p l e R s m args below meth c Z EL n0 own T h WL FL cells slots) (hx : p.tables.exec = Jvm.exec) (pc' : Nat) {off : Int} (hd : decode c.code pc = .ok (.ifnonnull off, 3))  (hp : pc + 3 = pc')
    (o : Wo p e s below Z EL n0 WL0 FL0 rm Q T (mkF m pc' Ls (st))) : Wo p e s below Z EL n0 WL0 FL0 rm Q T (mkF m pc Ls (.null :: st)) := by
  subst hp; exact Wo.by (fun _ q => XS.ifnonnullNo X.here hx rfl hd rfl q) o
/-- steps that read or write -/
theorem WS.getF (X : WS p l e R s m args below meth c Z EL n0 own T h WL FL cells slots) (hx : p.tables.exec = Jvm.exec) {R0 O n d host : String} {index : Nat} (w : (Jvm.Cond.fieldLink own index R0 n d).before a0 Z = true ∨ (Jvm.Cond.fieldLinkNest own index R0 n d host).before a0 Z = true) (via : Via Z R0 O n d) {a : Addr} {v : Value} (F : Fld Z h a O n d v)
    (hd : decode c.code pc = .ok (.getfield index, 3)) (k : ∀ T', WS p l e R s m args below meth c Z EL n0 own T' h WL FL cells slots → Wo p e s below Z EL n0 WL0 FL0 rm Q T' (mkF m (pc + 3) Ls (v :: rest))) :
    Wo p e s below Z EL n0 WL0 FL0 rm Q T (mkF m pc Ls (.ref a :: rest)) := by
  obtain ⟨vm0, k0, locs, X, eT, hS, hk, hZ, hown, N, I⟩ := X
  obtain ⟨T', X', eT', st⟩ := RoadKit.getF X hx hZ hown w via eT F (g := mkF m pc Ls (.ref a :: rest)) rfl rfl hd
  exact Wo.by st (k T' ⟨vm0, k0, locs, X', eT', hS, hk, hZ, hown, N, I⟩)
theorem WS.getS (X : WS p l e R s m args below meth c Z EL n0 own T h WL FL cells slots) (hx : p.tables.exec = Jvm.exec) {R0 O n d : String} {index : Nat} (w : (Jvm.Cond.fieldLink own index R0 n d).before a0 Z = true) (via : Via Z R0 O n d) {v : Value} (F : Sta Z Z.heap O n d v)
    (hd : decode c.code pc = .ok (.getstatic index, 3)) (k : ∀ T', WS p l e R s m args below meth c Z EL n0 own T' h WL FL cells slots → Wo p e s below Z EL n0 WL0 FL0 rm Q T' (mkF m (pc + 3) Ls (v :: st))) :
    Wo p e s below Z EL n0 WL0 FL0 rm Q T (mkF m pc Ls st) := by
  have F' := X.sta F
  obtain ⟨vm0, k0, locs, X, eT, hS, hk, hZ, hown, N, I⟩ := X
  obtain ⟨T', X', eT', st⟩ := RoadKit.getS (host := "") X hx hZ hown w via eT F' (g := mkF m pc Ls st) rfl hd
  exact Wo.by st (k T' ⟨vm0, k0, locs, X', eT', hS, hk, hZ, hown, N, I⟩)
theorem WS.putF (X : WS p l e R s m args below meth c Z EL n0 own T h WL FL cells slots) (hx : p.tables.exec = Jvm.exec) {R0 O n d host C : String} {index kk : Nat} {ty : FieldType} (w : (Jvm.Cond.fieldLink own index R0 n d).before a0 Z = true ∨ (Jvm.Cond.fieldLinkNest own index R0 n d host).before a0 Z = true) (via : Via Z R0 O n d) {a : Addr} {v old : Value} (F : Fld Z h a O n d old) (E : Exa Z h a C)
    (L : (Jvm.Cond.lays C O n d).before a0 Z = true ∨ ((Jvm.Cond.laysFinal C O n d).before a0 Z = true ∧ own = O ∧ meth.name = "<init>")) (wi : (Jvm.Cond.instantiable C kk).before a0 Z = true) (hty : parseFieldDescriptor d = some ty) (hn : narrow ty v = v) (hf : fits ty v = true) (ha : a ∈ WL)
    (hd : decode c.code pc = .ok (.putfield index, 3)) (k : ∀ T' h', WS p l e R s m args below meth c Z EL n0 own T' h' WL FL cells slots → Wr h h' a (Jvm.RoadKit.slotOf Z O n d) v → Fld Z h' a O n d v → Wo p e s below Z EL n0 WL0 FL0 rm Q T' (mkF m (pc + 3) Ls rest)) :
    Wo p e s below Z EL n0 WL0 FL0 rm Q T (mkF m pc Ls (v :: .ref a :: rest)) := by
  obtain ⟨vm0, k0, locs, X, eT, hS, hk, hZ, hown, N, I⟩ := X
  obtain ⟨T', h', X', eT', W, st⟩ := RoadKit.putF X hx hZ hown w via eT F E L wi hty hn hf (g := mkF m pc Ls (v :: .ref a :: rest)) rfl rfl hd
  exact Wo.by st (k T' h' ⟨vm0, k0, _, X', eT', hS, by rw [W.size]; exact hk, hZ, hown, Fr.snoc X' N (I.ge ha), I.wr W ha⟩ W (F.same W))
theorem WS.newO (X : WS p l e R s m args below meth c Z EL n0 own T h WL FL cells slots) (hx : p.tables.exec = Jvm.exec) {C : String} {index n : Nat} (w : (Jvm.Cond.classLink own index C).before a0 Z = true) (wi : (Jvm.Cond.instantiable C n).before a0 Z = true) (wz : (Jvm.Cond.initialized C).before a0 Z = true)
    (hd : decode c.code pc = .ok (.new index, 3)) (hc : cells + 1 ≤ R.cells) (hl : slots + n ≤ R.slots)
    (k : ∀ T' h' a, WS p l e R s m args below meth c Z EL n0 own T' h' (a :: WL) FL (cells + 1) (slots + n) → Ext h h' → h.size ≤ a → Exa Z h' a C → (∀ {O nm d : String} {ty : FieldType}, Laid Z a0 C O nm d → parseFieldDescriptor d = some ty → Fld Z h' a O nm d (defaultValue ty)) → Wo p e s below Z EL n0 WL0 FL0 rm Q T' (mkF m (pc + 3) Ls (.ref a :: st))) :
    Wo p e s below Z EL n0 WL0 FL0 rm Q T (mkF m pc Ls st) := by
  obtain ⟨vm0, k0, locs, X, eT, hS, hk, hZ, hown, N, I⟩ := X
  obtain ⟨T', h', X', eT', E, A, D, -, st⟩ := RoadKit.newO X hx hZ hown w wi wz eT (g := mkF m pc Ls st) rfl hd hc hl
  exact Wo.by st (k T' h' h.size ⟨vm0, k0, _, X', eT', hS, Nat.le_trans hk E.1, hZ, hown, N, I.new E A.lt⟩ E (Nat.le_refl _) A D)
theorem WS.newP (X : WS p l e R s m args below meth c Z EL n0 own T h WL FL cells slots) (hx : p.tables.exec = Jvm.exec) {aty : ArrayType} (w : (Jvm.Cond.arrayClass (newarray.typeOf aty)).before a0 Z = true) {n : Int32} (hd : decode c.code pc = .ok (.newarray aty, 2))
    (hn : ¬ n < 0) {cap : Nat} (hcap : n.toNatClampNeg ≤ cap) (hb : cap * 8 ≤ 536870912) (hc : cells + 1 ≤ R.cells) (hl : slots + cap ≤ R.slots)
    (k : ∀ T' h' a ka, WS p l e R s m args below meth c Z EL n0 own T' h' (a :: WL) FL (cells + 1) (slots + cap) → Ext h h' → h.size ≤ a → Arv Z h' a ka (newarray.typeOf aty) n [] (defaultValue (newarray.typeOf aty)) → Wo p e s below Z EL n0 WL0 FL0 rm Q T' (mkF m (pc + 2) Ls (.ref a :: rest))) :
    Wo p e s below Z EL n0 WL0 FL0 rm Q T (mkF m pc Ls (.int n :: rest)) := by
  obtain ⟨vm0, k0, locs, X, eT, hS, hk, hZ, hown, N, I⟩ := X
  obtain ⟨T', h', cA, X', eT', E, A, st⟩ := RoadKit.newP X hx hZ w eT (g := mkF m pc Ls (.int n :: rest)) rfl hd rfl hn hcap hb hc hl
  exact Wo.by st (k T' h' h.size cA ⟨vm0, k0, _, X', eT', hS, Nat.le_trans hk E.1, hZ, hown, N, I.new E A.lt⟩ E (Nat.le_refl _) (Arv.new A hn))
theorem WS.stC (X : WS p l e R s m args below meth c Z EL n0 own T h WL FL cells slots) (hx : p.tables.exec = Jvm.exec) {a : Addr} {ka : ClassId} {N : Int32} {vs : List Value} {dv : Value} (A : Arv Z h a ka .char N vs dv) {j x : Int32} {i : Nat} (hj : ¬ j < 0 ∧ j < N) (hi : j.toNatClampNeg = i) (hl : i < vs.length) (ha : a ∈ WL)
    (hd : decode c.code pc = .ok (.castore, 1)) (k : ∀ T' h', WS p l e R s m args below meth c Z EL n0 own T' h' WL FL cells slots → Wr h h' a j.toNatClampNeg (.int (nar .char x)) → Arv Z h' a ka .char N (vs.set i (.int (nar .char x))) dv → Wo p e s below Z EL n0 WL0 FL0 rm Q T' (mkF m (pc + 1) Ls rest)) :
    Wo p e s below Z EL n0 WL0 FL0 rm Q T (mkF m pc Ls (.int x :: .int j :: .ref a :: rest)) := by
  obtain ⟨vm0, k0, locs, X, eT, hS, hk, hZ, hown, N, I⟩ := X
  obtain ⟨cl, A1, A2, A3, A4, A5, A6⟩ := A
  obtain ⟨T', h', X', eT', W, st⟩ := RoadKit.stC X hx hZ eT A1 (inb_of A3 hj) (g := mkF m pc Ls (.int x :: .int j :: .ref a :: rest)) rfl rfl hd
  exact Wo.by st (k T' h' ⟨vm0, k0, _, X', eT', hS, by rw [W.size]; exact hk, hZ, hown, Fr.snoc X' N (I.ge ha), I.wr W ha⟩ W (Arv.set A1 A2 A3 A4 A5 A6 (fits_nar_char x) W i hi hl))
theorem WS.stB (X : WS p l e R s m args below meth c Z EL n0 own T h WL FL cells slots) (hx : p.tables.exec = Jvm.exec) {a : Addr} {ka : ClassId} {N : Int32} {vs : List Value} {dv : Value} (A : Arv Z h a ka .byte N vs dv) {j x : Int32} {i : Nat} (hj : ¬ j < 0 ∧ j < N) (hi : j.toNatClampNeg = i) (hl : i < vs.length) (ha : a ∈ WL)
    (hd : decode c.code pc = .ok (.bastore, 1)) (k : ∀ T' h', WS p l e R s m args below meth c Z EL n0 own T' h' WL FL cells slots → Wr h h' a j.toNatClampNeg (.int (nar .byte x)) → Arv Z h' a ka .byte N (vs.set i (.int (nar .byte x))) dv → Wo p e s below Z EL n0 WL0 FL0 rm Q T' (mkF m (pc + 1) Ls rest)) :
    Wo p e s below Z EL n0 WL0 FL0 rm Q T (mkF m pc Ls (.int x :: .int j :: .ref a :: rest)) := by
  obtain ⟨vm0, k0, locs, X, eT, hS, hk, hZ, hown, N, I⟩ := X
  obtain ⟨cl, A1, A2, A3, A4, A5, A6⟩ := A
  obtain ⟨T', h', X', eT', W, st⟩ := RoadKit.stB X hx hZ eT A1 (inb_of A3 hj) (g := mkF m pc Ls (.int x :: .int j :: .ref a :: rest)) rfl rfl hd
  exact Wo.by st (k T' h' ⟨vm0, k0, _, X', eT', hS, by rw [W.size]; exact hk, hZ, hown, Fr.snoc X' N (I.ge ha), I.wr W ha⟩ W (Arv.set A1 A2 A3 A4 A5 A6 (fits_nar_byte x) W i hi hl))
theorem WS.initO (X : WS p l e R s m args below meth c Z EL n0 own T h WL FL cells slots) (hx : p.tables.exec = Jvm.exec) {idx : Nat} (w1 : (Jvm.Cond.methodLink own idx Lib.objectInit).before a0 Z = true) (w2 : (Jvm.Cond.instanceMethod Lib.objectInit).before a0 Z = true)
    (w3 : (Jvm.Cond.code Lib.objectInit ⟨#[0xb1]⟩ 1 none).before a0 Z = true) (hsize : Ls.size = c.maxLocals) {a : Addr} (hd : decode c.code pc = .ok (.invokespecial idx, 3))
    (hf : 1 ≤ R.frames) {W : Nat} (hW : (rest.map fun v => v.category).sum ≤ W) (hl : W + 12 ≤ R.locals)
    (k : ∀ T', WS p l e R s m args below meth c Z EL n0 own T' h WL FL cells slots → Wo p e s below Z EL n0 WL0 FL0 rm Q T' (mkF m (pc + 3) Ls rest)) :
    Wo p e s below Z EL n0 WL0 FL0 rm Q T (mkF m pc Ls (.ref a :: rest)) := by
  obtain ⟨vm0, k0, locs, X, eT, hS, hk, hZ, hown, N, I⟩ := X
  obtain ⟨T', X', eT', st⟩ := RoadKit.initO X hx hZ hown w1 w2 w3 eT (g := mkF m pc Ls (.ref a :: rest)) rfl hsize rfl hd hf (W := W) (by show 2 * 0 + _ ≤ _; omega) hl
  exact Wo.by st (k T' ⟨vm0, k0, _, X', eT', hS, hk, hZ, hown, N, I⟩)
theorem cat_ref {v : Value} (hv : v.isRef = true) : v.category = 1 := by rcases ref_cases hv with rfl | ⟨a, rfl⟩ <;> rfl
theorem nar_ref {v : Value} {t : FieldType} (ht : t.isReference = true) (hv : v.isRef = true) : narrow t v = v := by cases t <;> first | (cases ht; done) | (rcases ref_cases hv with rfl | ⟨a, rfl⟩ <;> rfl)
theorem fit_ref {v : Value} {t : FieldType} (ht : t.isReference = true) (hv : v.isRef = true) : fits t v = true := by cases t <;> first | (cases ht; done) | (rcases ref_cases hv with rfl | ⟨a, rfl⟩ <;> rfl)
theorem WS.acmp (X : WS p l e R s m args below meth c Z EL n0 own T h WL FL cells slots) (hx : p.tables.exec = Jvm.exec) {cd : ACond} {x y : Value} (h1 : x.isRef = true) (h2 : y.isRef = true) {o : Int} {pc' : Nat} {same : Bool}
    (hd : decode c.code pc = .ok (.if_acmp cd o, 3)) (hq : decide (x = y) = same) (ho : 0 ≤ (pc : Int) + o) (hp : pc' = if acV cd same = true then ((pc : Int) + o).toNat else pc + 3)
    (k : Wo p e s below Z EL n0 WL0 FL0 rm Q T (mkF m pc' Ls rest)) : Wo p e s below Z EL n0 WL0 FL0 rm Q T (mkF m pc Ls (y :: x :: rest)) := by
  obtain ⟨vm0, k0, locs, X, eT, hS, hk, hZ, hown, N, I⟩ := X
  exact Wo.by (fun t q => RoadKit.acmp (g := mkF m pc Ls (y :: x :: rest)) X hx rfl h1 h2 (pc0 := pc) rfl hd rfl hq ho hp q) k
theorem WS.alen (X : WS p l e R s m args below meth c Z EL n0 own T h WL FL cells slots) (hx : p.tables.exec = Jvm.exec) {a : Addr} {ka : ClassId} {ty : FieldType} {N : Int32} {vs : List Value} {dv : Value} (A : Arv Z h a ka ty N vs dv) (hd : decode c.code pc = .ok (.arraylength, 1))
    (k : Wo p e s below Z EL n0 WL0 FL0 rm Q T (mkF m (pc + 1) Ls (.int N :: rest))) : Wo p e s below Z EL n0 WL0 FL0 rm Q T (mkF m pc Ls (.ref a :: rest)) := by
  obtain ⟨vm0, k0, locs, X, eT, hS, hk, hZ, hown, N, I⟩ := X
  obtain ⟨cl, A1, A2, A3, A4, -, -⟩ := A
  refine Wo.by (fun t q => X.arraylength hx (by rw [eT]; exact A1.1) (State.isArrayOf_alike hZ.alike A1.2.1) (g := mkF m pc Ls (.ref a :: rest)) rfl rfl hd t ?_) k
  rw [len_of A3 A4]; exact q
theorem WS.cld (X : WS p l e R s m args below meth c Z EL n0 own T h WL FL cells slots) (hx : p.tables.exec = Jvm.exec) {a : Addr} {ka : ClassId} {N : Int32} {vs : List Value} {dv : Value} (A : Arv Z h a ka .char N vs dv) {j x : Int32} (hj : ¬ j < 0 ∧ j < N) (hv : vs.getD j.toNatClampNeg dv = .int x) (hd : decode c.code pc = .ok (.caload, 1))
    (k : Wo p e s below Z EL n0 WL0 FL0 rm Q T (mkF m (pc + 1) Ls (.int x :: rest))) : Wo p e s below Z EL n0 WL0 FL0 rm Q T (mkF m pc Ls (.int j :: .ref a :: rest)) := by
  obtain ⟨vm0, k0, locs, X, eT, hS, hk, hZ, hown, N, I⟩ := X
  obtain ⟨cl, A1, A2, A3, A4, A5, -⟩ := A
  exact Wo.by (fun t q => X.caload hx (by rw [eT]; exact A1.1) (State.isArrayOf_alike hZ.alike A1.2.1) A1.2.2 (inb_of A3 hj) (A5.at (inb_of A3 hj) hv) (g := mkF m pc Ls (.int j :: .ref a :: rest)) rfl rfl hd t q) k
theorem WS.bld (X : WS p l e R s m args below meth c Z EL n0 own T h WL FL cells slots) (hx : p.tables.exec = Jvm.exec) {a : Addr} {ka : ClassId} {N : Int32} {vs : List Value} {dv : Value} (A : Arv Z h a ka .byte N vs dv) {j x : Int32} (hj : ¬ j < 0 ∧ j < N) (hv : vs.getD j.toNatClampNeg dv = .int x) (hd : decode c.code pc = .ok (.baload, 1))
    (k : Wo p e s below Z EL n0 WL0 FL0 rm Q T (mkF m (pc + 1) Ls (.int x :: rest))) : Wo p e s below Z EL n0 WL0 FL0 rm Q T (mkF m pc Ls (.int j :: .ref a :: rest)) := by
  obtain ⟨vm0, k0, locs, X, eT, hS, hk, hZ, hown, N, I⟩ := X
  obtain ⟨cl, A1, A2, A3, A4, A5, -⟩ := A
  exact Wo.by (fun t q => X.baloadBytes hx (by rw [eT]; exact A1.1) (State.isArrayOf_alike hZ.alike A1.2.1) A1.2.2 (inb_of A3 hj) (A5.at (inb_of A3 hj) hv) (g := mkF m pc Ls (.int j :: .ref a :: rest)) rfl rfl hd t q) k
theorem WS.castY (X : WS p l e R s m args below meth c Z EL n0 own T h WL FL cells slots) (hx : p.tables.exec = Jvm.exec) {C : String} {index : Nat} (w : (Jvm.Cond.classLink own index C).before a0 Z = true) {a : Addr} (F : Ins Z h a C true) (hd : decode c.code pc = .ok (.checkcast index, 3))
    (k : ∀ T', WS p l e R s m args below meth c Z EL n0 own T' h WL FL cells slots → Wo p e s below Z EL n0 WL0 FL0 rm Q T' (mkF m (pc + 3) Ls (.ref a :: rest))) : Wo p e s below Z EL n0 WL0 FL0 rm Q T (mkF m pc Ls (.ref a :: rest)) := by
  obtain ⟨vm0, k0, locs, X, eT, hS, hk, hZ, hown, N, I⟩ := X
  obtain ⟨T', X', eT', st⟩ := RoadKit.castY X hx hZ hown w eT F (g := mkF m pc Ls (.ref a :: rest)) rfl rfl hd
  exact Wo.by st (k T' ⟨vm0, k0, _, X', eT', hS, hk, hZ, hown, N, I⟩)
theorem WS.instY (X : WS p l e R s m args below meth c Z EL n0 own T h WL FL cells slots) (hx : p.tables.exec = Jvm.exec) {C : String} {index : Nat} (w : (Jvm.Cond.classLink own index C).before a0 Z = true) {a : Addr} (F : Ins Z h a C true) (hd : decode c.code pc = .ok (.instanceof index, 3))
    (k : ∀ T', WS p l e R s m args below meth c Z EL n0 own T' h WL FL cells slots → Wo p e s below Z EL n0 WL0 FL0 rm Q T' (mkF m (pc + 3) Ls (.int 1 :: rest))) : Wo p e s below Z EL n0 WL0 FL0 rm Q T (mkF m pc Ls (.ref a :: rest)) := by
  obtain ⟨vm0, k0, locs, X, eT, hS, hk, hZ, hown, N, I⟩ := X
  obtain ⟨T', X', eT', st⟩ := RoadKit.instY X hx hZ hown w eT F (g := mkF m pc Ls (.ref a :: rest)) rfl rfl hd
  exact Wo.by st (k T' ⟨vm0, k0, _, X', eT', hS, hk, hZ, hown, N, I⟩)
theorem WS.castN (X : WS p l e R s m args below meth c Z EL n0 own T h WL FL cells slots) (hx : p.tables.exec = Jvm.exec) {index : Nat} (hd : decode c.code pc = .ok (.checkcast index, 3))
    (k : Wo p e s below Z EL n0 WL0 FL0 rm Q T (mkF m (pc + 3) Ls (.null :: rest))) : Wo p e s below Z EL n0 WL0 FL0 rm Q T (mkF m pc Ls (.null :: rest)) := by
  obtain ⟨vm0, k0, locs, X, eT, hS, hk, hZ, hown, N, I⟩ := X
  exact Wo.by (X.checkcastNull hx (g := mkF m pc Ls (.null :: rest)) rfl rfl hd) k
theorem WS.ldcI (X : WS p l e R s m args below meth c Z EL n0 own T h WL FL cells slots) (hx : p.tables.exec = Jvm.exec) {index : Nat} {v : Int32} (w : (Jvm.Cond.constant own index v).before a0 Z = true) (hd : decode c.code pc = .ok (.ldc index, 2))
    (k : Wo p e s below Z EL n0 WL0 FL0 rm Q T (mkF m (pc + 2) Ls (.int v :: st))) : Wo p e s below Z EL n0 WL0 FL0 rm Q T (mkF m pc Ls st) := by
  obtain ⟨vm0, k0, locs, X, eT, hS, hk, hZ, hown, N, I⟩ := X
  exact Wo.by (X.ldcInt hx hown (mv hZ w) (g := mkF m pc Ls st) rfl hd) k
theorem WS.cpA (X : WS p l e R s m args below meth c Z EL n0 own T h WL FL cells slots) (hx : p.tables.exec = Jvm.exec) {index : Nat} (w1 : (Jvm.Cond.methodLink own index Jvm.Stand.acN).before a0 Z = true) (w2 : (Jvm.Cond.native Jvm.Stand.acN).before a0 Z = true) (w3 : (Jvm.Cond.static Jvm.Stand.acN).before a0 Z = true) (w4 : (Jvm.Cond.initialized "java/lang/System").before a0 Z = true)
    {a b : Addr} {ka kb : ClassId} {ty ty' : FieldType} {z z' sp dp nn : Int32} {vs vd us vr : List Value} {dv dd : Value} (A : Arv Z h a ka ty z vs dv) (B : Arv Z h b kb ty' z' vd dd) (hty : (ty = ty' ∧ refKind ty = false) ∨ (refKind ty = true ∧ refKind ty' = true ∧ StoL Z h b us))
    (h1 : ¬ sp < 0) (h2 : ¬ dp < 0) (h3 : ¬ nn < 0) (h4 : sp.toNatClampNeg + nn.toNatClampNeg ≤ z.toNatClampNeg) (h5 : dp.toNatClampNeg + nn.toNatClampNeg ≤ z'.toNatClampNeg)
    (hus : us = (List.range nn.toNatClampNeg).map fun i => vs.getD (sp.toNatClampNeg + i) dv) (hl : dp.toNatClampNeg + nn.toNatClampNeg ≤ vd.length) (hr : vd.take dp.toNatClampNeg ++ us ++ vd.drop (dp.toNatClampNeg + nn.toNatClampNeg) = vr) (hb : b ∈ WL)
    (hsize : Ls.size = c.maxLocals) (hd : decode c.code pc = .ok (.invokestatic index, 3)) (hf : 1 ≤ R.frames) {W : Nat} (hW : (rest.map fun v => v.category).sum ≤ W) (hlo : W + 18 ≤ R.locals)
    (k : ∀ T' h', WS p l e R s m args below meth c Z EL n0 own T' h' WL FL cells slots → Keep h h' [b] → Arv Z h' b kb ty' z' vr dd → Wo p e s below Z EL n0 WL0 FL0 rm Q T' (mkF m (pc + 3) Ls rest)) :
    Wo p e s below Z EL n0 WL0 FL0 rm Q T (mkF m pc Ls (.int nn :: .int dp :: .ref b :: .int sp :: .ref a :: rest)) := by
  obtain ⟨vm0, k0, locs, X, eT, hS, hk, hZ, hown, N, I⟩ := X
  obtain ⟨T', h', L, X', eT', N', K, V, st⟩ := RoadKit.cpA X hx hZ hown w1 w2 w3 w4 eT A B hty h1 h2 h3 h4 h5 hus hl N (I.ge hb) (g := mkF m pc Ls (.int nn :: .int dp :: .ref b :: .int sp :: .ref a :: rest)) rfl hsize rfl hd hf (W := W) (by show 2 * 0 + _ ≤ _; omega) (by rw [show nativeFrameWords "java/lang/System" "arraycopy" 5 = 7 by decide]; omega)
  subst hr
  exact Wo.by st (k T' h' ⟨vm0, k0, _, X', eT', hS, Nat.le_trans hk K.1, hZ, hown, N', I.keep K (allS hb all0)⟩ K V)
/-- a String constant, read -/
theorem WS.ldc (X : WS p l e R s m args below meth c Z EL n0 own T h WL FL cells slots) (hx : p.tables.exec = Jvm.exec) {index : Nat} {text : String} (w : (Jvm.Cond.stringLink own index text).before a0 Z = true) (wS : ∀ a ∈ Bundle.stringAtoms, a.before a0 Z = true) (hmem : (own, index) ∈ EL)
    {vs : List Value} {z : Int32} (ht : (∀ c ∈ text.toList, c.toNat < 256) ∧ text.toList.map (fun c => Value.int (Jvm.Lit.byteI c.toNat.toUInt16)) = vs) (hz : ¬ z < 0) (hl : z.toNatClampNeg = vs.length)
    (hd : decode c.code pc = .ok (.ldc index, 2)) {n : Nat} (hn : 4 * text.toList.length ≤ n) (hbig : n ≤ 536870912) (hc : cells + 2 ≤ R.cells) (hl' : slots + (n + 4) ≤ R.slots)
    (k : ∀ T' h' a b kb, WS p l e R s m args below meth c Z EL n0 own T' h' WL (a :: b :: FL) (cells + 2) (slots + (n + 4)) → Ext h h' → Exa Z h' a "java/lang/String" → Fld Z h' a "java/lang/String" "coder" "B" (.int 0) → Fld Z h' a "java/lang/String" "value" "[B" (.ref b) → Arv Z h' b kb .byte z vs (.int 0) → Wo p e s below Z EL n0 WL0 FL0 rm Q T' (mkF m (pc + 2) Ls (.ref a :: st))) :
    Wo p e s below Z EL n0 WL0 FL0 rm Q T (mkF m pc Ls st) := by
  obtain ⟨vm0, k0, locs, X, eT, hS, hk, hZ, hown, N, ⟨a1, i1⟩, i2, i3, i4, i5, i6⟩ := X
  obtain ⟨a, T', h', k1, b, kb, X', eT', E, hS', hk', hZ', hown', A, C, V, B, la, lb, hC, -, hne, st⟩ := ldcCH X hx hZ hown w wS eT hS hk i1 hmem i2 ht hz hl (g := mkF m pc Ls st) rfl hd hn hbig hc hl'
  have S : ∀ x ∈ WL, Safe Z EL T'.vm h' x := fun x hx => hC.safe (i4 x hx).2.1 (i4 x hx).2.2
  refine Wo.by st (k T' h' a b kb ⟨T'.vm, k1, _, X', eT', hS', hk', hZ', hown', N, ⟨a1, i1⟩, hC.1, i3.ext E, fun x hx => ⟨(i4 x hx).1, Nat.lt_of_lt_of_le (i4 x hx).2.1 E.1, S x hx⟩, i5, fun y hy => ?_⟩ E A C V B)
  rcases List.mem_cons.mp hy with rfl | hy
  · exact ⟨la, fun q => (hne _ (S _ q)).1 rfl⟩
  · rcases List.mem_cons.mp hy with rfl | hy
    · exact ⟨lb, fun q => (hne _ (S _ q)).2 rfl⟩
    · exact ⟨Nat.lt_of_lt_of_le (i6 y hy).1 E.1, (i6 y hy).2⟩
/-- a String constant that nobody reads -/
theorem WS.ldcO (X : WS p l e R s m args below meth c Z EL n0 own T h WL FL cells slots) (hx : p.tables.exec = Jvm.exec) {index : Nat} {text : String} (w : (Jvm.Cond.stringLink own index text).before a0 Z = true) (wS : ∀ a ∈ Bundle.stringAtoms, a.before a0 Z = true)
    (hd : decode c.code pc = .ok (.ldc index, 2)) {n : Nat} (hn : 4 * text.toList.length ≤ n) (hbig : n ≤ 536870912) (hc : cells + 2 ≤ R.cells) (hl' : slots + (n + 4) ≤ R.slots)
    (k : ∀ T' h' a, WS p l e R s m args below meth c Z EL n0 own T' h' WL FL (cells + 2) (slots + (n + 4)) → Ext h h' → Wo p e s below Z EL n0 WL0 FL0 rm Q T' (mkF m (pc + 2) Ls (.ref a :: st))) :
    Wo p e s below Z EL n0 WL0 FL0 rm Q T (mkF m pc Ls st) := by
  obtain ⟨vm0, k0, locs, X, eT, hS, hk, hZ, hown, N, ⟨a1, i1⟩, i2, i3, i4, i5, i6⟩ := X
  obtain ⟨a, T', h', k1, X', eT', E, hS', hk', hZ', hown', hC, -, st⟩ := ldcOH X hx hZ hown w wS eT hS hk i1 i2 (g := mkF m pc Ls st) rfl hd hn hbig hc hl'
  exact Wo.by st (k T' h' a ⟨T'.vm, k1, _, X', eT', hS', hk', hZ', hown', N, ⟨a1, i1⟩, hC.1, i3.ext E, fun x hx => ⟨(i4 x hx).1, Nat.lt_of_lt_of_le (i4 x hx).2.1 E.1, hC.safe (i4 x hx).2.1 (i4 x hx).2.2⟩, i5, fun y hy => ⟨Nat.lt_of_lt_of_le (i6 y hy).1 E.1, (i6 y hy).2⟩⟩ E)
/-- who pays a call -/
def Pay (l : Launch) (R : Room) (p : Program) (e : Env) (below : List Frame) (s : State) (args : Array Value) (Z : State) (EL : List (String × Nat)) (n0 : Nat) (y : MethodName) (len W : Nat) (as' : Array Value) (h : Heap) (WL FL : List Addr) (k n : Nat) (Q : Option Value → Heap → List Addr → List Addr → Prop) : Prop :=
  ∀ vm0, Z.Warmed39 vm0 → Inv Z EL n0 vm0 h WL FL → BackS l R p e below (s.setVm vm0) args y len W (fun A a => a = as' ∧ A.U.heap = h ∧ A.cells + k ≤ R.cells ∧ A.slots + n ≤ R.slots)
    (fun A _ v B => ∃ L WL' FL', Q v B.U.heap WL' FL' ∧ Fr n0 L ∧ B.locs = A.locs ++ L ∧ B.cells = A.cells + k ∧ B.slots = A.slots + n ∧ Inv Z EL n0 B.U.vm B.U.heap (WL' ++ WL) (FL' ++ FL))
theorem Ct.pay {y : MethodName} {bytes : ByteArray} {maxL : Nat} {ret : Option FieldType} {rm : Room} {as' : Array Value} {len W : Nat} {Q : Option Value → Heap → List Addr → List Addr → Prop} (C : Ct l Z EL n0 y bytes maxL ret rm as' h WL FL Q)
    (wc : (Jvm.Cond.code y bytes maxL ret).before a0 Z = true) (wz : (Jvm.Cond.initialized y.cls).before a0 Z = true) (hf : rm.frames + 1 ≤ R.frames) (hl : W + (maxL + 11) + rm.locals ≤ R.locals) :
    Pay l R p e below s args Z EL n0 y len W as' h WL FL rm.cells rm.slots Q := fun vm0 hZ I =>
  BackS.of_freeW (bytes := bytes) (maxL := maxL) (ret := ret) (E := fun _ first o t L k n => k = rm.cells ∧ n = rm.slots ∧ ∃ v WL' FL', o = .returned v ∧ Q v t.heap WL' FL' ∧ Fr n0 L ∧ Inv Z EL n0 t.vm t.heap (WL' ++ WL) (FL' ++ FL)) (C []) hf hl
    (fun m meth c A a Y hp => have hU : Z.Warmed39 A.U.vm := wtrans (s := s.setVm vm0) hZ Y.warmed
      ⟨by show (Jvm.Cond.and _ .tt).before a A.U = true; rw [Cond.before_and, mv hU wc]; rfl, mv hU wc, mv hU wz, hp.2.2.1, hp.2.2.2⟩)
    (fun m meth c A a g mk Y hp => ⟨hp.1, wtrans (s := s.setVm vm0) hZ Y.warmed, hp.2.1, (show Inv Z EL n0 A.U.vm h WL FL from WS.invT Y hZ I)⟩) (fun _ _ _ _ _ _ _ _ _ => trivial)
    (fun _ _ _ _ ⟨v, L, WL', FL', h1, h2, h3, h4, h5⟩ => ⟨L, _, _, h5, rfl, rfl, v, WL', FL', h1, h4, h3, h2⟩)
    (fun m meth c A a g mk v t L k n Y hp _ _ ⟨e1, e2, v', WL', FL', e3, e4, e5, e6⟩ => by
      cases e3; subst e1 e2
      exact ⟨L, WL', FL', e4, e5, rfl, rfl, rfl, e6⟩)
/-- a law of the narrow shape pays too -/
theorem Pay.ofN {y : MethodName} {as' : Array Value} {len W k n : Nat} {Qn : Option Value → Heap → List Loc → Prop} {Q : Option Value → Heap → List Addr → List Addr → Prop}
    (B : ∀ vm0, Z.Warmed39 (s.setVm vm0).vm → Back l R p e below (s.setVm vm0) args y len W (fun A a => a = as' ∧ A.U.heap = h ∧ A.cells + k ≤ R.cells ∧ A.slots + n ≤ R.slots) (fun A _ v B => ∃ L, Qn v B.U.heap L ∧ B.locs = A.locs ++ L ∧ B.cells = A.cells + k ∧ B.slots = A.slots + n))
    (hq : ∀ v h' L, Qn v h' L → Fr n0 L ∧ ∃ ws FL', Keep h h' ws ∧ (∀ x ∈ ws, x ∈ WL) ∧ (∀ y ∈ FL', h.size ≤ y ∧ y < h'.size) ∧ Q v h' [] FL') :
    Pay l R p e below s args Z EL n0 y len W as' h WL FL k n Q := fun vm0 hZ I => by
  intro m meth c A g ig mk a X hg hsize hdg hW hn hp
  obtain ⟨v, B, X', ⟨L, q1, q2, q3, q4⟩, st⟩ := B vm0 hZ m meth c A g ig mk a X hg hsize hdg hW hn hp
  obtain ⟨N, ws, FL', K, hws, hF, q⟩ := hq _ _ _ q1
  refine ⟨v, B, X'.retabled X'.warmed.wide, X'.warmed.since _, by rw [hp.2.1]; exact K.1, ⟨L, [], FL', q, N, q2, q3, q4, ?_⟩, st⟩
  obtain ⟨i1, i2, i3, i4, i5, i6⟩ := WS.invT X' hZ (I.keep K hws)
  refine ⟨i1, i2, i3, i4, i5, fun y hy => ?_⟩
  rcases List.mem_append.mp hy with z | z
  · exact ⟨(hF y z).2, fun w => Nat.lt_irrefl _ (Nat.lt_of_lt_of_le (I.lt w) (hF y z).1)⟩
  · exact i6 y z
/-- behind a call -/
theorem WS.back {vm0 : Vm} {k0 : Nat} {locs : List Loc} {B : Pt} {k n : Nat} {L : List Loc} {WL' FL' : List Addr} (hS : s.Since vm0 k0) (hk : k0 ≤ T.heap.size) (hZ : Z.Warmed39 vm0) (hown : vm0.findClass own = some m.cls) (N : Fr n0 locs) (X' : Stand p l e R ((s.setVm vm0).setVm B.U.vm) m args below meth c B.U B.locs B.cells B.slots)
    (hS' : (s.setVm vm0).Since B.U.vm B.U.heap.size) (hgr : T.heap.size ≤ B.U.heap.size) (N' : Fr n0 L) (q2 : B.locs = locs ++ L) (q3 : B.cells = cells + k) (q4 : B.slots = slots + n) (I' : Inv Z EL n0 B.U.vm B.U.heap (WL' ++ WL) (FL' ++ FL)) :
    WS p l e R s m args below meth c Z EL n0 own B.U B.U.heap (WL' ++ WL) (FL' ++ FL) (cells + k) (slots + n) := by
  obtain ⟨U, Lo, ck, sl⟩ := B
  dsimp only [Pt.U, Pt.locs, Pt.cells, Pt.slots] at *
  subst q2 q3 q4
  exact ⟨U.vm, U.heap.size, _, X', rfl, hS.trans hS' (Nat.le_trans hk hgr), Nat.le_refl _, State.Warmed39.trans (t := s.setVm vm0) hZ hS'.1, by rw [hS'.1.alike.findClass]; exact hown, N.app N', I'⟩
variable {index : Nat} {y z : MethodName} {bytes : ByteArray} {maxL : Nat} {ret : Option FieldType} {W k n : Nat} {as' : Array Value} {Qc : Option Value → Heap → List Addr → List Addr → Prop} {argsL : List Value}
theorem WS.callS (X : WS p l e R s m args below meth c Z EL n0 own T h WL FL cells slots) (hx : p.tables.exec = Jvm.exec) (w1 : (Jvm.Cond.methodLink own index y).before a0 Z = true) (w2 : (Jvm.Cond.static y).before a0 Z = true) (w3 : (Jvm.Cond.initialized y.cls).before a0 Z = true) (w4 : (Jvm.Cond.code y bytes maxL ret).before a0 Z = true) (hy : y.cls ≠ "java/lang/invoke/MethodHandle" ∧ y.cls ≠ "java/lang/invoke/VarHandle")
    (hP : Pay l R p e below s args Z EL n0 y 3 W as' h WL FL k n Qc) (hsize : Ls.size = c.maxLocals) (hlen : ∀ sig, parseMethodDescriptor y.desc = some sig → argsL.length = sig.parameters.length) (hst : st = argsL.reverse ++ rest) (has : argsL.toArray = as') (hW : (rest.map fun v => v.category).sum ≤ W)
    (hd : decode c.code pc = .ok (.invokestatic index, 3)) (hc : cells + k ≤ R.cells) (hl : slots + n ≤ R.slots)
    (kk : ∀ T' h' v WL' FL', WS p l e R s m args below meth c Z EL n0 own T' h' (WL' ++ WL) (FL' ++ FL) (cells + k) (slots + n) → Qc v h' WL' FL' → Wo p e s below Z EL n0 WL0 FL0 rm Q T' (mkF m (pc + 3) Ls (v.toList ++ rest))) :
    Wo p e s below Z EL n0 WL0 FL0 rm Q T (mkF m pc Ls st) := by
  obtain ⟨vm0, k0, locs, X, eT, hS, hk, hZ, hown, N, I⟩ := X
  obtain ⟨v, vm₁, B, -, X', hS', hgr, ⟨L, WL', FL', q, N', q2, q3, q4, I'⟩, stp⟩ := callSS X hx hown (mv hZ w1) (mv hZ w2) (mv hZ w3) (mv hZ w4) hy (hP vm0 hZ I) (g := mkF m pc Ls st) rfl hsize hlen hst (by show 2 * 0 + _ ≤ _; omega) hd (fun _ _ => ⟨has, eT, hc, hl⟩)
  exact Wo.by (fun t r => stp.trans r) (kk B.U _ v WL' FL' (WS.back hS (by rw [eT]; exact hk) hZ hown N X' hS' hgr N' q2 q3 q4 I') q)
theorem WS.callC (X : WS p l e R s m args below meth c Z EL n0 own T h WL FL cells slots) (hx : p.tables.exec = Jvm.exec) (hi : y.name = "<init>") (w1 : (Jvm.Cond.methodLink own index y).before a0 Z = true) (w2 : (Jvm.Cond.instanceMethod y).before a0 Z = true) (w4 : (Jvm.Cond.code y bytes maxL none).before a0 Z = true) (hy : y.cls ≠ "java/lang/invoke/MethodHandle" ∧ y.cls ≠ "java/lang/invoke/VarHandle")
    {a : Addr} (hP : Pay l R p e below s args Z EL n0 y 3 W as' h WL FL k n Qc) (hsize : Ls.size = c.maxLocals) (hlen : ∀ sig, parseMethodDescriptor y.desc = some sig → argsL.length = sig.parameters.length) (hst : st = argsL.reverse ++ .ref a :: rest) (has : (Value.ref a :: argsL).toArray = as') (hW : (rest.map fun v => v.category).sum ≤ W)
    (hd : decode c.code pc = .ok (.invokespecial index, 3)) (hc : cells + k ≤ R.cells) (hl : slots + n ≤ R.slots)
    (kk : ∀ T' h' v WL' FL', WS p l e R s m args below meth c Z EL n0 own T' h' (WL' ++ WL) (FL' ++ FL) (cells + k) (slots + n) → Qc v h' WL' FL' → Wo p e s below Z EL n0 WL0 FL0 rm Q T' (mkF m (pc + 3) Ls (v.toList ++ rest))) :
    Wo p e s below Z EL n0 WL0 FL0 rm Q T (mkF m pc Ls st) := by
  obtain ⟨vm0, k0, locs, X, eT, hS, hk, hZ, hown, N, I⟩ := X
  obtain ⟨v, vm₁, B, -, X', hS', hgr, ⟨L, WL', FL', q, N', q2, q3, q4, I'⟩, stp⟩ := X.specialBackS hx hi hown (mv hZ w1) (mv hZ w2) (mv hZ w4) hy (hP vm0 hZ I) (g := mkF m pc Ls st) rfl hsize (Steps.refl _) hlen hst (by show 2 * 0 + _ ≤ _; omega) hd (fun _ _ => ⟨has, eT, hc, hl⟩)
  exact Wo.by (fun t r => stp.trans r) (kk B.U _ v WL' FL' (WS.back hS (by rw [eT]; exact hk) hZ hown N X' hS' hgr N' q2 q3 q4 I') q)
theorem WS.callV {C : String} (X : WS p l e R s m args below meth c Z EL n0 own T h WL FL cells slots) (hx : p.tables.exec = Jvm.exec) (w1 : (Jvm.Cond.methodLink own index y).before a0 Z = true) (w2 : (Jvm.Cond.declares y).before a0 Z = true) (w3 : (Jvm.Cond.selects C y z).before a0 Z = true) (w4 : (Jvm.Cond.instanceMethod z).before a0 Z = true) (hf : ∀ vm0, Z.Warmed39 vm0 → NotFace (s.setVm vm0) y) (hy : y.cls ≠ "java/lang/invoke/MethodHandle" ∧ y.cls ≠ "java/lang/invoke/VarHandle")
    {a : Addr} (E : Exa Z h a C) (hP : Pay l R p e below s args Z EL n0 z 3 W as' h WL FL k n Qc) (hsize : Ls.size = c.maxLocals) (hlen : ∀ sig, parseMethodDescriptor y.desc = some sig → argsL.length = sig.parameters.length) (hst : st = argsL.reverse ++ .ref a :: rest) (has : (Value.ref a :: argsL).toArray = as') (hW : (rest.map fun v => v.category).sum ≤ W)
    (hd : decode c.code pc = .ok (.invokevirtual index, 3)) (hc : cells + k ≤ R.cells) (hl : slots + n ≤ R.slots)
    (kk : ∀ T' h' v WL' FL', WS p l e R s m args below meth c Z EL n0 own T' h' (WL' ++ WL) (FL' ++ FL) (cells + k) (slots + n) → Qc v h' WL' FL' → Wo p e s below Z EL n0 WL0 FL0 rm Q T' (mkF m (pc + 3) Ls (v.toList ++ rest))) :
    Wo p e s below Z EL n0 WL0 FL0 rm Q T (mkF m pc Ls st) := by
  obtain ⟨vm0, k0, locs, X, eT, hS, hk, hZ, hown, N, I⟩ := X
  obtain ⟨cB, kB, q0, q1, q5⟩ := isOf (s := s.setVm vm0) hZ eT E
  obtain ⟨v, vm₁, B, -, X', hS', hgr, ⟨L, WL', FL', q, N', q2, q3, q4, I'⟩, stp⟩ := X.virtualBackS hx hown (mv hZ w1) (mv hZ w2) (hf vm0 hZ) (mv hZ w3) (mv hZ w4) hy (hP vm0 hZ I) q0 q5 (g := mkF m pc Ls st) rfl hsize (Steps.refl _) hlen hst (by show 2 * 0 + _ ≤ _; omega) hd (fun _ _ => ⟨has, eT, hc, hl⟩)
  exact Wo.by (fun t r => stp.trans r) (kk B.U _ v WL' FL' (WS.back hS (by rw [eT]; exact hk) hZ hown N X' hS' hgr N' q2 q3 q4 I') q)
theorem WS.callI {C : String} {count : Nat} (X : WS p l e R s m args below meth c Z EL n0 own T h WL FL cells slots) (hx : p.tables.exec = Jvm.exec) (w1 : (Jvm.Cond.methodLink own index y).before a0 Z = true) (w2 : (Jvm.Cond.declares y).before a0 Z = true) (w2' : (Jvm.Cond.interfaceMethod y.cls y.cls y.name y.desc).before a0 Z = true) (w3 : (Jvm.Cond.selects C y z).before a0 Z = true) (w4 : (Jvm.Cond.instanceMethod z).before a0 Z = true)
    (w5 : (Jvm.Cond.publicMethod z).before a0 Z = true) (w6 : (Jvm.Cond.unhidden C y.name y.desc).before a0 Z = true) (w7 : (Jvm.Cond.castable C y.cls).before a0 Z = true) (hy : y.cls ≠ "java/lang/invoke/MethodHandle" ∧ y.cls ≠ "java/lang/invoke/VarHandle")
    {a : Addr} (E : Exa Z h a C) (hP : Pay l R p e below s args Z EL n0 z 5 W as' h WL FL k n Qc) (hsize : Ls.size = c.maxLocals) (hlen : ∀ sig, parseMethodDescriptor y.desc = some sig → argsL.length = sig.parameters.length) (hst : st = argsL.reverse ++ .ref a :: rest) (has : (Value.ref a :: argsL).toArray = as') (hW : (rest.map fun v => v.category).sum ≤ W)
    (hd : decode c.code pc = .ok (.invokeinterface index count, 5)) (hc : cells + k ≤ R.cells) (hl : slots + n ≤ R.slots)
    (kk : ∀ T' h' v WL' FL', WS p l e R s m args below meth c Z EL n0 own T' h' (WL' ++ WL) (FL' ++ FL) (cells + k) (slots + n) → Qc v h' WL' FL' → Wo p e s below Z EL n0 WL0 FL0 rm Q T' (mkF m (pc + 5) Ls (v.toList ++ rest))) :
    Wo p e s below Z EL n0 WL0 FL0 rm Q T (mkF m pc Ls st) := by
  obtain ⟨vm0, k0, locs, X, eT, hS, hk, hZ, hown, N, I⟩ := X
  obtain ⟨cB, kB, q0, q1, q5⟩ := isOf (s := s.setVm vm0) hZ eT E
  obtain ⟨v, vm₁, B, -, X', hS', hgr, ⟨L, WL', FL', q, N', q2, q3, q4, I'⟩, stp⟩ := X.interfaceBackS hx hown (mv hZ w1) (mv hZ w2) (mv hZ w2' (by simp [Cond.onTables, Cond.keepsFace, Cond.keeps, Cond.steady, Cond.faceAtom]; exact hy)) (mv hZ w3) (mv hZ w4) (mv hZ w5) (mv hZ w6) (mv hZ w7) hy (hP vm0 hZ I) q0 q1 q5 (g := mkF m pc Ls st) rfl hsize (Steps.refl _) hlen hst (by show 2 * 0 + _ ≤ _; omega) hd (fun _ _ => ⟨has, eT, hc, hl⟩)
  exact Wo.by (fun t r => stp.trans r) (kk B.U _ v WL' FL' (WS.back hS (by rw [eT]; exact hk) hZ hown N X' hS' hgr N' q2 q3 q4 I') q)
theorem nf {vm0 : Vm} {C : String} (hZ : Z.Warmed39 vm0) (w : (Jvm.Cond.selects C y y).before a0 Z = true) : NotFace (s.setVm vm0) y := notFace_of_selects (args := #[]) (mv (s := s.setVm vm0) hZ w)
end Walk
end Wd
end Jvm.Pilot.@@N@@
/- laws to paste: Road.backV (cut by pick.py; bodies as the Statement names them) -/
namespace Jvm.Pilot.@@N@@
namespace StrChars
open Jvm Sem ClassFile Op Lib Jvm.Stand Jvm.Free.XT Jvm.Free.ALB Jvm.Free.JM Jvm.Free
open Jvm.Lib.Cold (StaticIs)
/-- a char array whose places are chars -/
def Ch (a : Addr) (A : Cell) (U : State) : Prop := Arr .char a A U ∧ Typed .char A
theorem Ch.mv {a : Addr} {A : Cell} {U U' : State} (h : Ch a A U) (hal : U.vm.Alike U'.vm) (hh : U'.heap = U.heap) : Ch a A U' := ⟨h.1.mv hal hh, h.2⟩
theorem Ch.keep {a : Addr} {A : Cell} {U U' : State} (h : Ch a A U) (hal : U.vm.Alike U'.vm) (hk : U'.heap[a]? = some A) : Ch a A U' := ⟨h.1.keep hal hk, h.2⟩
/-- what place i of a char[]'s cell holds -/
def cv (A : Cell) (i : Nat) : Int32 := match A.slots[i]? with | some (.int x) => x | _ => 0
theorem Ch.get {a : Addr} {A : Cell} {U : State} (h : Ch a A U) {i : Nat} (hi : i < A.slots.size) : A.slots[i]? = some (.int (cv A i)) := by
  have e := Array.getElem?_eq_getElem hi
  have f := h.2 i _ e
  unfold cv; rw [e]
  generalize A.slots[i] = v at f
  cases v <;> simp [fits] at f ⊢
/-- the byte that i2b leaves of a char -/
def lo8 (x : Int32) : Int32 := x.toInt8.toInt32
theorem fits_lo8 (y : Int32) : fits .byte (.int (lo8 y)) = true := by
  have h1 := y.toInt8.le_toInt
  have h2 := y.toInt8.toInt_lt
  simp only [lo8, fits, Bool.and_eq_true, decide_eq_true_eq, Int32.le_iff_toInt_le, Int8.toInt_toInt32, show (-128 : Int32).toInt = -128 from by decide, show (127 : Int32).toInt = 127 from by decide]
  omega
/-- A' is A but that each place j of lo .. hi - 1 holds f j -/
def Laid (A A' : Cell) (lo hi : Nat) (f : Nat → Value) : Prop := A'.cls = A.cls ∧ A'.vm = A.vm ∧ A'.slots.size = A.slots.size ∧ ∀ i, A'.slots[i]? = if lo ≤ i ∧ i < hi then some (f i) else A.slots[i]?
theorem Laid.zero (A : Cell) (lo : Nat) (f : Nat → Value) : Laid A A lo (lo + 0) f := ⟨rfl, rfl, rfl, fun i => by rw [if_neg (by omega)]⟩
theorem Laid.step {A Ak : Cell} {lo k : Nat} {f : Nat → Value} {v : Value} (h : Laid A Ak lo k f) (hlo : lo ≤ k) (hk : k < Ak.slots.size) (hv : v = f k) : Laid A (Ak.setSlot k v) lo (k + 1) f := by
  refine ⟨h.1, h.2.1, by simpa [Cell.setSlot] using h.2.2.1, fun i => ?_⟩
  by_cases e : k = i
  · subst e; rw [Cell.slots_setSlot_self v hk, if_pos (by omega), hv]
  · rw [Cell.slots_setSlot_ne v e, h.2.2.2 i]
    by_cases q : lo ≤ i ∧ i < k
    · rw [if_pos q, if_pos (by omega)]
    · rw [if_neg q, if_neg (by omega)]
def U16 : String := "java/lang/StringUTF16"
namespace Cmp5
def yN : MethodName := ⟨"java/lang/StringUTF16", "compress", "([CI[BII)I"⟩
abbrev yB : ByteArray := jdk_52_method_21_code
theorem d0 : decode yB 0 = .ok (.iconst 0, 1) := by decide +kernel
theorem d1 : decode yB 1 = .ok (.istore 5, 2) := by decide +kernel
theorem d3 : decode yB 3 = .ok (.iload 5, 2) := by decide +kernel
theorem d5 : decode yB 5 = .ok (.iload 4, 2) := by decide +kernel
theorem d7 : decode yB 7 = .ok (.if_icmp (.ge) 37, 3) := by decide +kernel
theorem d10 : decode yB 10 = .ok (.aload_n 0, 1) := by decide +kernel
theorem d11 : decode yB 11 = .ok (.iload_n 1, 1) := by decide +kernel
theorem d12 : decode yB 12 = .ok (.caload, 1) := by decide +kernel
theorem d13 : decode yB 13 = .ok (.istore 6, 2) := by decide +kernel
theorem d15 : decode yB 15 = .ok (.iload 6, 2) := by decide +kernel
theorem d17 : decode yB 17 = .ok (.sipush 255, 3) := by decide +kernel
theorem d20 : decode yB 20 = .ok (.if_icmp (.le) 6, 3) := by decide +kernel
theorem d26 : decode yB 26 = .ok (.aload_n 2, 1) := by decide +kernel
theorem d27 : decode yB 27 = .ok (.iload_n 3, 1) := by decide +kernel
theorem d28 : decode yB 28 = .ok (.iload 6, 2) := by decide +kernel
theorem d30 : decode yB 30 = .ok (.i2b, 1) := by decide +kernel
theorem d31 : decode yB 31 = .ok (.bastore, 1) := by decide +kernel
theorem d32 : decode yB 32 = .ok (.iinc 1 1, 3) := by decide +kernel
theorem d35 : decode yB 35 = .ok (.iinc 3 1, 3) := by decide +kernel
theorem d38 : decode yB 38 = .ok (.iinc 5 1, 3) := by decide +kernel
theorem d41 : decode yB 41 = .ok (.goto (-38), 3) := by decide +kernel
theorem d44 : decode yB 44 = .ok (.iload 4, 2) := by decide +kernel
theorem d46 : decode yB 46 = .ok (.ireturn, 1) := by decide +kernel
def site : List Cond := []
def tab : Cond := tabOf yN yB 7 (some .int) site
def P (b : Addr) (A : Cell) (d : Addr) (B : Cell) (o q len : Nat) (args : Array Value) (s : State) : Prop := args = #[.ref b, .int (Int32.ofNat o), .ref d, .int (Int32.ofNat q), .int (Int32.ofNat len)] ∧ Ch b A s ∧ Arr .byte d B s ∧ b ≠ d ∧ o + len ≤ A.slots.size ∧ q + len ≤ B.slots.size ∧ ∀ i, i < len → ¬ 255 < cv A (o + i)
def E (b : Addr) (A : Cell) (d : Addr) (B : Cell) (o q len : Nat) (r : Option Value) (s u : State) : Prop := r = some (.int (Int32.ofNat len)) ∧ ∃ B', Put d B' s u ∧ Laid B B' q (q + len) (fun j => Value.int (lo8 (cv A (o + (j - q)))))
/-- no char of the range above 255: len; the places written hold each char's low byte -/
theorem law (l : Launch) (b : Addr) (A : Cell) (d : Addr) (B : Cell) (o q len : Nat) : Law l yN 5 5 0 0 yB 7 (some .int) site (P b A d B o q len) (E b A d B o q len) (copyLocs d q len) 0 0 := by
  refine Law.of_walk (plainFor_of_name (by decide +kernel)) (by decide +kernel) (by decide +kernel) (by decide) (fun _ _ h => by rw [h.1]; rfl) (fun _ U U' hal hh h => ⟨h.1, h.2.1.mv hal hh, h.2.2.1.mv hal hh, h.2.2.2⟩) (fun r U U' V V' h1 hal h2 h => ⟨h.1, h.2.elim fun B' q => ⟨B', q.1.mv h1 h2, q.2⟩⟩) ?_
  intro p e s m args below meth c s₁ X0 hexec hbytes hml hret hlk hnm hown hh0 W hP
  obtain ⟨rfl, hA, hB, hne, l1, l2, hp⟩ := hP
  have c1 : Steps p.tables e below (s₁.setTop (entryFrame m #[.ref b, .int (Int32.ofNat o), .ref d, .int (Int32.ofNat q), .int (Int32.ofNat len)] 7)) (s₁.setTop (mkF m 0 #[.val (.ref b), .val (.int (Int32.ofNat o)), .val (.ref d), .val (.int (Int32.ofNat q)), .val (.int (Int32.ofNat len)), .unset, .unset] [])) := entry rfl
  have hA0 := hA.1.mv X0.warmed.alike hh0
  have hB0 := hB.mv X0.warmed.alike hh0
  have a31 := hA.1.2.2.2
  have c2 : Steps p.tables e below (s₁.setTop (entryFrame m #[.ref b, .int (Int32.ofNat o), .ref d, .int (Int32.ofNat q), .int (Int32.ofNat len)] 7)) (s₁.setTop (mkF m 3 #[.val (.ref b), .val (.int (Int32.ofNat o)), .val (.ref d), .val (.int (Int32.ofNat q)), .val (.int (Int32.ofNat len)), .val (.int 0), .unset] [])) := c1.trans (by
    refine iconstV X0.here hexec rfl 0 (hb hbytes d0) (by decide) ?_
    refine XS.istore X0.here hexec rfl (hb hbytes d1) rfl rfl ?_
    exact Steps.refl _)
  have loop : ∀ (r i : Nat), i + r = len → ∀ (z : Slot), (z = .unset ∨ ∃ w, z = .val w ∧ w.category = 1) → ∀ (Tl : State) (Bk : Cell), Stand p l e { frames := 0, locals := 0, cells := 0, slots := 0 } s m #[.ref b, .int (Int32.ofNat o), .ref d, .int (Int32.ofNat q), .int (Int32.ofNat len)] below meth c Tl ([] ++ copyLocs d q i) 0 0 → Put d Bk s₁ Tl → Laid B Bk q (q + i) (fun j => Value.int (lo8 (cv A (o + (j - q))))) →
      Steps p.tables e below (s₁.setTop (entryFrame m #[.ref b, .int (Int32.ofNat o), .ref d, .int (Int32.ofNat q), .int (Int32.ofNat len)] 7)) (Tl.setTop (mkF m 3 #[.val (.ref b), .val (.int (Int32.ofNat (o + i))), .val (.ref d), .val (.int (Int32.ofNat (q + i))), .val (.int (Int32.ofNat len)), .val (.int (Int32.ofNat i)), z] [])) → ∃ (T' : State) (B' : Cell) (z' : Slot), Stand p l e { frames := 0, locals := 0, cells := 0, slots := 0 } s m #[.ref b, .int (Int32.ofNat o), .ref d, .int (Int32.ofNat q), .int (Int32.ofNat len)] below meth c T' ([] ++ copyLocs d q len) 0 0 ∧ Put d B' s₁ T' ∧ Laid B B' q (q + len) (fun j => Value.int (lo8 (cv A (o + (j - q))))) ∧
      Steps p.tables e below (s₁.setTop (entryFrame m #[.ref b, .int (Int32.ofNat o), .ref d, .int (Int32.ofNat q), .int (Int32.ofNat len)] 7)) (T'.setTop (mkF m 3 #[.val (.ref b), .val (.int (Int32.ofNat (o + len))), .val (.ref d), .val (.int (Int32.ofNat (q + len))), .val (.int (Int32.ofNat len)), .val (.int (Int32.ofNat len)), z'] [])) := by
    intro r
    induction r with
    | zero =>
      intro i hi z hz Tl Bk Xl pl fl cl
      have hil : i = len := by omega
      rw [hil] at Xl fl cl
      exact ⟨Tl, Bk, z, Xl, pl, fl, cl⟩
    | succ r ih =>
      intro i hi z hz Tl Bk Xl pl fl cl
      have all := X0.warmed.alike.symm.trans Xl.warmed.alike
      have hAl := hA0.keep all (pl.other hne hA0.1)
      have hBk := hB0.like all pl.1 fl.1 fl.2.1 fl.2.2.1
      have hlt : q + i < Bk.slots.size := by rw [fl.2.2.1]; omega
      have c3 : Steps p.tables e below (s₁.setTop (entryFrame m #[.ref b, .int (Int32.ofNat o), .ref d, .int (Int32.ofNat q), .int (Int32.ofNat len)] 7)) (Tl.setTop (mkF m 12 #[.val (.ref b), .val (.int (Int32.ofNat (o + i))), .val (.ref d), .val (.int (Int32.ofNat (q + i))), .val (.int (Int32.ofNat len)), .val (.int (Int32.ofNat i)), z] [.int (Int32.ofNat (o + i)), .ref b])) := cl.trans (by
        refine XS.iload Xl.here hexec rfl (hb hbytes d3) rfl ?_
        refine XS.iload Xl.here hexec rfl (hb hbytes d5) rfl ?_
        refine XS.icmpNo Xl.here hexec rfl (hb hbytes d7) rfl (ii_ge_f (lt32 (by omega) (by omega))) ?_
        refine XS.aloadN Xl.here hexec rfl (hb hbytes d10) rfl rfl ?_
        refine XS.iloadN Xl.here hexec rfl (hb hbytes d11) rfl ?_
        exact Steps.refl _)
      have c4 : Steps p.tables e below (s₁.setTop (entryFrame m #[.ref b, .int (Int32.ofNat o), .ref d, .int (Int32.ofNat q), .int (Int32.ofNat len)] 7)) (Tl.setTop (mkF m 13 #[.val (.ref b), .val (.int (Int32.ofNat (o + i))), .val (.ref d), .val (.int (Int32.ofNat (q + i))), .val (.int (Int32.ofNat len)), .val (.int (Int32.ofNat i)), z] [.int (cv A (o + i))])) := c3.trans (by
        refine Xl.aget hexec hAl rfl (hA.get (i := o + i) (by omega)) rfl rfl (hb hbytes d12) ?_
        exact Steps.refl _)
      have c5 : Steps p.tables e below (s₁.setTop (entryFrame m #[.ref b, .int (Int32.ofNat o), .ref d, .int (Int32.ofNat q), .int (Int32.ofNat len)] 7)) (Tl.setTop (mkF m 15 #[.val (.ref b), .val (.int (Int32.ofNat (o + i))), .val (.ref d), .val (.int (Int32.ofNat (q + i))), .val (.int (Int32.ofNat len)), .val (.int (Int32.ofNat i)), .val (.int (cv A (o + i)))] [])) := c4.trans (by
        refine XS.istoreS Xl.here hexec rfl (hb hbytes d13) rfl rfl hz ?_
        exact Steps.refl _)
      have c6 : Steps p.tables e below (s₁.setTop (entryFrame m #[.ref b, .int (Int32.ofNat o), .ref d, .int (Int32.ofNat q), .int (Int32.ofNat len)] 7)) (Tl.setTop (mkF m 31 #[.val (.ref b), .val (.int (Int32.ofNat (o + i))), .val (.ref d), .val (.int (Int32.ofNat (q + i))), .val (.int (Int32.ofNat len)), .val (.int (Int32.ofNat i)), .val (.int (cv A (o + i)))] [.int (lo8 (cv A (o + i))), .int (Int32.ofNat (q + i)), .ref d])) := c5.trans (by
        refine XS.iload Xl.here hexec rfl (hb hbytes d15) rfl ?_
        refine sipushV Xl.here hexec rfl 255 (hb hbytes d17) (by decide) ?_
        refine XS.icmpYes Xl.here hexec rfl (pc0 := 20) rfl (hb hbytes d20) rfl (ii_le_t (hp i (by omega))) (by decide) rfl ?_
        refine XS.aloadN Xl.here hexec rfl (hb hbytes d26) rfl rfl ?_
        refine XS.iloadN Xl.here hexec rfl (hb hbytes d27) rfl ?_
        refine XS.iload Xl.here hexec rfl (hb hbytes d28) rfl ?_
        refine i2b Xl.here hexec rfl (hb hbytes d30) rfl ?_
        exact Steps.refl _)
      obtain ⟨T7, X7, p7, st7⟩ := Xl.aput hexec hBk rfl hlt rfl (fits_lo8 (cv A (o + i))) (g := (mkF m 31 #[.val (.ref b), .val (.int (Int32.ofNat (o + i))), .val (.ref d), .val (.int (Int32.ofNat (q + i))), .val (.int (Int32.ofNat len)), .val (.int (Int32.ofNat i)), .val (.int (cv A (o + i)))] [.int (lo8 (cv A (o + i))), .int (Int32.ofNat (q + i)), .ref d])) rfl (rest := []) rfl (hb hbytes d31)
      have c8 : Steps p.tables e below (s₁.setTop (entryFrame m #[.ref b, .int (Int32.ofNat o), .ref d, .int (Int32.ofNat q), .int (Int32.ofNat len)] 7)) (T7.setTop (mkF m 32 #[.val (.ref b), .val (.int (Int32.ofNat (o + i))), .val (.ref d), .val (.int (Int32.ofNat (q + i))), .val (.int (Int32.ofNat len)), .val (.int (Int32.ofNat i)), .val (.int (cv A (o + i)))] [])) := c6.trans (st7 _ (Steps.refl _))
      have c9 : Steps p.tables e below (s₁.setTop (entryFrame m #[.ref b, .int (Int32.ofNat o), .ref d, .int (Int32.ofNat q), .int (Int32.ofNat len)] 7)) (T7.setTop (mkF m 3 #[.val (.ref b), .val (.int (Int32.ofNat (o + i) + 1)), .val (.ref d), .val (.int (Int32.ofNat (q + i) + 1)), .val (.int (Int32.ofNat len)), .val (.int (Int32.ofNat i + 1)), .val (.int (cv A (o + i)))] [])) := c8.trans (by
        refine iincV X7.here hexec rfl 1 (hb hbytes d32) (by decide) rfl rfl ?_
        refine iincV X7.here hexec rfl 1 (hb hbytes d35) (by decide) rfl rfl ?_
        refine iincV X7.here hexec rfl 1 (hb hbytes d38) (by decide) rfl rfl ?_
        refine XS.goto X7.here hexec rfl (pc0 := 41) rfl (hb hbytes d41) (by decide) rfl ?_
        exact Steps.refl _)
      have c10 : Steps p.tables e below (s₁.setTop (entryFrame m #[.ref b, .int (Int32.ofNat o), .ref d, .int (Int32.ofNat q), .int (Int32.ofNat len)] 7)) (T7.setTop (mkF m 3 #[.val (.ref b), .val (.int (Int32.ofNat (o + (i + 1)))), .val (.ref d), .val (.int (Int32.ofNat (q + (i + 1)))), .val (.int (Int32.ofNat len)), .val (.int (Int32.ofNat (i + 1))), .val (.int (cv A (o + i)))] [])) := by
        have := c9
        rw [succ32, succ32, succ32] at this
        exact this
      exact ih (i + 1) (by omega) _ (Or.inr ⟨_, rfl, rfl⟩) T7 _ (by rw [copyLocs_step, ← List.append_assoc]; exact X7) (pl.trans p7) (fl.step (by omega) hlt (by simp)) c10
  obtain ⟨T9, B9, z9, X9, p9, f9, g9⟩ := loop len 0 (by omega) .unset (Or.inl rfl) s₁ B (by simpa [copyLocs] using X0) ⟨hB0.1, fun _ _ => rfl, rfl⟩ (Laid.zero _ _ _) c2
  have c11 : Steps p.tables e below (s₁.setTop (entryFrame m #[.ref b, .int (Int32.ofNat o), .ref d, .int (Int32.ofNat q), .int (Int32.ofNat len)] 7)) (T9.setTop (mkF m 46 #[.val (.ref b), .val (.int (Int32.ofNat (o + len))), .val (.ref d), .val (.int (Int32.ofNat (q + len))), .val (.int (Int32.ofNat len)), .val (.int (Int32.ofNat len)), z9] [.int (Int32.ofNat len)])) := g9.trans (by
    refine XS.iload X9.here hexec rfl (hb hbytes d3) rfl ?_
    refine XS.iload X9.here hexec rfl (hb hbytes d5) rfl ?_
    refine XS.icmpYes X9.here hexec rfl (pc0 := 7) rfl (hb hbytes d7) rfl (ii_ge_t (nlt32 (by omega) (Nat.le_refl _))) (by decide) rfl ?_
    refine XS.iload X9.here hexec rfl (hb hbytes d44) rfl ?_
    exact Steps.refl _)
  exact ⟨T9, some (.int (Int32.ofNat len)), _, _, _, X9, by simp, rfl, rfl, (fun h => by cases h), ⟨rfl, B9, p9.from hh0, f9⟩, fun fs hl => c11.trans (X9.ireturnOut hexec hret rfl (Or.inl rfl) (hb hbytes d46) hl)⟩
end Cmp5
namespace Cmp3
def yN : MethodName := ⟨"java/lang/StringUTF16", "compress", "([CII)[B"⟩
abbrev yB : ByteArray := jdk_52_method_16_code
theorem d0 : decode yB 0 = .ok (.iload_n 2, 1) := by decide +kernel
theorem d1 : decode yB 1 = .ok (.newarray .byte, 2) := by decide +kernel
theorem d3 : decode yB 3 = .ok (.astore_n 3, 1) := by decide +kernel
theorem d4 : decode yB 4 = .ok (.aload_n 0, 1) := by decide +kernel
theorem d5 : decode yB 5 = .ok (.iload_n 1, 1) := by decide +kernel
theorem d6 : decode yB 6 = .ok (.aload_n 3, 1) := by decide +kernel
theorem d7 : decode yB 7 = .ok (.iconst 0, 1) := by decide +kernel
theorem d8 : decode yB 8 = .ok (.iload_n 2, 1) := by decide +kernel
theorem d9 : decode yB 9 = .ok (.invokestatic 115, 3) := by decide +kernel
theorem d12 : decode yB 12 = .ok (.istore 4, 2) := by decide +kernel
theorem d14 : decode yB 14 = .ok (.iload 4, 2) := by decide +kernel
theorem d16 : decode yB 16 = .ok (.iload_n 2, 1) := by decide +kernel
theorem d17 : decode yB 17 = .ok (.if_icmp (.eq) 40, 3) := by decide +kernel
theorem d57 : decode yB 57 = .ok (.aload_n 3, 1) := by decide +kernel
theorem d58 : decode yB 58 = .ok (.areturn, 1) := by decide +kernel
def site : List Cond := [.arrayClass .byte, Cmp5.tab] ++ staticW U16 115 Cmp5.yN
def tab : Cond := tabOf yN yB 6 (some (.array .byte)) site
def P (b : Addr) (A : Cell) (o len : Nat) (args : Array Value) (s : State) : Prop := args = #[.ref b, .int (Int32.ofNat o), .int (Int32.ofNat len)] ∧ Ch b A s ∧ o + len ≤ A.slots.size ∧ len ≤ 536870912 ∧ ∀ i, i < len → ¬ 255 < cv A (o + i)
def E (b : Addr) (A : Cell) (o len : Nat) (r : Option Value) (s u : State) : Prop := NewArr .byte "[B" len (fun j => .int (lo8 (cv A (o + j)))) r s u ∧ u.heap.size = s.heap.size + 1
/-- no char of the range above 255: a new byte[] of their low bytes -/
theorem law (l : Launch) (b : Addr) (A : Cell) (o len : Nat) : Law l yN 3 3 1 18 yB 6 (some (.array .byte)) site (P b A o len) (E b A o len) [] 1 len := by
  refine Law.of_walk (plainFor_of_name (by decide +kernel)) (by decide +kernel) (by decide +kernel) (by decide) (fun _ _ h => by rw [h.1]; rfl) (fun _ U U' hal hh h => ⟨h.1, h.2.1.mv hal hh, h.2.2⟩) (fun r U U' V V' h1 hal h2 h => ⟨NewArr.mv r U U' V V' h1 hal h2 h.1, by rw [h1, h2]; exact h.2⟩) ?_
  intro p e s m args below meth c s₁ X0 hexec hbytes hml hret hlk hnm hown hh0 W hP
  obtain ⟨rfl, hA, l1, l2, hp⟩ := hP
  have a31 := hA.1.2.2.2
  have c1 : Steps p.tables e below (s₁.setTop (entryFrame m #[.ref b, .int (Int32.ofNat o), .int (Int32.ofNat len)] 6)) (s₁.setTop (mkF m 0 #[.val (.ref b), .val (.int (Int32.ofNat o)), .val (.int (Int32.ofNat len)), .unset, .unset, .unset] [])) := entry rfl
  have c2 : Steps p.tables e below (s₁.setTop (entryFrame m #[.ref b, .int (Int32.ofNat o), .int (Int32.ofNat len)] 6)) (s₁.setTop (mkF m 1 #[.val (.ref b), .val (.int (Int32.ofNat o)), .val (.int (Int32.ofNat len)), .unset, .unset, .unset] [.int (Int32.ofNat len)])) := c1.trans (by
    refine XS.iloadN X0.here hexec rfl (hb hbytes d0) rfl ?_
    exact Steps.refl _)
  obtain ⟨T3, B3, X3, ba3, bs3, bv3, bh3, bf3, st3⟩ := X0.anew hexec (atype := .byte) (wk W (.arrayClass .byte)) rfl (by show len * 1 ≤ _; omega) (by omega) (g := (mkF m 1 #[.val (.ref b), .val (.int (Int32.ofNat o)), .val (.int (Int32.ofNat len)), .unset, .unset, .unset] [.int (Int32.ofNat len)])) rfl (hb hbytes d1) (rest := []) rfl (Nat.le_refl _) (by show 0 + len ≤ len; omega)
  rw [hh0] at ba3 st3
  have kp3 : XT.Kept s T3 := (XT.Kept.of_eq hh0).push bh3
  have hA3 := hA.keep X3.warmed.alike (kp3 _ _ hA.1.1)
  have hne : b ≠ s.heap.size := hA.1.ne
  have c4 : Steps p.tables e below (s₁.setTop (entryFrame m #[.ref b, .int (Int32.ofNat o), .int (Int32.ofNat len)] 6)) (T3.setTop (mkF m 3 #[.val (.ref b), .val (.int (Int32.ofNat o)), .val (.int (Int32.ofNat len)), .unset, .unset, .unset] [.ref s.heap.size])) := c2.trans (st3 _ (Steps.refl _))
  have c5 : Steps p.tables e below (s₁.setTop (entryFrame m #[.ref b, .int (Int32.ofNat o), .int (Int32.ofNat len)] 6)) (T3.setTop (mkF m 9 #[.val (.ref b), .val (.int (Int32.ofNat o)), .val (.int (Int32.ofNat len)), .val (.ref s.heap.size), .unset, .unset] [.int (Int32.ofNat len), .int 0, .ref s.heap.size, .int (Int32.ofNat o), .ref b])) := c4.trans (by
    refine XS.astoreN X3.here hexec rfl (hb hbytes d3) rfl rfl rfl ?_
    refine XS.aloadN X3.here hexec rfl (hb hbytes d4) rfl rfl ?_
    refine XS.iloadN X3.here hexec rfl (hb hbytes d5) rfl ?_
    refine XS.aloadN X3.here hexec rfl (hb hbytes d6) rfl rfl ?_
    refine iconstV X3.here hexec rfl 0 (hb hbytes d7) (by decide) ?_
    refine XS.iloadN X3.here hexec rfl (hb hbytes d8) rfl ?_
    exact Steps.refl _)
  obtain ⟨v6, T6, X6, E6, g6⟩ := X3.callS hexec (Cmp5.law l b A s.heap.size B3 o 0 len) hown (wks W (staticW U16 115 Cmp5.yN)) (wk W Cmp5.tab) (W := 0) (Nat.le_of_ble_eq_true rfl) (Nat.le_of_ble_eq_true rfl) (Nat.le_refl _) (by show 0 + len + 0 ≤ len; omega) (g := (mkF m 9 #[.val (.ref b), .val (.int (Int32.ofNat o)), .val (.int (Int32.ofNat len)), .val (.ref s.heap.size), .unset, .unset] [.int (Int32.ofNat len), .int (Int32.ofNat 0), .ref s.heap.size, .int (Int32.ofNat o), .ref b])) rfl (by rw [hml]; rfl) c5 (argsL := [.ref b, .int (Int32.ofNat o), .ref s.heap.size, .int (Int32.ofNat 0), .int (Int32.ofNat len)]) (rest := []) rfl rfl (by show 2 * 0 + 0 ≤ _; decide) (hb hbytes d9) (⟨rfl, hA3, ba3, hne, l1, by rw [bs3]; simp, hp⟩)
  obtain ⟨rfl, B6, p6, f6⟩ := E6
  have c7 : Steps p.tables e below (s₁.setTop (entryFrame m #[.ref b, .int (Int32.ofNat o), .int (Int32.ofNat len)] 6)) (T6.setTop (mkF m 12 #[.val (.ref b), .val (.int (Int32.ofNat o)), .val (.int (Int32.ofNat len)), .val (.ref s.heap.size), .unset, .unset] [.int (Int32.ofNat len)])) := g6
  have c8 : Steps p.tables e below (s₁.setTop (entryFrame m #[.ref b, .int (Int32.ofNat o), .int (Int32.ofNat len)] 6)) (T6.setTop (mkF m 58 #[.val (.ref b), .val (.int (Int32.ofNat o)), .val (.int (Int32.ofNat len)), .val (.ref s.heap.size), .val (.int (Int32.ofNat len)), .unset] [.ref s.heap.size])) := c7.trans (by
    refine XS.istore X6.here hexec rfl (hb hbytes d12) rfl rfl ?_
    refine XS.iload X6.here hexec rfl (hb hbytes d14) rfl ?_
    refine XS.iloadN X6.here hexec rfl (hb hbytes d16) rfl ?_
    refine XS.icmpYes X6.here hexec rfl (pc0 := 17) rfl (hb hbytes d17) rfl (ii_eq_t rfl) (by decide) rfl ?_
    refine XS.aloadN X6.here hexec rfl (hb hbytes d57) rfl rfl ?_
    exact Steps.refl _)
  have X8 := X6.wide (L' := []) (cells' := 1) (slots' := len) (fun x hx hlt => by
    simp only [List.nil_append, copyLocs, List.mem_map, List.mem_range] at hx
    obtain ⟨i, -, rfl⟩ := hx
    exact absurd hlt (Nat.lt_irrefl _)) (Nat.le_refl _) (by omega)
  exact ⟨T6, some (.ref s.heap.size), _, _, _, X8, rfl, rfl, rfl, (fun h => by cases h), ⟨⟨rfl, B6, ba3.like (X3.warmed.alike.symm.trans X6.warmed.alike) p6.1 f6.1 f6.2.1 f6.2.2.1, f6.2.1.trans bv3, by rw [X6.warmed.alike.findClass, f6.1]; exact bf3, by rw [f6.2.2.1, bs3]; simp, fun j hj => by rw [f6.2.2.2 j, if_pos (by omega)]; rfl, kp3.put p6 (Nat.le_refl _)⟩, by rw [p6.2.2, bh3, hh0]; simp⟩, fun fs hl => c8.trans (X8.areturnOut hexec rfl hret rfl (hb hbytes d58) hl)⟩
end Cmp3
namespace CodL
def yN : MethodName := ⟨"java/lang/StringUTF16", "coderFromArrayLen", "([BI)B"⟩
abbrev yB : ByteArray := jdk_52_method_15_code
theorem d0 : decode yB 0 = .ok (.iload_n 1, 1) := by decide +kernel
theorem d1 : decode yB 1 = .ok (.aload_n 0, 1) := by decide +kernel
theorem d2 : decode yB 2 = .ok (.arraylength, 1) := by decide +kernel
theorem d3 : decode yB 3 = .ok (.isub, 1) := by decide +kernel
theorem d4 : decode yB 4 = .ok (.bipush 31, 2) := by decide +kernel
theorem d6 : decode yB 6 = .ok (.iushr, 1) := by decide +kernel
theorem d7 : decode yB 7 = .ok (.i2b, 1) := by decide +kernel
theorem d8 : decode yB 8 = .ok (.ireturn, 1) := by decide +kernel
def site : List Cond := []
def tab : Cond := tabOf yN yB 2 (some .byte) site
def P (d : Addr) (B : Cell) (args : Array Value) (s : State) : Prop := args = #[.ref d, .int (Int32.ofNat B.slots.size)] ∧ Arr .byte d B s
def E (r : Option Value) (s u : State) : Prop := XT.PureE (some (.int 0)) r s u
/-- an array as long as the number of chars: LATIN1 -/
theorem law (l : Launch) (d : Addr) (B : Cell) : Law l yN 2 2 0 0 yB 2 (some .byte) site (P d B) E [] 0 0 := by
  refine Law.of_walk (plainFor_of_name (by decide +kernel)) (by decide +kernel) (by decide +kernel) (by decide) (fun _ _ h => by rw [h.1]; rfl) (fun _ U U' hal hh h => ⟨h.1, h.2.mv hal hh⟩) (fun r U U' V V' h1 hal h2 h => XT.PureE.mv r U U' V V' h1 hal h2 h) ?_
  intro p e s m args below meth c s₁ X0 hexec hbytes hml hret hlk hnm hown hh0 W hP
  obtain ⟨rfl, hB⟩ := hP
  have hB0 := hB.mv X0.warmed.alike hh0
  have c1 : Steps p.tables e below (s₁.setTop (entryFrame m #[.ref d, .int (Int32.ofNat B.slots.size)] 2)) (s₁.setTop (mkF m 0 #[.val (.ref d), .val (.int (Int32.ofNat B.slots.size))] [])) := entry rfl
  have c2 : Steps p.tables e below (s₁.setTop (entryFrame m #[.ref d, .int (Int32.ofNat B.slots.size)] 2)) (s₁.setTop (mkF m 2 #[.val (.ref d), .val (.int (Int32.ofNat B.slots.size))] [.ref d, .int (Int32.ofNat B.slots.size)])) := c1.trans (by
    refine XS.iloadN X0.here hexec rfl (hb hbytes d0) rfl ?_
    refine XS.aloadN X0.here hexec rfl (hb hbytes d1) rfl rfl ?_
    exact Steps.refl _)
  have c3 : Steps p.tables e below (s₁.setTop (entryFrame m #[.ref d, .int (Int32.ofNat B.slots.size)] 2)) (s₁.setTop (mkF m 8 #[.val (.ref d), .val (.int (Int32.ofNat B.slots.size))] [.int (lo8 (ushr (Int32.ofNat B.slots.size - Int32.ofNat B.slots.size) 31))])) := c2.trans (by
    refine X0.alen hexec hB0 rfl rfl (hb hbytes d2) ?_
    refine XS.isub X0.here hexec rfl (hb hbytes d3) rfl ?_
    refine bipushV X0.here hexec rfl 31 (hb hbytes d4) (by decide) ?_
    refine iushr X0.here hexec rfl (hb hbytes d6) rfl ?_
    refine i2b X0.here hexec rfl (hb hbytes d7) rfl ?_
    exact Steps.refl _)
  have e0 : lo8 (ushr (Int32.ofNat B.slots.size - Int32.ofNat B.slots.size) 31) = 0 := by rw [Int32.sub_self]; decide
  rw [e0] at c3
  exact ⟨s₁, some (.int 0), _, _, _, X0, rfl, rfl, rfl, (fun h => by cases h), ⟨rfl, hh0⟩, fun fs hl => c3.trans (X0.ireturnOut hexec hret rfl (Or.inr (Or.inr (Or.inl rfl))) (hb hbytes d8) hl)⟩
end CodL
/-- the String at a is Latin-1 over a new byte[] (the heap's one new cell): the low bytes of the len chars of A from o on; every cell but a is kept -/
def Got (a : Addr) (D : Cell) (fV fC : Field) (A : Cell) (o len : Nat) (r : Option Value) (s u : State) : Prop := r = none ∧ ∃ D' V : Cell, Blank "java/lang/String" a D' u ∧ Same D D' [fV.slot, fC.slot] ∧ D'.slots[fV.slot]? = some (.ref s.heap.size) ∧ D'.slots[fC.slot]? = some (.int 0) ∧ Arr .byte s.heap.size V u ∧ V.vm = .none ∧ u.vm.findClass "[B" = some V.cls ∧ V.slots.size = len ∧ (∀ j, j < len → V.slots[j]? = some (.int (lo8 (cv A (o + j))))) ∧ (∀ (y : Addr) (c : Cell), y ≠ a → s.heap[y]? = some c → u.heap[y]? = some c) ∧ u.heap.size = s.heap.size + 1
theorem Got.mv {a : Addr} {D A : Cell} {fV fC : Field} {o len : Nat} : ∀ r (U U' V V' : State), U'.heap = U.heap → V.vm.Alike V'.vm → V'.heap = V.heap → Got a D fV fC A o len r U V → Got a D fV fC A o len r U' V' :=
  fun r U U' V V' h1 hal h2 ⟨e0, D', X, a1, a2, a3, a4, a5, a6, a7, a8, a9, a10, a11⟩ => ⟨e0, D', X, a1.mv hal h2, a2, by rw [h1]; exact a3, a4, by rw [h1]; exact a5.mv hal h2, a6, by rw [hal.findClass]; exact a7, a8, a9, by rw [h1, h2]; exact a10, by rw [h1, h2]; exact a11⟩
namespace New4
def yN : MethodName := ⟨"java/lang/String", "<init>", "([CIILjava/lang/Void;)V"⟩
abbrev yB : ByteArray := jdk_42_method_149_code
theorem d0 : decode yB 0 = .ok (.aload_n 0, 1) := by decide +kernel
theorem d1 : decode yB 1 = .ok (.invokespecial 1, 3) := by decide +kernel
theorem d4 : decode yB 4 = .ok (.iload_n 3, 1) := by decide +kernel
theorem d5 : decode yB 5 = .ok (.ifCond (.ne) 22, 3) := by decide +kernel
theorem d27 : decode yB 27 = .ok (.getstatic 38, 3) := by decide +kernel
theorem d30 : decode yB 30 = .ok (.ifCond (.eq) 28, 3) := by decide +kernel
theorem d33 : decode yB 33 = .ok (.aload_n 1, 1) := by decide +kernel
theorem d34 : decode yB 34 = .ok (.iload_n 2, 1) := by decide +kernel
theorem d35 : decode yB 35 = .ok (.iload_n 3, 1) := by decide +kernel
theorem d36 : decode yB 36 = .ok (.invokestatic 177, 3) := by decide +kernel
theorem d39 : decode yB 39 = .ok (.astore 5, 2) := by decide +kernel
theorem d41 : decode yB 41 = .ok (.aload_n 0, 1) := by decide +kernel
theorem d42 : decode yB 42 = .ok (.aload 5, 2) := by decide +kernel
theorem d44 : decode yB 44 = .ok (.iload_n 3, 1) := by decide +kernel
theorem d45 : decode yB 45 = .ok (.invokestatic 47, 3) := by decide +kernel
theorem d48 : decode yB 48 = .ok (.putfield 15, 3) := by decide +kernel
theorem d51 : decode yB 51 = .ok (.aload_n 0, 1) := by decide +kernel
theorem d52 : decode yB 52 = .ok (.aload 5, 2) := by decide +kernel
theorem d54 : decode yB 54 = .ok (.putfield 9, 3) := by decide +kernel
theorem d57 : decode yB 57 = .ok (.return_, 1) := by decide +kernel
def site : List Cond := [.fieldLink "java/lang/String" 38 "java/lang/String" "COMPACT_STRINGS" "Z", Cmp3.tab, CodL.tab, .laysFinal "java/lang/String" "java/lang/String" "value" "[B", .fieldLink "java/lang/String" 9 "java/lang/String" "value" "[B", .laysFinal "java/lang/String" "java/lang/String" "coder" "B", .fieldLink "java/lang/String" 15 "java/lang/String" "coder" "B"] ++ objW "java/lang/String" 1 ++ staticW "java/lang/String" 177 Cmp3.yN ++ staticW "java/lang/String" 47 CodL.yN
def tab : Cond := tabOf yN yB 6 none site
def P (a : Addr) (D : Cell) (fV fC : Field) (b : Addr) (A : Cell) (z : Int32) (o len : Nat) (args : Array Value) (s : State) : Prop := args = #[.ref a, .ref b, .int (Int32.ofNat o), .int (Int32.ofNat len), .null] ∧ Blank "java/lang/String" a D s ∧ Found "java/lang/String" "value" "[B" fV s ∧ Found "java/lang/String" "coder" "B" fC s ∧ Ch b A s ∧ StaticIs s "java/lang/String" "COMPACT_STRINGS" "Z" (.int z) ∧ ¬ z = 0 ∧ 0 < len ∧ o + len ≤ A.slots.size ∧ len ≤ 536870912 ∧ ∀ i, i < len → ¬ 255 < cv A (o + i)
def E (a : Addr) (D : Cell) (fV fC : Field) (A : Cell) (o len : Nat) (r : Option Value) (s u : State) : Prop := Got a D fV fC A o len r s u
/-- len > 0, no char of the range above 255: a Latin-1 String of their low bytes -/
theorem law (l : Launch) (a : Addr) (D : Cell) (fV fC : Field) (b : Addr) (A : Cell) (z : Int32) (o len : Nat) : Law l yN 5 4 2 35 yB 6 none site (P a D fV fC b A z o len) (E a D fV fC A o len) [⟨a, fC.slot⟩, ⟨a, fV.slot⟩] 1 len := by
  refine Law.of_walk (plainFor_of_name (by decide +kernel)) (by decide +kernel) (by decide +kernel) (by decide) (fun _ _ h => by rw [h.1]; rfl) (fun _ U U' hal hh h => ⟨h.1, h.2.1.mv hal hh, h.2.2.1.al hal, h.2.2.2.1.al hal, h.2.2.2.2.1.mv hal hh, h.2.2.2.2.2.1.there hal hh, h.2.2.2.2.2.2⟩) (fun r U U' V V' h1 hal h2 h => Got.mv r U U' V V' h1 hal h2 h) ?_
  intro p e s m args below meth c s₁ X0 hexec hbytes hml hret hlk hnm hown hh0 W hP
  obtain ⟨rfl, hB, f1, f2, hA, s1, hz, l0, l1, l2, hp⟩ := hP
  have a31 := hA.1.2.2.2
  have c1 : Steps p.tables e below (s₁.setTop (entryFrame m #[.ref a, .ref b, .int (Int32.ofNat o), .int (Int32.ofNat len), .null] 6)) (s₁.setTop (mkF m 0 #[.val (.ref a), .val (.ref b), .val (.int (Int32.ofNat o)), .val (.int (Int32.ofNat len)), .val .null, .unset] [])) := entry rfl
  have c2 : Steps p.tables e below (s₁.setTop (entryFrame m #[.ref a, .ref b, .int (Int32.ofNat o), .int (Int32.ofNat len), .null] 6)) (s₁.setTop (mkF m 1 #[.val (.ref a), .val (.ref b), .val (.int (Int32.ofNat o)), .val (.int (Int32.ofNat len)), .val .null, .unset] [.ref a])) := c1.trans (by
    refine XS.aloadN X0.here hexec rfl (hb hbytes d0) rfl rfl ?_
    exact Steps.refl _)
  obtain ⟨T3, X3, q3, st3⟩ := X0.oinit hexec hown (wks W (objW "java/lang/String" 1)) (g := (mkF m 1 #[.val (.ref a), .val (.ref b), .val (.int (Int32.ofNat o)), .val (.int (Int32.ofNat len)), .val .null, .unset] [.ref a])) rfl (by rw [hml]; rfl) (rest := []) rfl (hb hbytes d1) (W := 0) (by show 2 * 0 + 0 ≤ _; decide) (Nat.le_of_ble_eq_true rfl) (Nat.le_of_ble_eq_true rfl)
  have hh3 := q3.trans hh0
  have c4 : Steps p.tables e below (s₁.setTop (entryFrame m #[.ref a, .ref b, .int (Int32.ofNat o), .int (Int32.ofNat len), .null] 6)) (T3.setTop (mkF m 27 #[.val (.ref a), .val (.ref b), .val (.int (Int32.ofNat o)), .val (.int (Int32.ofNat len)), .val .null, .unset] [])) := (c2.trans (st3 _ (Steps.refl _))).trans (by
    refine XS.iloadN X3.here hexec rfl (hb hbytes d4) rfl ?_
    refine XS.ifYes X3.here hexec rfl (pc0 := 5) rfl (hb hbytes d5) rfl (i0_ne_t (nz32 (by omega) l0)) (by decide) rfl ?_
    exact Steps.refl _)
  obtain ⟨T5, X5, q5, st5⟩ := X3.sget hexec hown (wk W (.fieldLink "java/lang/String" 38 "java/lang/String" "COMPACT_STRINGS" "Z")) s1 (fun _ _ h => by rw [hh3]; exact h) (g := (mkF m 27 #[.val (.ref a), .val (.ref b), .val (.int (Int32.ofNat o)), .val (.int (Int32.ofNat len)), .val .null, .unset] [])) rfl (hb hbytes d27)
  have hh5 := q5.trans hh3
  have c6 : Steps p.tables e below (s₁.setTop (entryFrame m #[.ref a, .ref b, .int (Int32.ofNat o), .int (Int32.ofNat len), .null] 6)) (T5.setTop (mkF m 30 #[.val (.ref a), .val (.ref b), .val (.int (Int32.ofNat o)), .val (.int (Int32.ofNat len)), .val .null, .unset] [.int z])) := c4.trans (st5 _ (Steps.refl _))
  have c7 : Steps p.tables e below (s₁.setTop (entryFrame m #[.ref a, .ref b, .int (Int32.ofNat o), .int (Int32.ofNat len), .null] 6)) (T5.setTop (mkF m 36 #[.val (.ref a), .val (.ref b), .val (.int (Int32.ofNat o)), .val (.int (Int32.ofNat len)), .val .null, .unset] [.int (Int32.ofNat len), .int (Int32.ofNat o), .ref b])) := c6.trans (by
    refine XS.ifNo X5.here hexec rfl (hb hbytes d30) rfl (i0_eq_f hz) ?_
    refine XS.aloadN X5.here hexec rfl (hb hbytes d33) rfl rfl ?_
    refine XS.iloadN X5.here hexec rfl (hb hbytes d34) rfl ?_
    refine XS.iloadN X5.here hexec rfl (hb hbytes d35) rfl ?_
    exact Steps.refl _)
  obtain ⟨v8, T8, X8, E8, g8⟩ := X5.callS hexec (Cmp3.law l b A o len) hown (wks W (staticW "java/lang/String" 177 Cmp3.yN)) (wk W Cmp3.tab) (W := 0) (Nat.le_of_ble_eq_true rfl) (Nat.le_of_ble_eq_true rfl) (Nat.le_refl _) (by show 0 + len ≤ len; omega) (g := (mkF m 36 #[.val (.ref a), .val (.ref b), .val (.int (Int32.ofNat o)), .val (.int (Int32.ofNat len)), .val .null, .unset] [.int (Int32.ofNat len), .int (Int32.ofNat o), .ref b])) rfl (by rw [hml]; rfl) c7 (argsL := [.ref b, .int (Int32.ofNat o), .int (Int32.ofNat len)]) (rest := []) rfl rfl (by show 2 * 0 + 0 ≤ _; decide) (hb hbytes d36) (⟨rfl, hA.mv X5.warmed.alike hh5, l1, l2, hp⟩)
  obtain ⟨e8, z8⟩ := E8
  obtain ⟨rfl, N, n1, n2, n3, n4, n5, n6⟩ := NewArr.mv _ T5 s _ _ hh5.symm (Vm.Alike.refl _) rfl e8
  rw [hh5] at z8
  have hB1 := hB.keep X8.warmed.alike (n6 _ _ hB.1)
  have hne : s.heap.size ≠ a := (Nat.ne_of_lt (Array.getElem?_eq_some_iff.mp hB.1).1).symm
  have c9 : Steps p.tables e below (s₁.setTop (entryFrame m #[.ref a, .ref b, .int (Int32.ofNat o), .int (Int32.ofNat len), .null] 6)) (T8.setTop (mkF m 39 #[.val (.ref a), .val (.ref b), .val (.int (Int32.ofNat o)), .val (.int (Int32.ofNat len)), .val .null, .unset] [.ref s.heap.size])) := g8
  have c10 : Steps p.tables e below (s₁.setTop (entryFrame m #[.ref a, .ref b, .int (Int32.ofNat o), .int (Int32.ofNat len), .null] 6)) (T8.setTop (mkF m 45 #[.val (.ref a), .val (.ref b), .val (.int (Int32.ofNat o)), .val (.int (Int32.ofNat len)), .val .null, .val (.ref s.heap.size)] [.int (Int32.ofNat N.slots.size), .ref s.heap.size, .ref a])) := by
    have hc : Steps p.tables e below (s₁.setTop (entryFrame m #[.ref a, .ref b, .int (Int32.ofNat o), .int (Int32.ofNat len), .null] 6)) (T8.setTop (mkF m 45 #[.val (.ref a), .val (.ref b), .val (.int (Int32.ofNat o)), .val (.int (Int32.ofNat len)), .val .null, .val (.ref s.heap.size)] [.int (Int32.ofNat len), .ref s.heap.size, .ref a])) := c9.trans (by
      refine XS.astore X8.here hexec rfl (hb hbytes d39) rfl rfl rfl ?_
      refine XS.aloadN X8.here hexec rfl (hb hbytes d41) rfl rfl ?_
      refine XS.aload X8.here hexec rfl (hb hbytes d42) rfl rfl ?_
      refine XS.iloadN X8.here hexec rfl (hb hbytes d44) rfl ?_
      exact Steps.refl _)
    rw [n4]; exact hc
  obtain ⟨v11, T11, X11, E11, g11⟩ := X8.callS hexec (CodL.law l s.heap.size N) hown (wks W (staticW "java/lang/String" 47 CodL.yN)) (wk W CodL.tab) (W := 1) (Nat.le_of_ble_eq_true rfl) (Nat.le_of_ble_eq_true rfl) (Nat.le_refl _) (by show 0 + len + 0 ≤ len; omega) (g := (mkF m 45 #[.val (.ref a), .val (.ref b), .val (.int (Int32.ofNat o)), .val (.int (Int32.ofNat len)), .val .null, .val (.ref s.heap.size)] [.int (Int32.ofNat N.slots.size), .ref s.heap.size, .ref a])) rfl (by rw [hml]; rfl) c10 (argsL := [.ref s.heap.size, .int (Int32.ofNat N.slots.size)]) (rest := [.ref a]) rfl rfl (by show 2 * 0 + (1 + 0) ≤ _; decide) (hb hbytes d45) (⟨rfl, n1⟩)
  obtain ⟨rfl, q11⟩ := E11
  have hB11 := hB1.mv (X8.warmed.alike.symm.trans X11.warmed.alike) q11
  have c12 : Steps p.tables e below (s₁.setTop (entryFrame m #[.ref a, .ref b, .int (Int32.ofNat o), .int (Int32.ofNat len), .null] 6)) (T11.setTop (mkF m 48 #[.val (.ref a), .val (.ref b), .val (.int (Int32.ofNat o)), .val (.int (Int32.ofNat len)), .val .null, .val (.ref s.heap.size)] [.int 0, .ref a])) := g11
  obtain ⟨T13, X13, p13, bl13, sl13, st13⟩ := X11.finit hexec hown (wk W (.fieldLink "java/lang/String" 15 "java/lang/String" "coder" "B")) (Or.inr ⟨_, (wk W (.laysFinal "java/lang/String" "java/lang/String" "coder" "B"))⟩) (Or.inl ⟨rfl, hnm⟩) f2 (Or.inl rfl) hB11 (t := .byte) (by decide +kernel) rfl (g := (mkF m 48 #[.val (.ref a), .val (.ref b), .val (.int (Int32.ofNat o)), .val (.int (Int32.ofNat len)), .val .null, .val (.ref s.heap.size)] [.int 0, .ref a])) rfl (rest := []) rfl (hb hbytes d48)
  have c14 : Steps p.tables e below (s₁.setTop (entryFrame m #[.ref a, .ref b, .int (Int32.ofNat o), .int (Int32.ofNat len), .null] 6)) (T13.setTop (mkF m 54 #[.val (.ref a), .val (.ref b), .val (.int (Int32.ofNat o)), .val (.int (Int32.ofNat len)), .val .null, .val (.ref s.heap.size)] [.ref s.heap.size, .ref a])) := (c12.trans (st13 _ (Steps.refl _))).trans (by
    refine XS.aloadN X13.here hexec rfl (hb hbytes d51) rfl rfl ?_
    refine XS.aload X13.here hexec rfl (hb hbytes d52) rfl rfl ?_
    exact Steps.refl _)
  obtain ⟨T15, X15, p15, bl15, sl15, st15⟩ := X13.finit hexec hown (wk W (.fieldLink "java/lang/String" 9 "java/lang/String" "value" "[B")) (Or.inr ⟨_, (wk W (.laysFinal "java/lang/String" "java/lang/String" "value" "[B"))⟩) (Or.inl ⟨rfl, hnm⟩) f1 (Or.inl rfl) bl13 (t := (.array .byte)) (by decide +kernel) rfl (g := (mkF m 54 #[.val (.ref a), .val (.ref b), .val (.int (Int32.ofNat o)), .val (.int (Int32.ofNat len)), .val .null, .val (.ref s.heap.size)] [.ref s.heap.size, .ref a])) rfl (rest := []) rfl (hb hbytes d54)
  have c16 : Steps p.tables e below (s₁.setTop (entryFrame m #[.ref a, .ref b, .int (Int32.ofNat o), .int (Int32.ofNat len), .null] 6)) (T15.setTop (mkF m 57 #[.val (.ref a), .val (.ref b), .val (.int (Int32.ofNat o)), .val (.int (Int32.ofNat len)), .val .null, .val (.ref s.heap.size)] [])) := c14.trans (st15 _ (Steps.refl _))
  have ap := apart (Or.inr ⟨_, (wk W (.laysFinal "java/lang/String" "java/lang/String" "value" "[B"))⟩) (Or.inr ⟨_, (wk W (.laysFinal "java/lang/String" "java/lang/String" "coder" "B"))⟩) f1 f2 (t₁ := .array .byte) (t₂ := .byte) (by decide +kernel) (by decide +kernel) (by decide)
  have al := X8.warmed.alike.symm.trans X15.warmed.alike
  have n7 : T11.heap[s.heap.size]? = some N := by rw [q11]; exact n1.1
  exact ⟨T15, none, _, _, _, X15, by simp, rfl, by omega, (fun _ => rfl), ⟨rfl, _, N, bl15, ((Same.refl D _).set _ (by simp)).set _ (by simp), sl15, (Cell.slots_setSlot_ne _ ap).trans sl13, n1.keep al (p15.other hne (p13.other hne n7)), n2, by rw [al.findClass]; exact n3, n4, n5, fun y c h1 h2 => p15.other h1 (p13.other h1 (by rw [q11]; exact n6 y c h2)), by rw [p15.2.2, p13.2.2, q11]; exact z8⟩, fun fs hl => c16.trans (X15.returnOut hexec hret (hb hbytes d57) hl)⟩
end New4
namespace New1
def yN : MethodName := ⟨"java/lang/String", "<init>", "([C)V"⟩
abbrev yB : ByteArray := jdk_42_method_3_code
theorem d0 : decode yB 0 = .ok (.aload_n 0, 1) := by decide +kernel
theorem d1 : decode yB 1 = .ok (.aload_n 1, 1) := by decide +kernel
theorem d2 : decode yB 2 = .ok (.iconst 0, 1) := by decide +kernel
theorem d3 : decode yB 3 = .ok (.aload_n 1, 1) := by decide +kernel
theorem d4 : decode yB 4 = .ok (.arraylength, 1) := by decide +kernel
theorem d5 : decode yB 5 = .ok (.aconst_null, 1) := by decide +kernel
theorem d6 : decode yB 6 = .ok (.invokespecial 27, 3) := by decide +kernel
theorem d9 : decode yB 9 = .ok (.return_, 1) := by decide +kernel
def site : List Cond := [New4.tab] ++ initW "java/lang/String" 27 New4.yN
def tab : Cond := tabOf yN yB 2 none site
def P (a : Addr) (D : Cell) (fV fC : Field) (b : Addr) (A : Cell) (z : Int32) (args : Array Value) (s : State) : Prop := args = #[.ref a, .ref b] ∧ Blank "java/lang/String" a D s ∧ Found "java/lang/String" "value" "[B" fV s ∧ Found "java/lang/String" "coder" "B" fC s ∧ Ch b A s ∧ StaticIs s "java/lang/String" "COMPACT_STRINGS" "Z" (.int z) ∧ ¬ z = 0 ∧ 0 < A.slots.size ∧ A.slots.size ≤ 536870912 ∧ ∀ i, i < A.slots.size → ¬ 255 < cv A i
def E (a : Addr) (D : Cell) (fV fC : Field) (A : Cell) (r : Option Value) (s u : State) : Prop := Got a D fV fC A 0 A.slots.size r s u
/-- new String(chars), not empty, no char above 255: a Latin-1 String of their low bytes -/
theorem law (l : Launch) (a : Addr) (D : Cell) (fV fC : Field) (b : Addr) (A : Cell) (z : Int32) : Law l yN 2 1 3 52 yB 2 none site (P a D fV fC b A z) (E a D fV fC A) [⟨a, fC.slot⟩, ⟨a, fV.slot⟩] 1 A.slots.size := by
  refine Law.of_walk (plainFor_of_name (by decide +kernel)) (by decide +kernel) (by decide +kernel) (by decide) (fun _ _ h => by rw [h.1]; rfl) (fun _ U U' hal hh h => ⟨h.1, h.2.1.mv hal hh, h.2.2.1.al hal, h.2.2.2.1.al hal, h.2.2.2.2.1.mv hal hh, h.2.2.2.2.2.1.there hal hh, h.2.2.2.2.2.2⟩) (fun r U U' V V' h1 hal h2 h => Got.mv r U U' V V' h1 hal h2 h) ?_
  intro p e s m args below meth c s₁ X0 hexec hbytes hml hret hlk hnm hown hh0 W hP
  obtain ⟨rfl, hB, f1, f2, hA, s1, hz, l0, l2, hp⟩ := hP
  have c1 : Steps p.tables e below (s₁.setTop (entryFrame m #[.ref a, .ref b] 2)) (s₁.setTop (mkF m 0 #[.val (.ref a), .val (.ref b)] [])) := entry rfl
  have c2 : Steps p.tables e below (s₁.setTop (entryFrame m #[.ref a, .ref b] 2)) (s₁.setTop (mkF m 6 #[.val (.ref a), .val (.ref b)] [.null, .int (Int32.ofNat A.slots.size), .int 0, .ref b, .ref a])) := c1.trans (by
    refine XS.aloadN X0.here hexec rfl (hb hbytes d0) rfl rfl ?_
    refine XS.aloadN X0.here hexec rfl (hb hbytes d1) rfl rfl ?_
    refine iconstV X0.here hexec rfl 0 (hb hbytes d2) (by decide) ?_
    refine XS.aloadN X0.here hexec rfl (hb hbytes d3) rfl rfl ?_
    refine X0.alen hexec (hA.1.mv X0.warmed.alike hh0) rfl rfl (hb hbytes d4) ?_
    refine XS.aconstNull X0.here hexec rfl (hb hbytes d5) ?_
    exact Steps.refl _)
  obtain ⟨v3, T3, X3, E3, g3⟩ := X0.callN hexec (New4.law l a D fV fC b A z 0 A.slots.size) rfl hown (wks W (initW "java/lang/String" 27 New4.yN)) (W New4.tab (by simp only [site, List.mem_cons, List.mem_append, true_or, or_true])) (W := 0) (Nat.le_of_ble_eq_true rfl) (Nat.le_of_ble_eq_true rfl) (Nat.le_refl _) (by show 0 + A.slots.size ≤ A.slots.size; omega) (g := (mkF m 6 #[.val (.ref a), .val (.ref b)] [.null, .int (Int32.ofNat A.slots.size), .int (Int32.ofNat 0), .ref b, .ref a])) rfl (by rw [hml]; rfl) c2 (argsL := [.ref b, .int (Int32.ofNat 0), .int (Int32.ofNat A.slots.size), .null]) (rest := []) rfl rfl (by show 2 * 0 + 0 ≤ _; decide) (hb hbytes d6) (⟨rfl, hB.mv X0.warmed.alike hh0, f1.al X0.warmed.alike, f2.al X0.warmed.alike, hA.mv X0.warmed.alike hh0, s1.there X0.warmed.alike hh0, hz, l0, by omega, l2, fun i hi => by rw [Nat.zero_add]; exact hp i hi⟩)
  have e0 := Got.mv _ s₁ s _ _ hh0.symm (Vm.Alike.refl _) rfl E3
  obtain rfl := e0.1
  have c4 : Steps p.tables e below (s₁.setTop (entryFrame m #[.ref a, .ref b] 2)) (T3.setTop (mkF m 9 #[.val (.ref a), .val (.ref b)] [])) := g3
  exact ⟨T3, none, _, _, _, X3, by simp, rfl, by omega, (fun _ => rfl), e0, fun fs hl => c4.trans (X3.returnOut hexec hret (hb hbytes d9) hl)⟩
theorem pays {l : Launch} {R : Room} {p : Program} {e : Env} {below : List Frame} {s : State} {sargs : Array Value} {len W : Nat} (a : Addr) (D : Cell) (fV fC : Field) (b : Addr) (A : Cell) (z : Int32) (htab : tab.before sargs s = true) (hfr : 4 ≤ R.frames) (hlo : W + 65 ≤ R.locals) :
    Back l R p e below s sargs yN len W (fun A₁ a₁ => A₁.cells + 1 ≤ R.cells ∧ A₁.slots + A.slots.size ≤ R.slots ∧ P a D fV fC b A z a₁ A₁.U) (fun A₁ _ v₁ B₁ => E a D fV fC A v₁ A₁.U B₁.U ∧ B₁.locs = A₁.locs ++ [⟨a, fC.slot⟩, ⟨a, fV.slot⟩] ∧ B₁.cells = A₁.cells + 1 ∧ B₁.slots = A₁.slots + A.slots.size) :=
  (law l a D fV fC b A z).pays htab hfr (by omega)
end New1
end StrChars
namespace StrChars.Road
open Jvm Sem ClassFile Op Lib Jvm.Stand Jvm.Free Jvm.Free.XT
open Jvm.Lib.Cold (StaticIs)
abbrev ST : String := "java/lang/String"
/-- every table word that New1's law asks, flat -/
abbrev words : List Jvm.Cond := [.code New1.yN New1.yB 2 none, .initialized ST, .methodLink ST 27 New4.yN, .instanceMethod New4.yN,
  .code New4.yN New4.yB 6 none, .fieldLink ST 38 ST "COMPACT_STRINGS" "Z", .laysFinal ST ST "value" "[B", .fieldLink ST 9 ST "value" "[B", .laysFinal ST ST "coder" "B", .fieldLink ST 15 ST "coder" "B",
  .methodLink ST 1 Lib.objectInit, .instanceMethod Lib.objectInit, .code Lib.objectInit ⟨#[0xb1]⟩ 1 none, .methodLink ST 177 Cmp3.yN, .static Cmp3.yN, .methodLink ST 47 CodL.yN, .static CodL.yN,
  .code Cmp3.yN Cmp3.yB 6 (some (.array .byte)), .initialized U16, .arrayClass .byte, .methodLink U16 115 Cmp5.yN, .static Cmp5.yN, .code Cmp5.yN Cmp5.yB 7 (some .int), .code CodL.yN CodL.yB 2 (some .byte)]
theorem tab_of {a : Array Value} {s : State} (h : ∀ w ∈ words, w.before a s = true) : New1.tab.before a s = true := by
  have h5 : Cmp5.tab.before a s = true := unparts (wk h (.code Cmp5.yN Cmp5.yB 7 (some .int))) (wks h (.initialized Cmp5.yN.cls :: Cmp5.site))
  have hc : CodL.tab.before a s = true := unparts (wk h (.code CodL.yN CodL.yB 2 (some .byte))) (wks h (.initialized CodL.yN.cls :: CodL.site))
  have q5 : ∀ w ∈ Cmp5.tab :: words, w.before a s = true := fun w hw => (List.mem_cons.mp hw).elim (fun e => e ▸ h5) (h w)
  have h3 : Cmp3.tab.before a s = true := unparts (wk q5 (.code Cmp3.yN Cmp3.yB 6 (some (.array .byte)))) (wks q5 (.initialized Cmp3.yN.cls :: Cmp3.site))
  have q3 : ∀ w ∈ Cmp3.tab :: CodL.tab :: words, w.before a s = true := fun w hw => (List.mem_cons.mp hw).elim (fun e => e ▸ h3) fun hw => (List.mem_cons.mp hw).elim (fun e => e ▸ hc) (h w)
  have h4 : New4.tab.before a s = true := unparts (wk q3 (.code New4.yN New4.yB 6 none)) (wks q3 (.initialized New4.yN.cls :: New4.site))
  have q4 : ∀ w ∈ New4.tab :: words, w.before a s = true := fun w hw => (List.mem_cons.mp hw).elim (fun e => e ▸ h4) (h w)
  exact unparts (wk q4 (.code New1.yN New1.yB 2 none)) (wks q4 (.initialized New1.yN.cls :: New1.site))
/-- the words ride from the start Z to the walk's own state -/
theorem moved {Z s : State} {a0 args : Array Value} (hZ : Z.Warmed39 s.vm) (hw : ∀ d ∈ words, d.before a0 Z = true) : ∀ d ∈ words, d.before args s = true := fun d hd => by
  have q := hw d hd
  have t : ∀ d ∈ words, d = .arrayClass .byte ∨ (d.onTables && d.keepsFace) = true := by decide +kernel
  rcases t d hd with rfl | t
  · exact RoadKit.mvA hZ q
  · exact RoadKit.mv hZ q t
/-- WHAT COMES BACK, over the tables of the start Z: h the heap at the call, h' behind it -/
def Q (Z : State) (x : Addr) (A : Cell) (h : Heap) (v : Option Value) (h' : Heap) (L : List Loc) : Prop := v = none ∧ (∀ y ∈ L, y.base = x) ∧ RoadKit.Keep h h' [x] ∧ h'.size = h.size + 1 ∧ RoadKit.Exa Z h' x ST ∧ RoadKit.Fld Z h' x ST "value" "[B" (.ref h.size) ∧ RoadKit.Fld Z h' x ST "coder" "B" (.int 0) ∧
  (∃ V : Cell, RoadKit.Arr Z h' h.size V .byte ∧ V.vm = .none ∧ Z.vm.findClass "[B" = some V.cls ∧ V.slots.size = A.slots.size ∧ ∀ j, j < A.slots.size → V.slots[j]? = some (.int (lo8 (cv A j)))) ∧
  ∀ (O n d : String) (w : Value), RoadKit.Fld Z h x O n d w → RoadKit.slotOf Z O n d ≠ RoadKit.slotOf Z ST "value" "[B" → RoadKit.slotOf Z O n d ≠ RoadKit.slotOf Z ST "coder" "B" → RoadKit.Fld Z h' x O n d w
/-- **new String(chars) AT A CALL, IN THE ROAD'S FORM**: for specialBack behind newO: x the fresh String, b the char[] with the cell A -/
theorem back {p : Program} {l : Launch} {e : Env} {R : Room} {s : State} {args : Array Value} {below : List Frame} {len W : Nat} {Z : State} {a0 : Array Value} {h : Heap} (hZ : Z.Warmed39 s.vm) (hw : ∀ d ∈ words, d.before a0 Z = true) {kI : Nat} (wi : (Jvm.Cond.instantiable ST kI).before a0 Z = true)
    {x b : Addr} {A : Cell} {z : Int32} {v0 c0 : Value} (E : RoadKit.Exa Z h x ST) (V : RoadKit.Fld Z h x ST "value" "[B" v0) (C : RoadKit.Fld Z h x ST "coder" "B" c0) (K : RoadKit.Arr Z h b A .char) (hty : Typed .char A) (S : RoadKit.Sta Z h ST "COMPACT_STRINGS" "Z" (.int z)) (hz : ¬ z = 0)
    (l0 : 0 < A.slots.size) (l2 : A.slots.size ≤ 536870912) (hp : ∀ i, i < A.slots.size → ¬ 255 < cv A i) (hfr : 4 ≤ R.frames) (hlo : W + 65 ≤ R.locals) :
    Back l R p e below s args New1.yN len W (fun P a => a = #[.ref x, .ref b] ∧ P.U.heap = h ∧ P.cells + 1 ≤ R.cells ∧ P.slots + A.slots.size ≤ R.slots)
      (fun P _ v B => ∃ L, Q Z x A h v B.U.heap L ∧ B.locs = P.locs ++ L ∧ B.cells = P.cells + 1 ∧ B.slots = P.slots + A.slots.size) := by
  intro m meth c P g ig mk a X hg hsize hdg hW hn hp'
  obtain ⟨rfl, rfl, r1, r2⟩ := hp'
  have al : Z.vm.Alike P.U.vm := hZ.alike.trans X.warmed.alike
  obtain ⟨D, cfV, kV, iV, fV, hD, gV, stV, knV, obV, asV, slV⟩ := id V
  obtain ⟨D', cfC, kC, iC, fC, hD', gC, stC, -, -, asC, slC⟩ := id C
  cases hD.symm.trans hD'
  obtain ⟨D2, kD, e1, e2, e3, e4, e5⟩ := id E
  cases hD.symm.trans e1
  obtain ⟨c2, k2, i1, i2, i3, -⟩ := Cond.instantiable_spec wi
  cases e2.symm.trans i1
  cases e3.symm.trans i2
  obtain ⟨kU, u1, u2⟩ := al.2.2 _ _ e3
  have hB : Blank ST x D P.U := ⟨hD, ⟨knV, fun q hq => by rw [hq] at obV; cases obV⟩, by rw [al.findClass]; exact e2, kU, u1, by rw [u2]; exact i3, by rw [u2]; exact e5 i3⟩
  have F1 : Found ST "value" "[B" fV P.U := ⟨SBG.found_only al ⟨cfV, kV, iV, gV⟩, stV⟩
  have F2 : Found ST "coder" "B" fC P.U := ⟨SBG.found_only al ⟨cfC, kC, iC, gC⟩, stC⟩
  have hA : Ch b A P.U := ⟨⟨K.1, State.isArrayOf_alike al K.2.1, K.2.2, by omega⟩, hty⟩
  have hS : StaticIs P.U ST "COMPACT_STRINGS" "Z" (.int z) := by
    obtain ⟨cfS, iS, kS, fS, st, cS, t1, t2, t3, t4, t5, t6, t7⟩ := S
    exact StaticIs.there (s := { Z with heap := P.U.heap }) ⟨cfS, iS, kS, fS, st, cS, t1, t2, t3, t4, t5, (fun q => by rw [q] at t6; cases t6), t7⟩ al rfl
  obtain ⟨v, B, X', ⟨⟨hv, E', V', q1, q2, q3, q4, q5, q6, q7, q8, q9, q10, q11⟩, hl, hc, hs⟩, st⟩ := New1.pays x D fV fC b A z (tab_of (moved hZ hw)) hfr hlo m meth c P g ig mk _ X hg hsize hdg hW hn ⟨r1, r2, rfl, hB, F1, F2, hA, hS, hz, l0, l2, hp⟩
  have al' : Z.vm.Alike B.U.vm := hZ.alike.trans X'.warmed.alike
  have hsz : E'.slots.size = D.slots.size := by
    obtain ⟨-, -, -, kB, w1, w2, w3⟩ := q1
    obtain ⟨kB', y1, y2⟩ := al'.2.2 _ _ e3
    rw [q2.2.1] at w1
    cases w1.symm.trans y1
    rw [w3, e5 i3, y2]
  refine ⟨v, B, X', ⟨_, ⟨hv, ?_, ⟨by omega, fun y cy hy hn' => q10 y cy (by simpa using hn') hy, fun y cy hy => ?_⟩, q11, ⟨E', _, q1.1, by rw [q2.2.1]; exact e2, by rw [q2.2.1]; exact e3, by rw [q2.1]; exact obV, fun _ => by rw [hsz]; exact e5 i3⟩,
    ⟨E', cfV, kV, iV, fV, q1.1, gV, stV, by rw [q2.1]; exact knV, by rw [q2.1]; exact obV, by rw [q2.2.1]; exact asV, q3⟩, ⟨E', cfC, kC, iC, fC, q1.1, gC, stC, by rw [q2.1]; exact knV, by rw [q2.1]; exact obV, by rw [q2.2.1]; exact asC, q4⟩,
    ⟨V', ⟨q5.1, State.isArrayOf_alike al'.symm q5.2.1, q5.2.2.1⟩, q6, by rw [← al'.findClass]; exact q7, q8, fun j hj => by have := q9 j hj; rwa [Nat.zero_add] at this⟩, fun O n d w F n1 n2 => ?_⟩, hl, hc, hs⟩, st⟩
  · intro y hy
    simp only [List.mem_cons, List.not_mem_nil, or_false] at hy
    rcases hy with rfl | rfl <;> rfl
  · by_cases q : y = x
    · subst q
      cases hD.symm.trans hy
      exact ⟨E', q1.1, q2.2.1, q2.1, hsz⟩
    · exact ⟨cy, q10 y cy q hy, rfl, rfl, rfl⟩
  · obtain ⟨D3, cf, k, i, f, g1, g2, g3, g4, g5, g6, g7⟩ := F
    cases hD.symm.trans g1
    simp only [RoadKit.slotOf, g2, gV, gC, Option.map_some, Option.getD_some] at n1 n2
    exact ⟨E', cf, k, i, f, q1.1, g2, g3, by rw [q2.1]; exact g4, by rw [q2.1]; exact g5, by rw [q2.2.1]; exact g6, by rw [q2.2.2 f.slot (by simp [n1, n2])]; exact g7⟩
end StrChars.Road
namespace StrChars.Road
open Jvm Sem ClassFile Op Lib Jvm.Stand Jvm.Free Jvm.Free.XT
/-- WHAT COMES BACK, the byte[] as a list of values -/
def QA (Z : State) (x : Addr) (zn : Int32) (cs : List Int32) (h : Heap) (v : Option Value) (h' : Heap) (L : List Loc) : Prop := v = none ∧ (∀ y ∈ L, y.base = x) ∧ RoadKit.Keep h h' [x] ∧ h'.size = h.size + 1 ∧ RoadKit.Exa Z h' x ST ∧ RoadKit.Fld Z h' x ST "value" "[B" (.ref h.size) ∧ RoadKit.Fld Z h' x ST "coder" "B" (.int 0) ∧
  (∃ kb, Z.vm.findClass "[B" = some kb ∧ RoadKit.Arv Z h' h.size kb .byte zn (cs.map fun c => .int (lo8 c)) (.int 0)) ∧
  ∀ (O n d : String) (w : Value), RoadKit.Fld Z h x O n d w → RoadKit.slotOf Z O n d ≠ RoadKit.slotOf Z ST "value" "[B" → RoadKit.slotOf Z O n d ≠ RoadKit.slotOf Z ST "coder" "B" → RoadKit.Fld Z h' x O n d w
/-- **new String(chars) AT A CALL, THE ARRAYS AS LISTS**: the char[] at b holds cs, not empty, no char above 255 -/
theorem backArv {p : Program} {l : Launch} {e : Env} {R : Room} {s : State} {args : Array Value} {below : List Frame} {len W : Nat} {Z : State} {a0 : Array Value} {h : Heap} (hZ : Z.Warmed39 s.vm) (hw : ∀ d ∈ words, d.before a0 Z = true) {kI : Nat} (wi : (Jvm.Cond.instantiable ST kI).before a0 Z = true)
    {x b : Addr} {k : ClassId} {zn z : Int32} {cs : List Int32} {dv v0 c0 : Value} (E : RoadKit.Exa Z h x ST) (V : RoadKit.Fld Z h x ST "value" "[B" v0) (C : RoadKit.Fld Z h x ST "coder" "B" c0) (K : RoadKit.Arv Z h b k .char zn (cs.map Value.int) dv) (S : RoadKit.Sta Z h ST "COMPACT_STRINGS" "Z" (.int z)) (hz : ¬ z = 0)
    (hlen : zn.toNatClampNeg = cs.length) (h0 : 0 < cs.length) (hbig : cs.length ≤ 536870912) (hall : ∀ c ∈ cs, ¬ 255 < c) (hfr : 4 ≤ R.frames) (hlo : W + 65 ≤ R.locals) :
    Back l R p e below s args New1.yN len W (fun P a => a = #[.ref x, .ref b] ∧ P.U.heap = h ∧ P.cells + 1 ≤ R.cells ∧ P.slots + cs.length ≤ R.slots)
      (fun P _ v B => ∃ L, QA Z x zn cs h v B.U.heap L ∧ B.locs = P.locs ++ L ∧ B.cells = P.cells + 1 ∧ B.slots = P.slots + cs.length) := by
  obtain ⟨A, K1, K2, K3, K4, K5, K6⟩ := K
  have e : A.slots.size = cs.length := K3.trans hlen
  have hat : ∀ (i : Nat) (hi : i < cs.length), A.slots[i]? = some (.int cs[i]) := fun i hi => by rw [K5 i (by omega)]; simp [List.getD_eq_getElem?_getD, hi]
  have hcv : ∀ (i : Nat) (hi : i < cs.length), cv A i = cs[i] := fun i hi => by unfold cv; rw [hat i hi]
  have hty : Typed .char A := fun i v hv => by
    have hi : i < A.slots.size := (Array.getElem?_eq_some_iff.mp hv).1
    have q := K5 i hi
    rw [hv] at q
    rw [Option.some.inj q]
    exact K6 i hi
  refine Back.mono (back hZ hw wi E V C K1 hty S hz (by omega) (by omega) (fun i hi => by rw [hcv i (by omega)]; exact hall _ (List.getElem_mem _)) hfr hlo) (fun P a hp => ⟨hp.1, hp.2.1, hp.2.2.1, by rw [e]; exact hp.2.2.2⟩) (fun P a v B hp hq => ?_)
  obtain ⟨L, ⟨q1, q2, q3, q4, q5, q6, q7, ⟨V', v1, v2, v3, v4, v5⟩, q9⟩, hl, hc, hs⟩ := hq
  refine ⟨L, ⟨q1, q2, q3, q4, q5, q6, q7, ⟨V'.cls, v3, V', v1, rfl, by rw [v4, e, hlen], K4, fun i hi => ?_, fun i hi => ?_⟩, q9⟩, hl, hc, by rw [hs, e]⟩
  · have hi' : i < cs.length := by omega
    rw [v5 i (by omega), hcv i hi']; simp [List.getD_eq_getElem?_getD, hi']
  · have hi' : i < cs.length := by omega
    simp only [List.getD_eq_getElem?_getD, List.getElem?_map, List.getElem?_eq_getElem hi', Option.map_some, Option.getD_some]
    exact fits_lo8 _
end StrChars.Road
namespace StrChars.Road
open Jvm Sem ClassFile Op Lib Jvm.Stand Jvm.Free Jvm.Free.XT
/-- WHAT COMES BACK, in the writer's own shape -/
def QV (Z : State) (x : Addr) (N : Int32) (bs : List Int32) (h : Heap) (n0 : Nat) (v : Option Value) (h' : Heap) (L : List Loc) : Prop := v = none ∧ RoadKit.Fr n0 L ∧ RoadKit.Keep h h' [x] ∧ RoadKit.Exa Z h' x ST ∧ RoadKit.Fld Z h' x ST "coder" "B" (.int 0) ∧
  ∃ (t : Addr) (kb : ClassId), n0 ≤ t ∧ h.size ≤ t ∧ ¬ t = x ∧ RoadKit.Fld Z h' x ST "value" "[B" (.ref t) ∧ RoadKit.Arv Z h' t kb .byte N (bs.map Value.int) (.int 0)
/-- **new String(chars) AT A CALL, FOR THE WRITER**: a char[] of n known ints, each 0 to 255 -/
theorem backV {p : Program} {l : Launch} {e : Env} {R : Room} {s : State} {args : Array Value} {below : List Frame} {len W : Nat} {Z : State} {a0 : Array Value} {h : Heap} (hZ : Z.Warmed39 s.vm) (hw : ∀ d ∈ words, d.before a0 Z = true) {kI : Nat} (wi : (Jvm.Cond.instantiable ST kI).before a0 Z = true)
    {x b : Addr} {kC : ClassId} {cs bs : List Int32} {d v0 c0 : Value} {z N : Int32} {n n0 : Nat} (hx0 : n0 ≤ x) (hh0 : n0 ≤ h.size) (E : RoadKit.Exa Z h x ST) (V : RoadKit.Fld Z h x ST "value" "[B" v0) (C : RoadKit.Fld Z h x ST "coder" "B" c0) (K : RoadKit.Arv Z h b kC .char N (cs.map Value.int) d) (S : RoadKit.Sta Z h ST "COMPACT_STRINGS" "Z" (.int z)) (hz : ¬ z = 0)
    (hn : cs.length = n) (hN : N = Int32.ofNat n) (l0 : 0 < n) (l2 : n ≤ 4000) (hp : ∀ c ∈ cs, ¬ c < 0 ∧ ¬ (255 : Int32) < c) (hb : bs = cs.map (fun c => c.toInt8.toInt32)) (hfr : 4 ≤ R.frames) (hlo : W + 65 ≤ R.locals) :
    Back l R p e below s args (⟨"java/lang/String", "<init>", "([C)V"⟩ : MethodName) len W (fun P a => a = #[.ref x, .ref b] ∧ P.U.heap = h ∧ P.cells + 1 ≤ R.cells ∧ P.slots + n ≤ R.slots)
      (fun P _ v B => ∃ L, QV Z x N bs h n0 v B.U.heap L ∧ B.locs = P.locs ++ L ∧ B.cells = P.cells + 1 ∧ B.slots = P.slots + n) := by
  subst hn hN hb
  refine Back.mono (backArv hZ hw wi E V C K S hz (n32 (by omega)) l0 (by omega) (fun c hc => (hp c hc).2) hfr hlo) (fun P a hp => hp) (fun P a v B hp hq => ?_)
  obtain ⟨L, ⟨q1, q2, q3, q4, q5, q6, q7, ⟨kb, v1, v2⟩, q9⟩, hl, hc, hs⟩ := hq
  exact ⟨L, ⟨q1, fun y hy => by rw [q2 y hy]; exact hx0, q3, q5, q7, h.size, kb, hh0, Nat.le_refl _, Nat.ne_of_gt E.lt, q6, by rw [List.map_map]; exact v2⟩, hl, hc, hs⟩
end StrChars.Road
end Jvm.Pilot.@@N@@
namespace Jvm.Pilot.@@N@@
open Jvm Jvm.ClassFile Sem Op Lib Jvm.Free Jvm.Stand Jvm.LawKit Jvm.RoadKit Bundle Jvm.Pilot.@@N@@.Jvm.D
namespace Wd
section Strs
variable {p : Program} {l : Launch} {e : Env} {R : Room} {s : State} {args : Array Value} {below : List Frame} {Z : State} {EL : List (String × Nat)} {n0 : Nat} {h h' : Heap} {WL FL : List Addr} {a0 : Array Value} {len W : Nat} {x t : Addr} {cs : List Int32}
abbrev lat (cs : List Int32) : List Value := (cs.map fun c => c.toInt8.toInt32).map Value.int
/-- x is a String of the chars cs, each at most 255; t its bytes -/
def StrL (Z : State) (h : Heap) (x t : Addr) (cs : List Int32) : Prop :=
  Exa Z h x "java/lang/String" ∧ Fld Z h x "java/lang/String" "value" "[B" (.ref t) ∧ Fld Z h x "java/lang/String" "coder" "B" (.int 0) ∧ (∃ kb, Arv Z h t kb .byte (Int32.ofNat cs.length) (lat cs) (.int 0)) ∧ (∀ c ∈ cs, ¬ c < 0 ∧ ¬ (255 : Int32) < c) ∧ cs.length ≤ 4000
theorem StrL.ext (S : StrL Z h x t cs) (E : Ext h h') : StrL Z h' x t cs := by
  obtain ⟨s1, s2, s3, ⟨kb, s4⟩, s5⟩ := S; exact ⟨s1.ext E, s2.ext E, s3.ext E, ⟨kb, s4.ext E⟩, s5⟩
theorem StrL.keep {ws : List Addr} (S : StrL Z h x t cs) (K : Keep h h' ws) (h1 : x ∉ ws) (h2 : t ∉ ws) : StrL Z h' x t cs := by
  obtain ⟨s1, s2, s3, ⟨kb, s4⟩, s5⟩ := S; exact ⟨s1.keep K, s2.keep K h1, s3.keep K h1, ⟨kb, s4.keep K h2⟩, s5⟩
theorem StrL.wr {a : Addr} {sl : Nat} {v : Value} (S : StrL Z h x t cs) (W : Wr h h' a sl v) (h1 : x ≠ a) (h2 : t ≠ a) : StrL Z h' x t cs := by
  obtain ⟨s1, s2, s3, ⟨kb, s4⟩, s5⟩ := S; exact ⟨s1.wr W, s2.other W (Or.inl h1), s3.other W (Or.inl h1), ⟨kb, s4.other W h2⟩, s5⟩
/-- what new String(chars) leaves -/
def QNew (Z : State) (x : Addr) (cs : List Int32) (h : Heap) (v : Option Value) (h' : Heap) (WL' FL' : List Addr) : Prop := ∃ t : Addr, v = none ∧ WL' = [] ∧ FL' = [t] ∧ Keep h h' [x] ∧ StrL Z h' x t cs
theorem pay_new (hw : ∀ d ∈ StrChars.Road.words, d.before a0 Z = true) {kI : Nat} (wi : (Jvm.Cond.instantiable "java/lang/String" kI).before a0 Z = true) {b : Addr} {kC : ClassId} {d v0 c0 : Value} {z N : Int32} {n : Nat} (ge : n0 ≤ x) (ge' : n0 ≤ h.size) (hx : x ∈ WL) (E : Exa Z h x "java/lang/String") (V : Fld Z h x "java/lang/String" "value" "[B" v0) (C : Fld Z h x "java/lang/String" "coder" "B" c0) (A : Arv Z h b kC .char N (cs.map Value.int) d) (S : Sta Z h "java/lang/String" "COMPACT_STRINGS" "Z" (.int z)) (hz : ¬ z = 0)
    (hn : cs.length = n) (hN : N = Int32.ofNat n) (l0 : 0 < n) (l2 : n ≤ 4000) (hp : ∀ c ∈ cs, ¬ c < 0 ∧ ¬ (255 : Int32) < c) (hfr : 4 ≤ R.frames) (hlo : W + 65 ≤ R.locals) :
    Pay l R p e below s args Z EL n0 (⟨"java/lang/String", "<init>", "([C)V"⟩ : MethodName) len W #[.ref x, .ref b] h WL FL 1 n (QNew Z x cs h) :=
  Pay.ofN (fun vm0 hZ => StrChars.Road.backV (n0 := n0) hZ hw wi ge ge' E V C A S hz hn hN l0 l2 hp rfl hfr hlo) (fun v h' L ⟨q1, q2, q3, q4, q5, t, kb, q6, q7, q8, q9, q10⟩ => by
    refine ⟨q2, [x], [t], q3, allS hx all0, allS ⟨q7, q10.lt⟩ all0, t, q1, rfl, rfl, q3, q4, q9, q5, ⟨kb, ?_⟩, hp, by omega⟩
    rw [hN] at q10; rw [hn]; exact q10)
end Strs
end Wd
end Jvm.Pilot.@@N@@
namespace Jvm.Pilot.@@N@@
open Jvm Jvm.ClassFile Sem Op Lib Jvm.Free Jvm.Stand Jvm.LawKit Jvm.RoadKit Bundle Jvm.Pilot.@@N@@.Jvm.D Wd
theorem nlt {a b : Nat} (h : Nat.ble (a + 1) b = true) : a < b := Nat.le_of_ble_eq_true h
theorem nle {a b : Nat} (h : Nat.ble a b = true) : a ≤ b := Nat.le_of_ble_eq_true h
theorem fc0 {P : Int32 → Prop} : ∀ c ∈ ([] : List Int32), P c := fun _ q => nomatch q
theorem fcS {P : Int32 → Prop} {y : Int32} {L : List Int32} (q : P y) (r : ∀ c ∈ L, P c) : ∀ c ∈ y :: L, P c := fun c z => (List.mem_cons.mp z).elim (fun u => u ▸ q) (r c)
theorem msk {x m : Int32} {k : Nat} (hk : k ≤ 31) (hm : m.toBitVec.toNat = 2 ^ k - 1) : (x &&& m).toInt = x.toInt % (2 ^ k : Nat) := c_mask x m k hk hm
theorem rng255 (x : Int32) : ¬ (x &&& 255) < 0 ∧ ¬ (255 : Int32) < (x &&& 255) := by
  have h := c_mask x 255 8 (by decide) (by decide)
  rw [Int32.lt_iff_toInt_lt, Int32.lt_iff_toInt_lt, h]
  have e1 : (255 : Int32).toInt = 255 := rfl
  have e2 : (0 : Int32).toInt = 0 := rfl
  have e3 : ((2 ^ 8 : Nat) : Int) = 256 := rfl
  rw [e1, e2, e3]
  omega
theorem nar255 (x : Int32) : nar .char (x &&& 255) = x &&& 255 := i2c_mask x
theorem and3 (x : Int32) : x &&& 3 = 0 ∨ x &&& 3 = 1 ∨ x &&& 3 = 2 ∨ x &&& 3 = 3 := by
  have h := c_mask x 3 2 (by decide) (by decide)
  have e3 : ((2 ^ 2 : Nat) : Int) = 4 := rfl
  rw [e3] at h
  have : (x &&& 3).toInt = 0 ∨ (x &&& 3).toInt = 1 ∨ (x &&& 3).toInt = 2 ∨ (x &&& 3).toInt = 3 := by omega
  rcases this with q | q | q | q
  · exact Or.inl (Int32.toInt_inj.mp q)
  · exact Or.inr (Or.inl (Int32.toInt_inj.mp q))
  · exact Or.inr (Or.inr (Or.inl (Int32.toInt_inj.mp q)))
  · exact Or.inr (Or.inr (Or.inr (Int32.toInt_inj.mp q)))
theorem ofn {c : Int32} (h : ¬ c < 0 ∧ ¬ (255 : Int32) < c) : ∃ k : Fin 256, c = Int32.ofNat k.val := by
  have h1 := h.1; have h2 := h.2
  rw [Int32.lt_iff_toInt_lt] at h1 h2
  have e1 : (255 : Int32).toInt = 255 := rfl
  have e2 : (0 : Int32).toInt = 0 := rfl
  rw [e2] at h1; rw [e1] at h2
  refine ⟨⟨c.toInt.toNat, by omega⟩, Int32.toInt_inj.mp ?_⟩
  rw [Int32.toInt_ofNat_small (show c.toInt.toNat < 2 ^ 31 by omega)]
  show c.toInt = ((c.toInt.toNat : Nat) : Int)
  omega
theorem narR {c : Int32} (h : ¬ c < 0 ∧ ¬ (255 : Int32) < c) : nar .char c = c := by
  obtain ⟨k, rfl⟩ := ofn h
  exact (by decide +kernel : ∀ k : Fin 256, nar .char (Int32.ofNat k.val) = Int32.ofNat k.val) k
theorem b8 {c : Int32} (h : ¬ c < 0 ∧ ¬ (255 : Int32) < c) (d : Int32) (hd : ∀ k : Fin 256, (Int32.ofNat k.val).toInt8.toInt32 = d ↔ Int32.ofNat k.val = d) : c.toInt8.toInt32 = d ↔ c = d := by
  obtain ⟨k, rfl⟩ := ofn h
  exact hd k
def EL1 : List (String × Nat) := consts_1
theorem rem6 (x : Int32) : (x &&& (2147483647 : Int32)) % (6 : Int32) = 0 ∨ ((x &&& (2147483647 : Int32)) % (6 : Int32) = 1 ∨ (x &&& (2147483647 : Int32)) % (6 : Int32) = 2 ∨ (x &&& (2147483647 : Int32)) % (6 : Int32) = 3 ∨ (x &&& (2147483647 : Int32)) % (6 : Int32) = 4 ∨ (x &&& (2147483647 : Int32)) % (6 : Int32) = 5) := by
  have h := c_mask x 2147483647 31 (by decide) (by decide)
  have e3 : ((2 ^ 31 : Nat) : Int) = 2147483648 := rfl
  rw [e3] at h
  have q := (c_irem (x &&& 2147483647) 6 6 rfl).1 (by omega)
  simp only [← Int32.toInt_inj]
  have e0 : (0 : Int32).toInt = 0 := rfl
  have e1 : (1 : Int32).toInt = 1 := rfl
  have e2 : (2 : Int32).toInt = 2 := rfl
  have e3 : (3 : Int32).toInt = 3 := rfl
  have e4 : (4 : Int32).toInt = 4 := rfl
  have e5 : (5 : Int32).toInt = 5 := rfl
  rw [e0, e1, e2, e3, e4, e5, q]
  omega
def Cx (a0 : Array Value) (Z : State) (G1 : Int32) (s_BINARY : Addr) (s_CORRUPT : Addr) (s_TRUNCATED : Addr) (s_UNREADABLE : Addr) (s_LINK : Addr) : Prop := (∀ d ∈ tables_1, d.before a0 Z = true) ∧ (Sta Z Z.heap "java/lang/String" "COMPACT_STRINGS" "Z" (.int G1)) ∧ (¬ G1 = (0 : Int32)) ∧ (Sta Z Z.heap "com/example/lynceus/lynceus/SkipReason" "BINARY" "Lcom/example/lynceus/lynceus/SkipReason;" (.ref s_BINARY)) ∧ (Exa Z Z.heap s_BINARY "com/example/lynceus/lynceus/SkipReason") ∧ (Sta Z Z.heap "com/example/lynceus/lynceus/SkipReason" "CORRUPT" "Lcom/example/lynceus/lynceus/SkipReason;" (.ref s_CORRUPT)) ∧ (Exa Z Z.heap s_CORRUPT "com/example/lynceus/lynceus/SkipReason") ∧ (Sta Z Z.heap "com/example/lynceus/lynceus/SkipReason" "TRUNCATED" "Lcom/example/lynceus/lynceus/SkipReason;" (.ref s_TRUNCATED)) ∧ (Exa Z Z.heap s_TRUNCATED "com/example/lynceus/lynceus/SkipReason") ∧ (Sta Z Z.heap "com/example/lynceus/lynceus/SkipReason" "UNREADABLE" "Lcom/example/lynceus/lynceus/SkipReason;" (.ref s_UNREADABLE)) ∧ (Exa Z Z.heap s_UNREADABLE "com/example/lynceus/lynceus/SkipReason") ∧ (Sta Z Z.heap "com/example/lynceus/lynceus/SkipReason" "LINK" "Lcom/example/lynceus/lynceus/SkipReason;" (.ref s_LINK)) ∧ (Exa Z Z.heap s_LINK "com/example/lynceus/lynceus/SkipReason")
def txt (i : Nat) : String := match tables_1[i]? with | some (Jvm.Cond.stringLink _ _ t) => t | _ => ""
theorem w0 {Z : State} {a0 : Array Value} {G1 : Int32} {s_BINARY : Addr} {s_CORRUPT : Addr} {s_TRUNCATED : Addr} {s_UNREADABLE : Addr} {s_LINK : Addr} (cx : Cx a0 Z G1 s_BINARY s_CORRUPT s_TRUNCATED s_UNREADABLE s_LINK) : (Jvm.Cond.constant "com/example/lynceus/lynceus/InputItemIsReadPinLaw" (25 : Nat) (2147483647 : Int32)).before a0 Z = true := cx.1 _ (List.mem_of_getElem? (i := 0) rfl)
theorem w1 {Z : State} {a0 : Array Value} {G1 : Int32} {s_BINARY : Addr} {s_CORRUPT : Addr} {s_TRUNCATED : Addr} {s_UNREADABLE : Addr} {s_LINK : Addr} (cx : Cx a0 Z G1 s_BINARY s_CORRUPT s_TRUNCATED s_UNREADABLE s_LINK) : (Jvm.Cond.methodLink "com/example/lynceus/lynceus/InputItemIsReadPinLaw" (26 : Nat) ({ cls := "com/example/lynceus/lynceus/InputItemIsReadPinLaw", name := "reason", desc := "(I)Lcom/example/lynceus/lynceus/SkipReason;" } : Jvm.MethodName)).before a0 Z = true := cx.1 _ (List.mem_of_getElem? (i := 1) rfl)
theorem w2 {Z : State} {a0 : Array Value} {G1 : Int32} {s_BINARY : Addr} {s_CORRUPT : Addr} {s_TRUNCATED : Addr} {s_UNREADABLE : Addr} {s_LINK : Addr} (cx : Cx a0 Z G1 s_BINARY s_CORRUPT s_TRUNCATED s_UNREADABLE s_LINK) : (Jvm.Cond.static ({ cls := "com/example/lynceus/lynceus/InputItemIsReadPinLaw", name := "reason", desc := "(I)Lcom/example/lynceus/lynceus/SkipReason;" } : Jvm.MethodName)).before a0 Z = true := cx.1 _ (List.mem_of_getElem? (i := 2) rfl)
theorem w3 {Z : State} {a0 : Array Value} {G1 : Int32} {s_BINARY : Addr} {s_CORRUPT : Addr} {s_TRUNCATED : Addr} {s_UNREADABLE : Addr} {s_LINK : Addr} (cx : Cx a0 Z G1 s_BINARY s_CORRUPT s_TRUNCATED s_UNREADABLE s_LINK) : (Jvm.Cond.initialized "com/example/lynceus/lynceus/InputItemIsReadPinLaw").before a0 Z = true := cx.1 _ (List.mem_of_getElem? (i := 3) rfl)
theorem w4 {Z : State} {a0 : Array Value} {G1 : Int32} {s_BINARY : Addr} {s_CORRUPT : Addr} {s_TRUNCATED : Addr} {s_UNREADABLE : Addr} {s_LINK : Addr} (cx : Cx a0 Z G1 s_BINARY s_CORRUPT s_TRUNCATED s_UNREADABLE s_LINK) : (Jvm.Cond.code ({ cls := "com/example/lynceus/lynceus/InputItemIsReadPinLaw", name := "reason", desc := "(I)Lcom/example/lynceus/lynceus/SkipReason;" } : Jvm.MethodName) method_2_code (1 : Nat) (Option.some (Jvm.ClassFile.FieldType.object "com/example/lynceus/lynceus/SkipReason"))).before a0 Z = true := cx.1 _ (List.mem_of_getElem? (i := 4) rfl)
theorem w5 {Z : State} {a0 : Array Value} {G1 : Int32} {s_BINARY : Addr} {s_CORRUPT : Addr} {s_TRUNCATED : Addr} {s_UNREADABLE : Addr} {s_LINK : Addr} (cx : Cx a0 Z G1 s_BINARY s_CORRUPT s_TRUNCATED s_UNREADABLE s_LINK) : (Jvm.Cond.arrayClass Jvm.ClassFile.FieldType.char).before a0 Z = true := cx.1 _ (List.mem_of_getElem? (i := 5) rfl)
theorem w6 {Z : State} {a0 : Array Value} {G1 : Int32} {s_BINARY : Addr} {s_CORRUPT : Addr} {s_TRUNCATED : Addr} {s_UNREADABLE : Addr} {s_LINK : Addr} (cx : Cx a0 Z G1 s_BINARY s_CORRUPT s_TRUNCATED s_UNREADABLE s_LINK) : (Jvm.Cond.classLink "com/example/lynceus/lynceus/InputItemIsReadPinLaw" (32 : Nat) "java/lang/String").before a0 Z = true := cx.1 _ (List.mem_of_getElem? (i := 6) rfl)
theorem w7 {Z : State} {a0 : Array Value} {G1 : Int32} {s_BINARY : Addr} {s_CORRUPT : Addr} {s_TRUNCATED : Addr} {s_UNREADABLE : Addr} {s_LINK : Addr} (cx : Cx a0 Z G1 s_BINARY s_CORRUPT s_TRUNCATED s_UNREADABLE s_LINK) : (Jvm.Cond.instantiable "java/lang/String" (4 : Nat)).before a0 Z = true := cx.1 _ (List.mem_of_getElem? (i := 7) rfl)
theorem w8 {Z : State} {a0 : Array Value} {G1 : Int32} {s_BINARY : Addr} {s_CORRUPT : Addr} {s_TRUNCATED : Addr} {s_UNREADABLE : Addr} {s_LINK : Addr} (cx : Cx a0 Z G1 s_BINARY s_CORRUPT s_TRUNCATED s_UNREADABLE s_LINK) : (Jvm.Cond.initialized "java/lang/String").before a0 Z = true := cx.1 _ (List.mem_of_getElem? (i := 8) rfl)
theorem w9 {Z : State} {a0 : Array Value} {G1 : Int32} {s_BINARY : Addr} {s_CORRUPT : Addr} {s_TRUNCATED : Addr} {s_UNREADABLE : Addr} {s_LINK : Addr} (cx : Cx a0 Z G1 s_BINARY s_CORRUPT s_TRUNCATED s_UNREADABLE s_LINK) : (Jvm.Cond.methodLink "com/example/lynceus/lynceus/InputItemIsReadPinLaw" (34 : Nat) ({ cls := "java/lang/String", name := "<init>", desc := "([C)V" } : Jvm.MethodName)).before a0 Z = true := cx.1 _ (List.mem_of_getElem? (i := 9) rfl)
theorem w10 {Z : State} {a0 : Array Value} {G1 : Int32} {s_BINARY : Addr} {s_CORRUPT : Addr} {s_TRUNCATED : Addr} {s_UNREADABLE : Addr} {s_LINK : Addr} (cx : Cx a0 Z G1 s_BINARY s_CORRUPT s_TRUNCATED s_UNREADABLE s_LINK) : (Jvm.Cond.instanceMethod ({ cls := "java/lang/String", name := "<init>", desc := "([C)V" } : Jvm.MethodName)).before a0 Z = true := cx.1 _ (List.mem_of_getElem? (i := 10) rfl)
theorem w11 {Z : State} {a0 : Array Value} {G1 : Int32} {s_BINARY : Addr} {s_CORRUPT : Addr} {s_TRUNCATED : Addr} {s_UNREADABLE : Addr} {s_LINK : Addr} (cx : Cx a0 Z G1 s_BINARY s_CORRUPT s_TRUNCATED s_UNREADABLE s_LINK) : (Jvm.Cond.code ({ cls := "java/lang/String", name := "<init>", desc := "([C)V" } : Jvm.MethodName) jdk_42_method_3_code (2 : Nat) (Option.none : Option Jvm.ClassFile.FieldType)).before a0 Z = true := cx.1 _ (List.mem_of_getElem? (i := 11) rfl)
theorem w12 {Z : State} {a0 : Array Value} {G1 : Int32} {s_BINARY : Addr} {s_CORRUPT : Addr} {s_TRUNCATED : Addr} {s_UNREADABLE : Addr} {s_LINK : Addr} (cx : Cx a0 Z G1 s_BINARY s_CORRUPT s_TRUNCATED s_UNREADABLE s_LINK) : (Jvm.Cond.methodLink "java/lang/String" (27 : Nat) ({ cls := "java/lang/String", name := "<init>", desc := "([CIILjava/lang/Void;)V" } : Jvm.MethodName)).before a0 Z = true := cx.1 _ (List.mem_of_getElem? (i := 12) rfl)
theorem w13 {Z : State} {a0 : Array Value} {G1 : Int32} {s_BINARY : Addr} {s_CORRUPT : Addr} {s_TRUNCATED : Addr} {s_UNREADABLE : Addr} {s_LINK : Addr} (cx : Cx a0 Z G1 s_BINARY s_CORRUPT s_TRUNCATED s_UNREADABLE s_LINK) : (Jvm.Cond.instanceMethod ({ cls := "java/lang/String", name := "<init>", desc := "([CIILjava/lang/Void;)V" } : Jvm.MethodName)).before a0 Z = true := cx.1 _ (List.mem_of_getElem? (i := 13) rfl)
theorem w15 {Z : State} {a0 : Array Value} {G1 : Int32} {s_BINARY : Addr} {s_CORRUPT : Addr} {s_TRUNCATED : Addr} {s_UNREADABLE : Addr} {s_LINK : Addr} (cx : Cx a0 Z G1 s_BINARY s_CORRUPT s_TRUNCATED s_UNREADABLE s_LINK) : (Jvm.Cond.code ({ cls := "java/lang/String", name := "<init>", desc := "([CIILjava/lang/Void;)V" } : Jvm.MethodName) jdk_42_method_149_code (6 : Nat) (Option.none : Option Jvm.ClassFile.FieldType)).before a0 Z = true := cx.1 _ (List.mem_of_getElem? (i := 15) rfl)
theorem w16 {Z : State} {a0 : Array Value} {G1 : Int32} {s_BINARY : Addr} {s_CORRUPT : Addr} {s_TRUNCATED : Addr} {s_UNREADABLE : Addr} {s_LINK : Addr} (cx : Cx a0 Z G1 s_BINARY s_CORRUPT s_TRUNCATED s_UNREADABLE s_LINK) : (Jvm.Cond.methodLink "java/lang/String" (1 : Nat) ({ cls := "java/lang/Object", name := "<init>", desc := "()V" } : Jvm.MethodName)).before a0 Z = true := cx.1 _ (List.mem_of_getElem? (i := 16) rfl)
theorem w17 {Z : State} {a0 : Array Value} {G1 : Int32} {s_BINARY : Addr} {s_CORRUPT : Addr} {s_TRUNCATED : Addr} {s_UNREADABLE : Addr} {s_LINK : Addr} (cx : Cx a0 Z G1 s_BINARY s_CORRUPT s_TRUNCATED s_UNREADABLE s_LINK) : (Jvm.Cond.instanceMethod ({ cls := "java/lang/Object", name := "<init>", desc := "()V" } : Jvm.MethodName)).before a0 Z = true := cx.1 _ (List.mem_of_getElem? (i := 17) rfl)
theorem w18 {Z : State} {a0 : Array Value} {G1 : Int32} {s_BINARY : Addr} {s_CORRUPT : Addr} {s_TRUNCATED : Addr} {s_UNREADABLE : Addr} {s_LINK : Addr} (cx : Cx a0 Z G1 s_BINARY s_CORRUPT s_TRUNCATED s_UNREADABLE s_LINK) : (Jvm.Cond.code ({ cls := "java/lang/Object", name := "<init>", desc := "()V" } : Jvm.MethodName) object_method_1_code (1 : Nat) (Option.none : Option Jvm.ClassFile.FieldType)).before a0 Z = true := cx.1 _ (List.mem_of_getElem? (i := 18) rfl)
theorem w31 {Z : State} {a0 : Array Value} {G1 : Int32} {s_BINARY : Addr} {s_CORRUPT : Addr} {s_TRUNCATED : Addr} {s_UNREADABLE : Addr} {s_LINK : Addr} (cx : Cx a0 Z G1 s_BINARY s_CORRUPT s_TRUNCATED s_UNREADABLE s_LINK) : (Jvm.Cond.fieldLink "java/lang/String" (15 : Nat) "java/lang/String" "coder" "B").before a0 Z = true := cx.1 _ (List.mem_of_getElem? (i := 31) rfl)
theorem w32 {Z : State} {a0 : Array Value} {G1 : Int32} {s_BINARY : Addr} {s_CORRUPT : Addr} {s_TRUNCATED : Addr} {s_UNREADABLE : Addr} {s_LINK : Addr} (cx : Cx a0 Z G1 s_BINARY s_CORRUPT s_TRUNCATED s_UNREADABLE s_LINK) : (Jvm.Cond.laysFinal "java/lang/String" "java/lang/String" "coder" "B").before a0 Z = true := cx.1 _ (List.mem_of_getElem? (i := 32) rfl)
theorem w33 {Z : State} {a0 : Array Value} {G1 : Int32} {s_BINARY : Addr} {s_CORRUPT : Addr} {s_TRUNCATED : Addr} {s_UNREADABLE : Addr} {s_LINK : Addr} (cx : Cx a0 Z G1 s_BINARY s_CORRUPT s_TRUNCATED s_UNREADABLE s_LINK) : (Jvm.Cond.fieldLink "java/lang/String" (9 : Nat) "java/lang/String" "value" "[B").before a0 Z = true := cx.1 _ (List.mem_of_getElem? (i := 33) rfl)
theorem w34 {Z : State} {a0 : Array Value} {G1 : Int32} {s_BINARY : Addr} {s_CORRUPT : Addr} {s_TRUNCATED : Addr} {s_UNREADABLE : Addr} {s_LINK : Addr} (cx : Cx a0 Z G1 s_BINARY s_CORRUPT s_TRUNCATED s_UNREADABLE s_LINK) : (Jvm.Cond.laysFinal "java/lang/String" "java/lang/String" "value" "[B").before a0 Z = true := cx.1 _ (List.mem_of_getElem? (i := 34) rfl)
theorem w35 {Z : State} {a0 : Array Value} {G1 : Int32} {s_BINARY : Addr} {s_CORRUPT : Addr} {s_TRUNCATED : Addr} {s_UNREADABLE : Addr} {s_LINK : Addr} (cx : Cx a0 Z G1 s_BINARY s_CORRUPT s_TRUNCATED s_UNREADABLE s_LINK) : (Jvm.Cond.classLink "com/example/lynceus/lynceus/InputItemIsReadPinLaw" (37 : Nat) "com/example/lynceus/lynceus/InputItem").before a0 Z = true := cx.1 _ (List.mem_of_getElem? (i := 35) rfl)
theorem w36 {Z : State} {a0 : Array Value} {G1 : Int32} {s_BINARY : Addr} {s_CORRUPT : Addr} {s_TRUNCATED : Addr} {s_UNREADABLE : Addr} {s_LINK : Addr} (cx : Cx a0 Z G1 s_BINARY s_CORRUPT s_TRUNCATED s_UNREADABLE s_LINK) : (Jvm.Cond.instantiable "com/example/lynceus/lynceus/InputItem" (2 : Nat)).before a0 Z = true := cx.1 _ (List.mem_of_getElem? (i := 36) rfl)
theorem w37 {Z : State} {a0 : Array Value} {G1 : Int32} {s_BINARY : Addr} {s_CORRUPT : Addr} {s_TRUNCATED : Addr} {s_UNREADABLE : Addr} {s_LINK : Addr} (cx : Cx a0 Z G1 s_BINARY s_CORRUPT s_TRUNCATED s_UNREADABLE s_LINK) : (Jvm.Cond.initialized "com/example/lynceus/lynceus/InputItem").before a0 Z = true := cx.1 _ (List.mem_of_getElem? (i := 37) rfl)
theorem w38 {Z : State} {a0 : Array Value} {G1 : Int32} {s_BINARY : Addr} {s_CORRUPT : Addr} {s_TRUNCATED : Addr} {s_UNREADABLE : Addr} {s_LINK : Addr} (cx : Cx a0 Z G1 s_BINARY s_CORRUPT s_TRUNCATED s_UNREADABLE s_LINK) : (Jvm.Cond.methodLink "com/example/lynceus/lynceus/InputItemIsReadPinLaw" (39 : Nat) ({ cls := "com/example/lynceus/lynceus/InputItem", name := "<init>", desc := "(Ljava/lang/String;Lcom/example/lynceus/lynceus/SkipReason;)V" } : Jvm.MethodName)).before a0 Z = true := cx.1 _ (List.mem_of_getElem? (i := 38) rfl)
theorem w39 {Z : State} {a0 : Array Value} {G1 : Int32} {s_BINARY : Addr} {s_CORRUPT : Addr} {s_TRUNCATED : Addr} {s_UNREADABLE : Addr} {s_LINK : Addr} (cx : Cx a0 Z G1 s_BINARY s_CORRUPT s_TRUNCATED s_UNREADABLE s_LINK) : (Jvm.Cond.instanceMethod ({ cls := "com/example/lynceus/lynceus/InputItem", name := "<init>", desc := "(Ljava/lang/String;Lcom/example/lynceus/lynceus/SkipReason;)V" } : Jvm.MethodName)).before a0 Z = true := cx.1 _ (List.mem_of_getElem? (i := 39) rfl)
theorem w40 {Z : State} {a0 : Array Value} {G1 : Int32} {s_BINARY : Addr} {s_CORRUPT : Addr} {s_TRUNCATED : Addr} {s_UNREADABLE : Addr} {s_LINK : Addr} (cx : Cx a0 Z G1 s_BINARY s_CORRUPT s_TRUNCATED s_UNREADABLE s_LINK) : (Jvm.Cond.code ({ cls := "com/example/lynceus/lynceus/InputItem", name := "<init>", desc := "(Ljava/lang/String;Lcom/example/lynceus/lynceus/SkipReason;)V" } : Jvm.MethodName) prog_8_method_1_code (3 : Nat) (Option.none : Option Jvm.ClassFile.FieldType)).before a0 Z = true := cx.1 _ (List.mem_of_getElem? (i := 40) rfl)
theorem w41 {Z : State} {a0 : Array Value} {G1 : Int32} {s_BINARY : Addr} {s_CORRUPT : Addr} {s_TRUNCATED : Addr} {s_UNREADABLE : Addr} {s_LINK : Addr} (cx : Cx a0 Z G1 s_BINARY s_CORRUPT s_TRUNCATED s_UNREADABLE s_LINK) : (Jvm.Cond.methodLink "com/example/lynceus/lynceus/InputItem" (1 : Nat) ({ cls := "java/lang/Record", name := "<init>", desc := "()V" } : Jvm.MethodName)).before a0 Z = true := cx.1 _ (List.mem_of_getElem? (i := 41) rfl)
theorem w42 {Z : State} {a0 : Array Value} {G1 : Int32} {s_BINARY : Addr} {s_CORRUPT : Addr} {s_TRUNCATED : Addr} {s_UNREADABLE : Addr} {s_LINK : Addr} (cx : Cx a0 Z G1 s_BINARY s_CORRUPT s_TRUNCATED s_UNREADABLE s_LINK) : (Jvm.Cond.instanceMethod ({ cls := "java/lang/Record", name := "<init>", desc := "()V" } : Jvm.MethodName)).before a0 Z = true := cx.1 _ (List.mem_of_getElem? (i := 42) rfl)
theorem w44 {Z : State} {a0 : Array Value} {G1 : Int32} {s_BINARY : Addr} {s_CORRUPT : Addr} {s_TRUNCATED : Addr} {s_UNREADABLE : Addr} {s_LINK : Addr} (cx : Cx a0 Z G1 s_BINARY s_CORRUPT s_TRUNCATED s_UNREADABLE s_LINK) : (Jvm.Cond.initialized "java/lang/Record").before a0 Z = true := cx.1 _ (List.mem_of_getElem? (i := 44) rfl)
theorem w45 {Z : State} {a0 : Array Value} {G1 : Int32} {s_BINARY : Addr} {s_CORRUPT : Addr} {s_TRUNCATED : Addr} {s_UNREADABLE : Addr} {s_LINK : Addr} (cx : Cx a0 Z G1 s_BINARY s_CORRUPT s_TRUNCATED s_UNREADABLE s_LINK) : (Jvm.Cond.code ({ cls := "java/lang/Record", name := "<init>", desc := "()V" } : Jvm.MethodName) jdk_30_method_1_code (1 : Nat) (Option.none : Option Jvm.ClassFile.FieldType)).before a0 Z = true := cx.1 _ (List.mem_of_getElem? (i := 45) rfl)
theorem w46 {Z : State} {a0 : Array Value} {G1 : Int32} {s_BINARY : Addr} {s_CORRUPT : Addr} {s_TRUNCATED : Addr} {s_UNREADABLE : Addr} {s_LINK : Addr} (cx : Cx a0 Z G1 s_BINARY s_CORRUPT s_TRUNCATED s_UNREADABLE s_LINK) : (Jvm.Cond.methodLink "java/lang/Record" (1 : Nat) ({ cls := "java/lang/Object", name := "<init>", desc := "()V" } : Jvm.MethodName)).before a0 Z = true := cx.1 _ (List.mem_of_getElem? (i := 46) rfl)
theorem w47 {Z : State} {a0 : Array Value} {G1 : Int32} {s_BINARY : Addr} {s_CORRUPT : Addr} {s_TRUNCATED : Addr} {s_UNREADABLE : Addr} {s_LINK : Addr} (cx : Cx a0 Z G1 s_BINARY s_CORRUPT s_TRUNCATED s_UNREADABLE s_LINK) : (Jvm.Cond.stringLink "com/example/lynceus/lynceus/InputItem" (7 : Nat) (txt 47)).before a0 Z = true := cx.1 _ (List.mem_of_getElem? (i := 47) rfl)
theorem w50 {Z : State} {a0 : Array Value} {G1 : Int32} {s_BINARY : Addr} {s_CORRUPT : Addr} {s_TRUNCATED : Addr} {s_UNREADABLE : Addr} {s_LINK : Addr} (cx : Cx a0 Z G1 s_BINARY s_CORRUPT s_TRUNCATED s_UNREADABLE s_LINK) : (Jvm.Cond.methodLink "com/example/lynceus/lynceus/InputItem" (9 : Nat) ({ cls := "java/util/Objects", name := "requireNonNull", desc := "(Ljava/lang/Object;Ljava/lang/String;)Ljava/lang/Object;" } : Jvm.MethodName)).before a0 Z = true := cx.1 _ (List.mem_of_getElem? (i := 50) rfl)
theorem w51 {Z : State} {a0 : Array Value} {G1 : Int32} {s_BINARY : Addr} {s_CORRUPT : Addr} {s_TRUNCATED : Addr} {s_UNREADABLE : Addr} {s_LINK : Addr} (cx : Cx a0 Z G1 s_BINARY s_CORRUPT s_TRUNCATED s_UNREADABLE s_LINK) : (Jvm.Cond.static ({ cls := "java/util/Objects", name := "requireNonNull", desc := "(Ljava/lang/Object;Ljava/lang/String;)Ljava/lang/Object;" } : Jvm.MethodName)).before a0 Z = true := cx.1 _ (List.mem_of_getElem? (i := 51) rfl)
theorem w52 {Z : State} {a0 : Array Value} {G1 : Int32} {s_BINARY : Addr} {s_CORRUPT : Addr} {s_TRUNCATED : Addr} {s_UNREADABLE : Addr} {s_LINK : Addr} (cx : Cx a0 Z G1 s_BINARY s_CORRUPT s_TRUNCATED s_UNREADABLE s_LINK) : (Jvm.Cond.initialized "java/util/Objects").before a0 Z = true := cx.1 _ (List.mem_of_getElem? (i := 52) rfl)
theorem w53 {Z : State} {a0 : Array Value} {G1 : Int32} {s_BINARY : Addr} {s_CORRUPT : Addr} {s_TRUNCATED : Addr} {s_UNREADABLE : Addr} {s_LINK : Addr} (cx : Cx a0 Z G1 s_BINARY s_CORRUPT s_TRUNCATED s_UNREADABLE s_LINK) : (Jvm.Cond.code ({ cls := "java/util/Objects", name := "requireNonNull", desc := "(Ljava/lang/Object;Ljava/lang/String;)Ljava/lang/Object;" } : Jvm.MethodName) jdk_31_method_11_code (2 : Nat) (Option.some (Jvm.ClassFile.FieldType.object "java/lang/Object"))).before a0 Z = true := cx.1 _ (List.mem_of_getElem? (i := 53) rfl)
theorem w54 {Z : State} {a0 : Array Value} {G1 : Int32} {s_BINARY : Addr} {s_CORRUPT : Addr} {s_TRUNCATED : Addr} {s_UNREADABLE : Addr} {s_LINK : Addr} (cx : Cx a0 Z G1 s_BINARY s_CORRUPT s_TRUNCATED s_UNREADABLE s_LINK) : (Jvm.Cond.fieldLink "com/example/lynceus/lynceus/InputItem" (15 : Nat) "com/example/lynceus/lynceus/InputItem" "name" "Ljava/lang/String;").before a0 Z = true := cx.1 _ (List.mem_of_getElem? (i := 54) rfl)
theorem w55 {Z : State} {a0 : Array Value} {G1 : Int32} {s_BINARY : Addr} {s_CORRUPT : Addr} {s_TRUNCATED : Addr} {s_UNREADABLE : Addr} {s_LINK : Addr} (cx : Cx a0 Z G1 s_BINARY s_CORRUPT s_TRUNCATED s_UNREADABLE s_LINK) : (Jvm.Cond.laysFinal "com/example/lynceus/lynceus/InputItem" "com/example/lynceus/lynceus/InputItem" "name" "Ljava/lang/String;").before a0 Z = true := cx.1 _ (List.mem_of_getElem? (i := 55) rfl)
theorem w56 {Z : State} {a0 : Array Value} {G1 : Int32} {s_BINARY : Addr} {s_CORRUPT : Addr} {s_TRUNCATED : Addr} {s_UNREADABLE : Addr} {s_LINK : Addr} (cx : Cx a0 Z G1 s_BINARY s_CORRUPT s_TRUNCATED s_UNREADABLE s_LINK) : (Jvm.Cond.fieldLink "com/example/lynceus/lynceus/InputItem" (20 : Nat) "com/example/lynceus/lynceus/InputItem" "skipped" "Lcom/example/lynceus/lynceus/SkipReason;").before a0 Z = true := cx.1 _ (List.mem_of_getElem? (i := 56) rfl)
theorem w57 {Z : State} {a0 : Array Value} {G1 : Int32} {s_BINARY : Addr} {s_CORRUPT : Addr} {s_TRUNCATED : Addr} {s_UNREADABLE : Addr} {s_LINK : Addr} (cx : Cx a0 Z G1 s_BINARY s_CORRUPT s_TRUNCATED s_UNREADABLE s_LINK) : (Jvm.Cond.laysFinal "com/example/lynceus/lynceus/InputItem" "com/example/lynceus/lynceus/InputItem" "skipped" "Lcom/example/lynceus/lynceus/SkipReason;").before a0 Z = true := cx.1 _ (List.mem_of_getElem? (i := 57) rfl)
theorem w58 {Z : State} {a0 : Array Value} {G1 : Int32} {s_BINARY : Addr} {s_CORRUPT : Addr} {s_TRUNCATED : Addr} {s_UNREADABLE : Addr} {s_LINK : Addr} (cx : Cx a0 Z G1 s_BINARY s_CORRUPT s_TRUNCATED s_UNREADABLE s_LINK) : (Jvm.Cond.methodLink "com/example/lynceus/lynceus/InputItemIsReadPinLaw" (42 : Nat) ({ cls := "com/example/lynceus/lynceus/InputItem", name := "isRead", desc := "()Z" } : Jvm.MethodName)).before a0 Z = true := cx.1 _ (List.mem_of_getElem? (i := 58) rfl)
theorem w59 {Z : State} {a0 : Array Value} {G1 : Int32} {s_BINARY : Addr} {s_CORRUPT : Addr} {s_TRUNCATED : Addr} {s_UNREADABLE : Addr} {s_LINK : Addr} (cx : Cx a0 Z G1 s_BINARY s_CORRUPT s_TRUNCATED s_UNREADABLE s_LINK) : (Jvm.Cond.declares ({ cls := "com/example/lynceus/lynceus/InputItem", name := "isRead", desc := "()Z" } : Jvm.MethodName)).before a0 Z = true := cx.1 _ (List.mem_of_getElem? (i := 59) rfl)
theorem w60 {Z : State} {a0 : Array Value} {G1 : Int32} {s_BINARY : Addr} {s_CORRUPT : Addr} {s_TRUNCATED : Addr} {s_UNREADABLE : Addr} {s_LINK : Addr} (cx : Cx a0 Z G1 s_BINARY s_CORRUPT s_TRUNCATED s_UNREADABLE s_LINK) : (Jvm.Cond.instanceMethod ({ cls := "com/example/lynceus/lynceus/InputItem", name := "isRead", desc := "()Z" } : Jvm.MethodName)).before a0 Z = true := cx.1 _ (List.mem_of_getElem? (i := 60) rfl)
theorem w61 {Z : State} {a0 : Array Value} {G1 : Int32} {s_BINARY : Addr} {s_CORRUPT : Addr} {s_TRUNCATED : Addr} {s_UNREADABLE : Addr} {s_LINK : Addr} (cx : Cx a0 Z G1 s_BINARY s_CORRUPT s_TRUNCATED s_UNREADABLE s_LINK) : (Jvm.Cond.selects "com/example/lynceus/lynceus/InputItem" ({ cls := "com/example/lynceus/lynceus/InputItem", name := "isRead", desc := "()Z" } : Jvm.MethodName) ({ cls := "com/example/lynceus/lynceus/InputItem", name := "isRead", desc := "()Z" } : Jvm.MethodName)).before a0 Z = true := cx.1 _ (List.mem_of_getElem? (i := 61) rfl)
theorem w62 {Z : State} {a0 : Array Value} {G1 : Int32} {s_BINARY : Addr} {s_CORRUPT : Addr} {s_TRUNCATED : Addr} {s_UNREADABLE : Addr} {s_LINK : Addr} (cx : Cx a0 Z G1 s_BINARY s_CORRUPT s_TRUNCATED s_UNREADABLE s_LINK) : (Jvm.Cond.code ({ cls := "com/example/lynceus/lynceus/InputItem", name := "isRead", desc := "()Z" } : Jvm.MethodName) prog_8_method_4_code (1 : Nat) (Option.some Jvm.ClassFile.FieldType.boolean)).before a0 Z = true := cx.1 _ (List.mem_of_getElem? (i := 62) rfl)
theorem w63 {Z : State} {a0 : Array Value} {G1 : Int32} {s_BINARY : Addr} {s_CORRUPT : Addr} {s_TRUNCATED : Addr} {s_UNREADABLE : Addr} {s_LINK : Addr} (cx : Cx a0 Z G1 s_BINARY s_CORRUPT s_TRUNCATED s_UNREADABLE s_LINK) : (Jvm.Cond.methodLink "com/example/lynceus/lynceus/InputItemIsReadPinLaw" (46 : Nat) ({ cls := "com/example/lynceus/lynceus/InputItem", name := "read", desc := "(Ljava/lang/String;)Lcom/example/lynceus/lynceus/InputItem;" } : Jvm.MethodName)).before a0 Z = true := cx.1 _ (List.mem_of_getElem? (i := 63) rfl)
theorem w64 {Z : State} {a0 : Array Value} {G1 : Int32} {s_BINARY : Addr} {s_CORRUPT : Addr} {s_TRUNCATED : Addr} {s_UNREADABLE : Addr} {s_LINK : Addr} (cx : Cx a0 Z G1 s_BINARY s_CORRUPT s_TRUNCATED s_UNREADABLE s_LINK) : (Jvm.Cond.static ({ cls := "com/example/lynceus/lynceus/InputItem", name := "read", desc := "(Ljava/lang/String;)Lcom/example/lynceus/lynceus/InputItem;" } : Jvm.MethodName)).before a0 Z = true := cx.1 _ (List.mem_of_getElem? (i := 64) rfl)
theorem w65 {Z : State} {a0 : Array Value} {G1 : Int32} {s_BINARY : Addr} {s_CORRUPT : Addr} {s_TRUNCATED : Addr} {s_UNREADABLE : Addr} {s_LINK : Addr} (cx : Cx a0 Z G1 s_BINARY s_CORRUPT s_TRUNCATED s_UNREADABLE s_LINK) : (Jvm.Cond.code ({ cls := "com/example/lynceus/lynceus/InputItem", name := "read", desc := "(Ljava/lang/String;)Lcom/example/lynceus/lynceus/InputItem;" } : Jvm.MethodName) prog_8_method_2_code (1 : Nat) (Option.some (Jvm.ClassFile.FieldType.object "com/example/lynceus/lynceus/InputItem"))).before a0 Z = true := cx.1 _ (List.mem_of_getElem? (i := 65) rfl)
theorem w66 {Z : State} {a0 : Array Value} {G1 : Int32} {s_BINARY : Addr} {s_CORRUPT : Addr} {s_TRUNCATED : Addr} {s_UNREADABLE : Addr} {s_LINK : Addr} (cx : Cx a0 Z G1 s_BINARY s_CORRUPT s_TRUNCATED s_UNREADABLE s_LINK) : (Jvm.Cond.classLink "com/example/lynceus/lynceus/InputItem" (16 : Nat) "com/example/lynceus/lynceus/InputItem").before a0 Z = true := cx.1 _ (List.mem_of_getElem? (i := 66) rfl)
theorem w67 {Z : State} {a0 : Array Value} {G1 : Int32} {s_BINARY : Addr} {s_CORRUPT : Addr} {s_TRUNCATED : Addr} {s_UNREADABLE : Addr} {s_LINK : Addr} (cx : Cx a0 Z G1 s_BINARY s_CORRUPT s_TRUNCATED s_UNREADABLE s_LINK) : (Jvm.Cond.methodLink "com/example/lynceus/lynceus/InputItem" (24 : Nat) ({ cls := "com/example/lynceus/lynceus/InputItem", name := "<init>", desc := "(Ljava/lang/String;Lcom/example/lynceus/lynceus/SkipReason;)V" } : Jvm.MethodName)).before a0 Z = true := cx.1 _ (List.mem_of_getElem? (i := 67) rfl)
theorem w68 {Z : State} {a0 : Array Value} {G1 : Int32} {s_BINARY : Addr} {s_CORRUPT : Addr} {s_TRUNCATED : Addr} {s_UNREADABLE : Addr} {s_LINK : Addr} (cx : Cx a0 Z G1 s_BINARY s_CORRUPT s_TRUNCATED s_UNREADABLE s_LINK) : (Jvm.Cond.stringLink "java/lang/String" (7 : Nat) (txt 68)).before a0 Z = true := cx.1 _ (List.mem_of_getElem? (i := 68) rfl)
theorem w69 {Z : State} {a0 : Array Value} {G1 : Int32} {s_BINARY : Addr} {s_CORRUPT : Addr} {s_TRUNCATED : Addr} {s_UNREADABLE : Addr} {s_LINK : Addr} (cx : Cx a0 Z G1 s_BINARY s_CORRUPT s_TRUNCATED s_UNREADABLE s_LINK) : (Jvm.Cond.fieldLink "com/example/lynceus/lynceus/InputItemIsReadPinLaw" (7 : Nat) "com/example/lynceus/lynceus/SkipReason" "BINARY" "Lcom/example/lynceus/lynceus/SkipReason;").before a0 Z = true := cx.1 _ (List.mem_of_getElem? (i := 69) rfl)
theorem w72 {Z : State} {a0 : Array Value} {G1 : Int32} {s_BINARY : Addr} {s_CORRUPT : Addr} {s_TRUNCATED : Addr} {s_UNREADABLE : Addr} {s_LINK : Addr} (cx : Cx a0 Z G1 s_BINARY s_CORRUPT s_TRUNCATED s_UNREADABLE s_LINK) : (Jvm.Cond.methodLink "com/example/lynceus/lynceus/InputItemIsReadPinLaw" (50 : Nat) ({ cls := "com/example/lynceus/lynceus/InputItem", name := "skipped", desc := "(Ljava/lang/String;Lcom/example/lynceus/lynceus/SkipReason;)Lcom/example/lynceus/lynceus/InputItem;" } : Jvm.MethodName)).before a0 Z = true := cx.1 _ (List.mem_of_getElem? (i := 72) rfl)
theorem w73 {Z : State} {a0 : Array Value} {G1 : Int32} {s_BINARY : Addr} {s_CORRUPT : Addr} {s_TRUNCATED : Addr} {s_UNREADABLE : Addr} {s_LINK : Addr} (cx : Cx a0 Z G1 s_BINARY s_CORRUPT s_TRUNCATED s_UNREADABLE s_LINK) : (Jvm.Cond.static ({ cls := "com/example/lynceus/lynceus/InputItem", name := "skipped", desc := "(Ljava/lang/String;Lcom/example/lynceus/lynceus/SkipReason;)Lcom/example/lynceus/lynceus/InputItem;" } : Jvm.MethodName)).before a0 Z = true := cx.1 _ (List.mem_of_getElem? (i := 73) rfl)
theorem w74 {Z : State} {a0 : Array Value} {G1 : Int32} {s_BINARY : Addr} {s_CORRUPT : Addr} {s_TRUNCATED : Addr} {s_UNREADABLE : Addr} {s_LINK : Addr} (cx : Cx a0 Z G1 s_BINARY s_CORRUPT s_TRUNCATED s_UNREADABLE s_LINK) : (Jvm.Cond.code ({ cls := "com/example/lynceus/lynceus/InputItem", name := "skipped", desc := "(Ljava/lang/String;Lcom/example/lynceus/lynceus/SkipReason;)Lcom/example/lynceus/lynceus/InputItem;" } : Jvm.MethodName) prog_8_method_3_code (2 : Nat) (Option.some (Jvm.ClassFile.FieldType.object "com/example/lynceus/lynceus/InputItem"))).before a0 Z = true := cx.1 _ (List.mem_of_getElem? (i := 74) rfl)
theorem w75 {Z : State} {a0 : Array Value} {G1 : Int32} {s_BINARY : Addr} {s_CORRUPT : Addr} {s_TRUNCATED : Addr} {s_UNREADABLE : Addr} {s_LINK : Addr} (cx : Cx a0 Z G1 s_BINARY s_CORRUPT s_TRUNCATED s_UNREADABLE s_LINK) : (Jvm.Cond.stringLink "com/example/lynceus/lynceus/InputItem" (27 : Nat) (txt 75)).before a0 Z = true := cx.1 _ (List.mem_of_getElem? (i := 75) rfl)
theorem w76 {Z : State} {a0 : Array Value} {G1 : Int32} {s_BINARY : Addr} {s_CORRUPT : Addr} {s_TRUNCATED : Addr} {s_UNREADABLE : Addr} {s_LINK : Addr} (cx : Cx a0 Z G1 s_BINARY s_CORRUPT s_TRUNCATED s_UNREADABLE s_LINK) : (Jvm.Cond.classLink "com/example/lynceus/lynceus/InputItem" (29 : Nat) "com/example/lynceus/lynceus/SkipReason").before a0 Z = true := cx.1 _ (List.mem_of_getElem? (i := 76) rfl)
theorem w78 {Z : State} {a0 : Array Value} {G1 : Int32} {s_BINARY : Addr} {s_CORRUPT : Addr} {s_TRUNCATED : Addr} {s_UNREADABLE : Addr} {s_LINK : Addr} (cx : Cx a0 Z G1 s_BINARY s_CORRUPT s_TRUNCATED s_UNREADABLE s_LINK) : (Jvm.Cond.fieldLink "com/example/lynceus/lynceus/InputItemIsReadPinLaw" (19 : Nat) "com/example/lynceus/lynceus/SkipReason" "CORRUPT" "Lcom/example/lynceus/lynceus/SkipReason;").before a0 Z = true := cx.1 _ (List.mem_of_getElem? (i := 78) rfl)
theorem w80 {Z : State} {a0 : Array Value} {G1 : Int32} {s_BINARY : Addr} {s_CORRUPT : Addr} {s_TRUNCATED : Addr} {s_UNREADABLE : Addr} {s_LINK : Addr} (cx : Cx a0 Z G1 s_BINARY s_CORRUPT s_TRUNCATED s_UNREADABLE s_LINK) : (Jvm.Cond.fieldLink "com/example/lynceus/lynceus/InputItemIsReadPinLaw" (16 : Nat) "com/example/lynceus/lynceus/SkipReason" "TRUNCATED" "Lcom/example/lynceus/lynceus/SkipReason;").before a0 Z = true := cx.1 _ (List.mem_of_getElem? (i := 80) rfl)
theorem w82 {Z : State} {a0 : Array Value} {G1 : Int32} {s_BINARY : Addr} {s_CORRUPT : Addr} {s_TRUNCATED : Addr} {s_UNREADABLE : Addr} {s_LINK : Addr} (cx : Cx a0 Z G1 s_BINARY s_CORRUPT s_TRUNCATED s_UNREADABLE s_LINK) : (Jvm.Cond.fieldLink "com/example/lynceus/lynceus/InputItemIsReadPinLaw" (22 : Nat) "com/example/lynceus/lynceus/SkipReason" "UNREADABLE" "Lcom/example/lynceus/lynceus/SkipReason;").before a0 Z = true := cx.1 _ (List.mem_of_getElem? (i := 82) rfl)
theorem w84 {Z : State} {a0 : Array Value} {G1 : Int32} {s_BINARY : Addr} {s_CORRUPT : Addr} {s_TRUNCATED : Addr} {s_UNREADABLE : Addr} {s_LINK : Addr} (cx : Cx a0 Z G1 s_BINARY s_CORRUPT s_TRUNCATED s_UNREADABLE s_LINK) : (Jvm.Cond.fieldLink "com/example/lynceus/lynceus/InputItemIsReadPinLaw" (13 : Nat) "com/example/lynceus/lynceus/SkipReason" "LINK" "Lcom/example/lynceus/lynceus/SkipReason;").before a0 Z = true := cx.1 _ (List.mem_of_getElem? (i := 84) rfl)
theorem S_C {Z : State} {a0 : Array Value} {G1 : Int32} {s_BINARY : Addr} {s_CORRUPT : Addr} {s_TRUNCATED : Addr} {s_UNREADABLE : Addr} {s_LINK : Addr} (cx : Cx a0 Z G1 s_BINARY s_CORRUPT s_TRUNCATED s_UNREADABLE s_LINK) : Sta Z Z.heap "java/lang/String" "COMPACT_STRINGS" "Z" (.int G1) := cx.2.1
theorem N_C {Z : State} {a0 : Array Value} {G1 : Int32} {s_BINARY : Addr} {s_CORRUPT : Addr} {s_TRUNCATED : Addr} {s_UNREADABLE : Addr} {s_LINK : Addr} (cx : Cx a0 Z G1 s_BINARY s_CORRUPT s_TRUNCATED s_UNREADABLE s_LINK) : ¬ G1 = (0 : Int32) := cx.2.2.1
theorem S_BINARY {Z : State} {a0 : Array Value} {G1 : Int32} {s_BINARY : Addr} {s_CORRUPT : Addr} {s_TRUNCATED : Addr} {s_UNREADABLE : Addr} {s_LINK : Addr} (cx : Cx a0 Z G1 s_BINARY s_CORRUPT s_TRUNCATED s_UNREADABLE s_LINK) : Sta Z Z.heap "com/example/lynceus/lynceus/SkipReason" "BINARY" "Lcom/example/lynceus/lynceus/SkipReason;" (.ref s_BINARY) := cx.2.2.2.1
theorem E_BINARY {Z : State} {a0 : Array Value} {G1 : Int32} {s_BINARY : Addr} {s_CORRUPT : Addr} {s_TRUNCATED : Addr} {s_UNREADABLE : Addr} {s_LINK : Addr} (cx : Cx a0 Z G1 s_BINARY s_CORRUPT s_TRUNCATED s_UNREADABLE s_LINK) : Exa Z Z.heap s_BINARY "com/example/lynceus/lynceus/SkipReason" := cx.2.2.2.2.1
theorem S_CORRUPT {Z : State} {a0 : Array Value} {G1 : Int32} {s_BINARY : Addr} {s_CORRUPT : Addr} {s_TRUNCATED : Addr} {s_UNREADABLE : Addr} {s_LINK : Addr} (cx : Cx a0 Z G1 s_BINARY s_CORRUPT s_TRUNCATED s_UNREADABLE s_LINK) : Sta Z Z.heap "com/example/lynceus/lynceus/SkipReason" "CORRUPT" "Lcom/example/lynceus/lynceus/SkipReason;" (.ref s_CORRUPT) := cx.2.2.2.2.2.1
theorem E_CORRUPT {Z : State} {a0 : Array Value} {G1 : Int32} {s_BINARY : Addr} {s_CORRUPT : Addr} {s_TRUNCATED : Addr} {s_UNREADABLE : Addr} {s_LINK : Addr} (cx : Cx a0 Z G1 s_BINARY s_CORRUPT s_TRUNCATED s_UNREADABLE s_LINK) : Exa Z Z.heap s_CORRUPT "com/example/lynceus/lynceus/SkipReason" := cx.2.2.2.2.2.2.1
theorem S_TRUNCATED {Z : State} {a0 : Array Value} {G1 : Int32} {s_BINARY : Addr} {s_CORRUPT : Addr} {s_TRUNCATED : Addr} {s_UNREADABLE : Addr} {s_LINK : Addr} (cx : Cx a0 Z G1 s_BINARY s_CORRUPT s_TRUNCATED s_UNREADABLE s_LINK) : Sta Z Z.heap "com/example/lynceus/lynceus/SkipReason" "TRUNCATED" "Lcom/example/lynceus/lynceus/SkipReason;" (.ref s_TRUNCATED) := cx.2.2.2.2.2.2.2.1
theorem E_TRUNCATED {Z : State} {a0 : Array Value} {G1 : Int32} {s_BINARY : Addr} {s_CORRUPT : Addr} {s_TRUNCATED : Addr} {s_UNREADABLE : Addr} {s_LINK : Addr} (cx : Cx a0 Z G1 s_BINARY s_CORRUPT s_TRUNCATED s_UNREADABLE s_LINK) : Exa Z Z.heap s_TRUNCATED "com/example/lynceus/lynceus/SkipReason" := cx.2.2.2.2.2.2.2.2.1
theorem S_UNREADABLE {Z : State} {a0 : Array Value} {G1 : Int32} {s_BINARY : Addr} {s_CORRUPT : Addr} {s_TRUNCATED : Addr} {s_UNREADABLE : Addr} {s_LINK : Addr} (cx : Cx a0 Z G1 s_BINARY s_CORRUPT s_TRUNCATED s_UNREADABLE s_LINK) : Sta Z Z.heap "com/example/lynceus/lynceus/SkipReason" "UNREADABLE" "Lcom/example/lynceus/lynceus/SkipReason;" (.ref s_UNREADABLE) := cx.2.2.2.2.2.2.2.2.2.1
theorem E_UNREADABLE {Z : State} {a0 : Array Value} {G1 : Int32} {s_BINARY : Addr} {s_CORRUPT : Addr} {s_TRUNCATED : Addr} {s_UNREADABLE : Addr} {s_LINK : Addr} (cx : Cx a0 Z G1 s_BINARY s_CORRUPT s_TRUNCATED s_UNREADABLE s_LINK) : Exa Z Z.heap s_UNREADABLE "com/example/lynceus/lynceus/SkipReason" := cx.2.2.2.2.2.2.2.2.2.2.1
theorem S_LINK {Z : State} {a0 : Array Value} {G1 : Int32} {s_BINARY : Addr} {s_CORRUPT : Addr} {s_TRUNCATED : Addr} {s_UNREADABLE : Addr} {s_LINK : Addr} (cx : Cx a0 Z G1 s_BINARY s_CORRUPT s_TRUNCATED s_UNREADABLE s_LINK) : Sta Z Z.heap "com/example/lynceus/lynceus/SkipReason" "LINK" "Lcom/example/lynceus/lynceus/SkipReason;" (.ref s_LINK) := cx.2.2.2.2.2.2.2.2.2.2.2.1
theorem E_LINK {Z : State} {a0 : Array Value} {G1 : Int32} {s_BINARY : Addr} {s_CORRUPT : Addr} {s_TRUNCATED : Addr} {s_UNREADABLE : Addr} {s_LINK : Addr} (cx : Cx a0 Z G1 s_BINARY s_CORRUPT s_TRUNCATED s_UNREADABLE s_LINK) : Exa Z Z.heap s_LINK "com/example/lynceus/lynceus/SkipReason" := cx.2.2.2.2.2.2.2.2.2.2.2.2
theorem hws {Z : State} {a0 : Array Value} {G1 : Int32} {s_BINARY : Addr} {s_CORRUPT : Addr} {s_TRUNCATED : Addr} {s_UNREADABLE : Addr} {s_LINK : Addr} (cx : Cx a0 Z G1 s_BINARY s_CORRUPT s_TRUNCATED s_UNREADABLE s_LINK) : ∀ d ∈ StrChars.Road.words, d.before a0 Z = true := fun d hd => cx.1 d ((by decide +kernel : ∀ d ∈ StrChars.Road.words, d ∈ tables_1) d hd)
theorem strAtoms {Z : State} {a0 : Array Value} {G1 : Int32} {s_BINARY : Addr} {s_CORRUPT : Addr} {s_TRUNCATED : Addr} {s_UNREADABLE : Addr} {s_LINK : Addr} (cx : Cx a0 Z G1 s_BINARY s_CORRUPT s_TRUNCATED s_UNREADABLE s_LINK) : ∀ d ∈ Bundle.stringAtoms, d.before a0 Z = true := fun d hd => cx.1 d ((by decide +kernel : ∀ d ∈ Bundle.stringAtoms, d ∈ tables_1) d hd)
theorem pn0 : plainName "java/lang/String" = true := by first | (simp [plainName, overriddenIn]; done) | decide +kernel
theorem pn1 : plainName "java/lang/Record" = true := by first | (simp [plainName, overriddenIn]; done) | decide +kernel
theorem pn2 : plainName "java/util/Objects" = true := by first | (simp [plainName, overriddenIn]; done) | decide +kernel
theorem pn3 : plainName "com/example/lynceus/lynceus/InputItem" = true := by first | (simp [plainName, overriddenIn]; done) | decide +kernel
theorem pn4 : plainName "com/example/lynceus/lynceus/InputItemIsReadPinLaw" = true := by first | (simp [plainName, overriddenIn]; done) | decide +kernel
theorem d1_0 : decode method_2_code 0 = .ok (.iload_n 0, 1) := by decide +kernel
theorem d1_1 : decode method_2_code 1 = .ok (.iconst 1, 1) := by decide +kernel
theorem d1_2 : decode method_2_code 2 = .ok (.if_icmp .ne 7, 3) := by decide +kernel
theorem d1_5 : decode method_2_code 5 = .ok (.getstatic 7, 3) := by decide +kernel
theorem d1_8 : decode method_2_code 8 = .ok (.areturn, 1) := by decide +kernel
theorem d1_9 : decode method_2_code 9 = .ok (.iload_n 0, 1) := by decide +kernel
theorem d1_10 : decode method_2_code 10 = .ok (.iconst 2, 1) := by decide +kernel
theorem d1_11 : decode method_2_code 11 = .ok (.if_icmp .ne 7, 3) := by decide +kernel
theorem d1_14 : decode method_2_code 14 = .ok (.getstatic 13, 3) := by decide +kernel
theorem d1_17 : decode method_2_code 17 = .ok (.areturn, 1) := by decide +kernel
theorem d1_18 : decode method_2_code 18 = .ok (.iload_n 0, 1) := by decide +kernel
theorem d1_19 : decode method_2_code 19 = .ok (.iconst 3, 1) := by decide +kernel
theorem d1_20 : decode method_2_code 20 = .ok (.if_icmp .ne 7, 3) := by decide +kernel
theorem d1_23 : decode method_2_code 23 = .ok (.getstatic 16, 3) := by decide +kernel
theorem d1_26 : decode method_2_code 26 = .ok (.areturn, 1) := by decide +kernel
theorem d1_27 : decode method_2_code 27 = .ok (.iload_n 0, 1) := by decide +kernel
theorem d1_28 : decode method_2_code 28 = .ok (.iconst 4, 1) := by decide +kernel
theorem d1_29 : decode method_2_code 29 = .ok (.if_icmp .ne 7, 3) := by decide +kernel
theorem d1_32 : decode method_2_code 32 = .ok (.getstatic 19, 3) := by decide +kernel
theorem d1_35 : decode method_2_code 35 = .ok (.areturn, 1) := by decide +kernel
theorem d1_36 : decode method_2_code 36 = .ok (.iload_n 0, 1) := by decide +kernel
theorem d1_37 : decode method_2_code 37 = .ok (.iconst 5, 1) := by decide +kernel
theorem d1_38 : decode method_2_code 38 = .ok (.if_icmp .ne 7, 3) := by decide +kernel
theorem d1_41 : decode method_2_code 41 = .ok (.getstatic 22, 3) := by decide +kernel
theorem d1_44 : decode method_2_code 44 = .ok (.areturn, 1) := by decide +kernel
theorem d1_45 : decode method_2_code 45 = .ok (.aconst_null, 1) := by decide +kernel
theorem d1_46 : decode method_2_code 46 = .ok (.areturn, 1) := by decide +kernel
theorem d2_0 : decode jdk_42_method_3_code 0 = .ok (.aload_n 0, 1) := by decide +kernel
theorem d2_1 : decode jdk_42_method_3_code 1 = .ok (.aload_n 1, 1) := by decide +kernel
theorem d2_2 : decode jdk_42_method_3_code 2 = .ok (.iconst 0, 1) := by decide +kernel
theorem d2_3 : decode jdk_42_method_3_code 3 = .ok (.aload_n 1, 1) := by decide +kernel
theorem d2_4 : decode jdk_42_method_3_code 4 = .ok (.arraylength, 1) := by decide +kernel
theorem d2_5 : decode jdk_42_method_3_code 5 = .ok (.aconst_null, 1) := by decide +kernel
theorem d2_6 : decode jdk_42_method_3_code 6 = .ok (.invokespecial 27, 3) := by decide +kernel
theorem d2_9 : decode jdk_42_method_3_code 9 = .ok (.return_, 1) := by decide +kernel
theorem d3_0 : decode jdk_42_method_149_code 0 = .ok (.aload_n 0, 1) := by decide +kernel
theorem d3_1 : decode jdk_42_method_149_code 1 = .ok (.invokespecial 1, 3) := by decide +kernel
theorem d3_4 : decode jdk_42_method_149_code 4 = .ok (.iload_n 3, 1) := by decide +kernel
theorem d3_5 : decode jdk_42_method_149_code 5 = .ok (.ifCond .ne 22, 3) := by decide +kernel
theorem d3_8 : decode jdk_42_method_149_code 8 = .ok (.aload_n 0, 1) := by decide +kernel
theorem d3_9 : decode jdk_42_method_149_code 9 = .ok (.ldc 7, 2) := by decide +kernel
theorem d3_11 : decode jdk_42_method_149_code 11 = .ok (.getfield 9, 3) := by decide +kernel
theorem d3_14 : decode jdk_42_method_149_code 14 = .ok (.putfield 9, 3) := by decide +kernel
theorem d3_17 : decode jdk_42_method_149_code 17 = .ok (.aload_n 0, 1) := by decide +kernel
theorem d3_18 : decode jdk_42_method_149_code 18 = .ok (.ldc 7, 2) := by decide +kernel
theorem d3_20 : decode jdk_42_method_149_code 20 = .ok (.getfield 15, 3) := by decide +kernel
theorem d3_23 : decode jdk_42_method_149_code 23 = .ok (.putfield 15, 3) := by decide +kernel
theorem d3_26 : decode jdk_42_method_149_code 26 = .ok (.return_, 1) := by decide +kernel
theorem d8_0 : decode prog_8_method_1_code 0 = .ok (.aload_n 0, 1) := by decide +kernel
theorem d8_1 : decode prog_8_method_1_code 1 = .ok (.invokespecial 1, 3) := by decide +kernel
theorem d8_4 : decode prog_8_method_1_code 4 = .ok (.aload_n 1, 1) := by decide +kernel
theorem d8_5 : decode prog_8_method_1_code 5 = .ok (.ldc 7, 2) := by decide +kernel
theorem d8_7 : decode prog_8_method_1_code 7 = .ok (.invokestatic 9, 3) := by decide +kernel
theorem d8_10 : decode prog_8_method_1_code 10 = .ok (.pop, 1) := by decide +kernel
theorem d8_11 : decode prog_8_method_1_code 11 = .ok (.aload_n 0, 1) := by decide +kernel
theorem d8_12 : decode prog_8_method_1_code 12 = .ok (.aload_n 1, 1) := by decide +kernel
theorem d8_13 : decode prog_8_method_1_code 13 = .ok (.putfield 15, 3) := by decide +kernel
theorem d8_16 : decode prog_8_method_1_code 16 = .ok (.aload_n 0, 1) := by decide +kernel
theorem d8_17 : decode prog_8_method_1_code 17 = .ok (.aload_n 2, 1) := by decide +kernel
theorem d8_18 : decode prog_8_method_1_code 18 = .ok (.putfield 20, 3) := by decide +kernel
theorem d8_21 : decode prog_8_method_1_code 21 = .ok (.return_, 1) := by decide +kernel
theorem d9_0 : decode jdk_30_method_1_code 0 = .ok (.aload_n 0, 1) := by decide +kernel
theorem d9_1 : decode jdk_30_method_1_code 1 = .ok (.invokespecial 1, 3) := by decide +kernel
theorem d9_4 : decode jdk_30_method_1_code 4 = .ok (.return_, 1) := by decide +kernel
theorem d10_0 : decode jdk_31_method_11_code 0 = .ok (.aload_n 0, 1) := by decide +kernel
theorem d10_1 : decode jdk_31_method_11_code 1 = .ok (.ifnonnull 12, 3) := by decide +kernel
theorem d10_13 : decode jdk_31_method_11_code 13 = .ok (.aload_n 0, 1) := by decide +kernel
theorem d10_14 : decode jdk_31_method_11_code 14 = .ok (.areturn, 1) := by decide +kernel
theorem d11_0 : decode prog_8_method_4_code 0 = .ok (.aload_n 0, 1) := by decide +kernel
theorem d11_1 : decode prog_8_method_4_code 1 = .ok (.getfield 20, 3) := by decide +kernel
theorem d11_4 : decode prog_8_method_4_code 4 = .ok (.ifnonnull 7, 3) := by decide +kernel
theorem d11_7 : decode prog_8_method_4_code 7 = .ok (.iconst 1, 1) := by decide +kernel
theorem d11_8 : decode prog_8_method_4_code 8 = .ok (.goto 4, 3) := by decide +kernel
theorem d11_11 : decode prog_8_method_4_code 11 = .ok (.iconst 0, 1) := by decide +kernel
theorem d11_12 : decode prog_8_method_4_code 12 = .ok (.ireturn, 1) := by decide +kernel
theorem d12_0 : decode prog_8_method_2_code 0 = .ok (.new 16, 3) := by decide +kernel
theorem d12_3 : decode prog_8_method_2_code 3 = .ok (.dup, 1) := by decide +kernel
theorem d12_4 : decode prog_8_method_2_code 4 = .ok (.aload_n 0, 1) := by decide +kernel
theorem d12_5 : decode prog_8_method_2_code 5 = .ok (.aconst_null, 1) := by decide +kernel
theorem d12_6 : decode prog_8_method_2_code 6 = .ok (.invokespecial 24, 3) := by decide +kernel
theorem d12_9 : decode prog_8_method_2_code 9 = .ok (.areturn, 1) := by decide +kernel
theorem d13_0 : decode prog_8_method_3_code 0 = .ok (.new 16, 3) := by decide +kernel
theorem d13_3 : decode prog_8_method_3_code 3 = .ok (.dup, 1) := by decide +kernel
theorem d13_4 : decode prog_8_method_3_code 4 = .ok (.aload_n 0, 1) := by decide +kernel
theorem d13_5 : decode prog_8_method_3_code 5 = .ok (.aload_n 1, 1) := by decide +kernel
theorem d13_6 : decode prog_8_method_3_code 6 = .ok (.ldc 27, 2) := by decide +kernel
theorem d13_8 : decode prog_8_method_3_code 8 = .ok (.invokestatic 9, 3) := by decide +kernel
theorem d13_11 : decode prog_8_method_3_code 11 = .ok (.checkcast 29, 3) := by decide +kernel
theorem d13_14 : decode prog_8_method_3_code 14 = .ok (.invokespecial 24, 3) := by decide +kernel
theorem d13_17 : decode prog_8_method_3_code 17 = .ok (.areturn, 1) := by decide +kernel
theorem pd0 : parseMethodDescriptor "([CIILjava/lang/Void;)V" = some ⟨[(.array .char), .int, .int, (.object "java/lang/Void")], none⟩ := by decide +kernel
theorem pd1 : parseMethodDescriptor "()V" = some ⟨[], none⟩ := by decide +kernel
theorem pd2 : parseMethodDescriptor "(Ljava/lang/Object;Ljava/lang/String;)Ljava/lang/Object;" = some ⟨[(.object "java/lang/Object"), (.object "java/lang/String")], some (.object "java/lang/Object")⟩ := by decide +kernel
theorem pd3 : parseMethodDescriptor "(Ljava/lang/String;Lcom/example/lynceus/lynceus/SkipReason;)V" = some ⟨[(.object "java/lang/String"), (.object "com/example/lynceus/lynceus/SkipReason")], none⟩ := by decide +kernel
theorem pd4 : parseMethodDescriptor "(I)Lcom/example/lynceus/lynceus/SkipReason;" = some ⟨[.int], some (.object "com/example/lynceus/lynceus/SkipReason")⟩ := by decide +kernel
theorem pd5 : parseMethodDescriptor "([C)V" = some ⟨[(.array .char)], none⟩ := by decide +kernel
theorem pd6 : parseMethodDescriptor "()Z" = some ⟨[], some .boolean⟩ := by decide +kernel
theorem pd7 : parseMethodDescriptor "(Ljava/lang/String;)Lcom/example/lynceus/lynceus/InputItem;" = some ⟨[(.object "java/lang/String")], some (.object "com/example/lynceus/lynceus/InputItem")⟩ := by decide +kernel
theorem pd8 : parseMethodDescriptor "(Ljava/lang/String;Lcom/example/lynceus/lynceus/SkipReason;)Lcom/example/lynceus/lynceus/InputItem;" = some ⟨[(.object "java/lang/String"), (.object "com/example/lynceus/lynceus/SkipReason")], some (.object "com/example/lynceus/lynceus/InputItem")⟩ := by decide +kernel
def Q_s4e (Z : State) (G1 : Int32) (s_BINARY : Addr) (s_CORRUPT : Addr) (s_TRUNCATED : Addr) (s_UNREADABLE : Addr) (s_LINK : Addr) (x : Addr) (b : Addr) (h : Heap) (v : Option Value) (h' : Heap) (WL' FL' : List Addr) : Prop := ∃ t : Addr, v = none ∧ WL' = [] ∧ FL' = [t] ∧ Keep h h' [x] ∧ StrL Z h' x t []
set_option maxRecDepth 65536 in
set_option maxHeartbeats 4000000 in
theorem ct_s4e {l : Launch} {Z : State} {a0 : Array Value} {G1 : Int32} {s_BINARY : Addr} {s_CORRUPT : Addr} {s_TRUNCATED : Addr} {s_UNREADABLE : Addr} {s_LINK : Addr} (cx : Cx a0 Z G1 s_BINARY s_CORRUPT s_TRUNCATED s_UNREADABLE s_LINK) {n0 : Nat} (x : Addr) (b : Addr) (h : Heap) (WL FL : List Addr) (P0 : Exa Z h x "java/lang/String") (P1 : Fld Z h x "java/lang/String" "value" "[B" .null) (P2 : Fld Z h x "java/lang/String" "coder" "B" (.int (0 : Int32))) (P3 : x ∈ WL) :
    Ct l Z EL1 n0 (⟨"java/lang/String", "<init>", "([CIILjava/lang/Void;)V"⟩ : MethodName) jdk_42_method_149_code 6 (Option.none : Option Jvm.ClassFile.FieldType) ({ frames := 1, cells := 4, slots := 8, locals := 12 } : Room) #[(.ref x), (.ref b), (.int (0 : Int32)), (.int (0 : Int32)), .null] h WL FL (Q_s4e Z G1 s_BINARY s_CORRUPT s_TRUNCATED s_UNREADABLE s_LINK x b h) := by
  refine Ct.of (plainFor_of_name pn0) ?_
  intro p e s m below meth c s1 hx hby hml hnm hret hlk X0
  refine Wo.cast (f' := (mkF m 0 #[.val (.ref x), .val (.ref b), .val (.int (0 : Int32)), .val (.int (0 : Int32)), .val .null, .unset] [])) (by first | rfl | (simp [entryFrame, mkF, argsToLocals, Value.category]; done)) ?_
  have K0 : Keep h h [x] := Keep.refl _ _
  show Wo _ _ _ _ _ _ _ _ _ _ _ s1 (mkF m 0 #[.val (.ref x), .val (.ref b), .val (.int (0 : Int32)), .val (.int (0 : Int32)), .val .null, .unset] [])
  refine P.aloadN X0 hx 1 (hb hby d3_0) rfl rfl rfl ?_
  refine X0.initO hx (w16 cx) (w17 cx) (w18 cx) (by rw [hml]; rfl) (hb hby d3_1) (nle rfl) (W := 0) (Nat.le_of_eq rfl) (nle rfl) ?_
  intro T1 X1
  refine P.iloadN X1 hx 5 (hb hby d3_4) rfl rfl ?_
  refine P.ifNo X1 hx 8 (hb hby d3_5) (by decide) rfl ?_
  refine P.aloadN X1 hx 9 (hb hby d3_8) rfl rfl rfl ?_
  refine X1.ldc hx (w68 cx) (strAtoms cx) (by decide) (vs := []) (z := (0 : Int32)) ⟨by decide, by decide⟩ (by decide) rfl (hb hby d3_9) (n := 0) (nle rfl) (nle rfl) (nle rfl) (nle rfl) ?_
  intro T2 h2 a2 b2 k2 X2 E2 A2 C2 V2 B2
  have K3 : Keep h h2 [x] := K0.ext E2
  refine X2.getF hx (host := "") (Or.inl (w33 cx)) Via.refl V2 (hb hby d3_11) ?_
  intro T4 X4
  have F5 : Fld Z h2 x "java/lang/String" "value" "[B" .null := (P1.ext E2)
  have F6 : Exa Z h2 x "java/lang/String" := (P0.ext E2)
  refine X4.putF hx (host := "") (Or.inl (w33 cx)) Via.refl F5 F6 (Or.inr ⟨(w34 cx), rfl, hnm⟩) (w7 cx) (ty := (.array .byte)) (by decide) rfl rfl P3 (hb hby d3_14) ?_
  intro T7 h7 X7 W7 G7
  have K8 : Keep h h7 [x] := K3.wr W7 (Or.inl (List.mem_of_getElem? (i := 0) rfl))
  refine P.aloadN X7 hx 18 (hb hby d3_17) rfl rfl rfl ?_
  refine X7.ldc hx (w68 cx) (strAtoms cx) (by decide) (vs := []) (z := (0 : Int32)) ⟨by decide, by decide⟩ (by decide) rfl (hb hby d3_18) (n := 0) (nle rfl) (nle rfl) (nle rfl) (nle rfl) ?_
  intro T9 h9 a9 b9 k9 X9 E9 A9 C9 V9 B9
  have K10 : Keep h h9 [x] := K8.ext E9
  refine X9.getF hx (host := "") (Or.inl (w31 cx)) Via.refl C9 (hb hby d3_20) ?_
  intro T11 X11
  have F12 : Fld Z h9 x "java/lang/String" "coder" "B" (.int (0 : Int32)) := (((P2.ext E2).other W7 (Or.inr (slot_ne (Or.inr (w32 cx)) (Or.inr (w34 cx)) (by decide) (t := .byte) (t' := (.array .byte)) (by decide) (by decide)))).ext E9)
  have F13 : Exa Z h9 x "java/lang/String" := ((F6.wr W7).ext E9)
  refine X11.putF hx (host := "") (Or.inl (w31 cx)) Via.refl F12 F13 (Or.inr ⟨(w32 cx), rfl, hnm⟩) (w7 cx) (ty := .byte) (by decide) rfl rfl P3 (hb hby d3_23) ?_
  intro T14 h14 X14 W14 G14
  have K15 : Keep h h14 [x] := K10.wr W14 (Or.inl (List.mem_of_getElem? (i := 0) rfl))
  have F16 : Fld Z h14 x "java/lang/String" "value" "[B" (.ref b2) := ((G7.ext E9).other W14 (Or.inr (slot_ne (Or.inr (w34 cx)) (Or.inr (w32 cx)) (by decide) (t := (.array .byte)) (t' := .byte) (by decide) (by decide))))
  have F17 : Exa Z h14 x "java/lang/String" := (F13.wr W14)
  have F18 : Arv Z h14 b2 k2 .byte (0 : Int32) [] (.int 0) := (((B2.other W7 (X14.neF (List.mem_of_getElem? (i := 3) rfl) P3)).ext E9).other W14 (X14.neF (List.mem_of_getElem? (i := 3) rfl) P3))
  have S19 : StrL Z h14 x b2 [] := ⟨F17, F16, G14, ⟨_, F18⟩, fc0, by decide⟩
  have X20 := WS.fl (FL2 := (b2 :: FL)) X14 (fun y hy => (List.mem_cons.mp hy).elim (fun q => q ▸ (List.mem_of_getElem? (i := 3) rfl)) (fun q0 => (List.mem_append_right [a9, b9, a2, b2] q0)))
  exact WS.retV X20 (WL' := []) (FL' := [b2]) hx hret hlk (hb hby d3_26) (nle rfl) (nle rfl) ⟨b2, rfl, rfl, rfl, K15, S19⟩
def Q_s1e (Z : State) (G1 : Int32) (s_BINARY : Addr) (s_CORRUPT : Addr) (s_TRUNCATED : Addr) (s_UNREADABLE : Addr) (s_LINK : Addr) (x : Addr) (b : Addr) (kb : ClassId) (dv : Value) (h : Heap) (v : Option Value) (h' : Heap) (WL' FL' : List Addr) : Prop := ∃ t : Addr, v = none ∧ WL' = [] ∧ FL' = [t] ∧ Keep h h' [x] ∧ StrL Z h' x t []
set_option maxRecDepth 65536 in
set_option maxHeartbeats 4000000 in
theorem ct_s1e {l : Launch} {Z : State} {a0 : Array Value} {G1 : Int32} {s_BINARY : Addr} {s_CORRUPT : Addr} {s_TRUNCATED : Addr} {s_UNREADABLE : Addr} {s_LINK : Addr} (cx : Cx a0 Z G1 s_BINARY s_CORRUPT s_TRUNCATED s_UNREADABLE s_LINK) {n0 : Nat} (x : Addr) (b : Addr) (kb : ClassId) (dv : Value) (h : Heap) (WL FL : List Addr) (P0 : Exa Z h x "java/lang/String") (P1 : Fld Z h x "java/lang/String" "value" "[B" .null) (P2 : Fld Z h x "java/lang/String" "coder" "B" (.int (0 : Int32))) (P3 : x ∈ WL) (P4 : Arv Z h b kb .char (0 : Int32) [] dv) :
    Ct l Z EL1 n0 (⟨"java/lang/String", "<init>", "([C)V"⟩ : MethodName) jdk_42_method_3_code 2 (Option.none : Option Jvm.ClassFile.FieldType) ({ frames := 2, cells := 4, slots := 8, locals := 29 } : Room) #[(.ref x), (.ref b)] h WL FL (Q_s1e Z G1 s_BINARY s_CORRUPT s_TRUNCATED s_UNREADABLE s_LINK x b kb dv h) := by
  refine Ct.of (plainFor_of_name pn0) ?_
  intro p e s m below meth c s1 hx hby hml hnm hret hlk X0
  refine Wo.cast (f' := (mkF m 0 #[.val (.ref x), .val (.ref b)] [])) (by first | rfl | (simp [entryFrame, mkF, argsToLocals, Value.category]; done)) ?_
  have K0 : Keep h h [x] := Keep.refl _ _
  show Wo _ _ _ _ _ _ _ _ _ _ _ s1 (mkF m 0 #[.val (.ref x), .val (.ref b)] [])
  refine P.aloadN X0 hx 1 (hb hby d2_0) rfl rfl rfl ?_
  refine P.aloadN X0 hx 2 (hb hby d2_1) rfl rfl rfl ?_
  refine P.iconst X0 hx 3 0 (hb hby d2_2) rfl rfl ?_
  refine P.aloadN X0 hx 4 (hb hby d2_3) rfl rfl rfl ?_
  refine WS.alen X0 hx P4 (hb hby d2_4) ?_
  refine P.aconstNull X0 hx 6 (hb hby d2_5) rfl ?_
  refine X0.callC hx rfl (w12 cx) (w13 cx) (w15 cx) (by decide) (Ct.pay (W := 0) (ct_s4e cx x b h _ _ P0 P1 P2 P3) (w15 cx) (w8 cx) (nle rfl) (nle rfl)) (by rw [hml]; rfl) (argsL := [.ref b, .int (0 : Int32), .int (0 : Int32), .null]) (rest := []) (lenOf pd0 rfl) rfl rfl (Nat.le_of_eq rfl) (hb hby d2_6) (nle rfl) (nle rfl) ?_
  rintro T1 h1 _ _ _ X1 ⟨a2, rfl, rfl, rfl, J1, G3⟩
  have K4 : Keep h h1 [x] := K0.trans J1 (allS (Or.inl (List.mem_of_getElem? (i := 0) rfl)) all0)
  exact WS.retV X1 (WL' := []) (FL' := [a2]) hx hret hlk (hb hby d2_9) (nle rfl) (nle rfl) ⟨a2, rfl, rfl, rfl, K4, G3⟩
def Q_recinit (Z : State) (G1 : Int32) (s_BINARY : Addr) (s_CORRUPT : Addr) (s_TRUNCATED : Addr) (s_UNREADABLE : Addr) (s_LINK : Addr) (x : Addr) (h : Heap) (v : Option Value) (h' : Heap) (WL' FL' : List Addr) : Prop := v = none ∧ WL' = [] ∧ FL' = [] ∧ h' = h
set_option maxRecDepth 65536 in
set_option maxHeartbeats 4000000 in
theorem ct_recinit {l : Launch} {Z : State} {a0 : Array Value} {G1 : Int32} {s_BINARY : Addr} {s_CORRUPT : Addr} {s_TRUNCATED : Addr} {s_UNREADABLE : Addr} {s_LINK : Addr} (cx : Cx a0 Z G1 s_BINARY s_CORRUPT s_TRUNCATED s_UNREADABLE s_LINK) {n0 : Nat} (x : Addr) (h : Heap) (WL FL : List Addr)  :
    Ct l Z EL1 n0 (⟨"java/lang/Record", "<init>", "()V"⟩ : MethodName) jdk_30_method_1_code 1 (Option.none : Option Jvm.ClassFile.FieldType) ({ frames := 1, cells := 0, slots := 0, locals := 12 } : Room) #[(.ref x)] h WL FL (Q_recinit Z G1 s_BINARY s_CORRUPT s_TRUNCATED s_UNREADABLE s_LINK x h) := by
  refine Ct.of (plainFor_of_name pn1) ?_
  intro p e s m below meth c s1 hx hby hml hnm hret hlk X0
  refine Wo.cast (f' := (mkF m 0 #[.val (.ref x)] [])) (by first | rfl | (simp [entryFrame, mkF, argsToLocals, Value.category]; done)) ?_
  show Wo _ _ _ _ _ _ _ _ _ _ _ s1 (mkF m 0 #[.val (.ref x)] [])
  refine P.aloadN X0 hx 1 (hb hby d9_0) rfl rfl rfl ?_
  refine X0.initO hx (w46 cx) (w17 cx) (w18 cx) (by rw [hml]; rfl) (hb hby d9_1) (nle rfl) (W := 0) (Nat.le_of_eq rfl) (nle rfl) ?_
  intro T1 X1
  exact WS.retV X1 (WL' := []) (FL' := []) hx hret hlk (hb hby d9_4) (nle rfl) (nle rfl) ⟨rfl, rfl, rfl, rfl⟩
def Q_rnn (Z : State) (G1 : Int32) (s_BINARY : Addr) (s_CORRUPT : Addr) (s_TRUNCATED : Addr) (s_UNREADABLE : Addr) (s_LINK : Addr) (x : Addr) (g : Addr) (h : Heap) (v : Option Value) (h' : Heap) (WL' FL' : List Addr) : Prop := v = some (.ref x) ∧ WL' = [] ∧ FL' = [] ∧ h' = h
set_option maxRecDepth 65536 in
set_option maxHeartbeats 4000000 in
theorem ct_rnn {l : Launch} {Z : State} {a0 : Array Value} {G1 : Int32} {s_BINARY : Addr} {s_CORRUPT : Addr} {s_TRUNCATED : Addr} {s_UNREADABLE : Addr} {s_LINK : Addr} (cx : Cx a0 Z G1 s_BINARY s_CORRUPT s_TRUNCATED s_UNREADABLE s_LINK) {n0 : Nat} (x : Addr) (g : Addr) (h : Heap) (WL FL : List Addr)  :
    Ct l Z EL1 n0 (⟨"java/util/Objects", "requireNonNull", "(Ljava/lang/Object;Ljava/lang/String;)Ljava/lang/Object;"⟩ : MethodName) jdk_31_method_11_code 2 (Option.some (Jvm.ClassFile.FieldType.object "java/lang/Object")) ({ frames := 0, cells := 0, slots := 0, locals := 0 } : Room) #[(.ref x), (.ref g)] h WL FL (Q_rnn Z G1 s_BINARY s_CORRUPT s_TRUNCATED s_UNREADABLE s_LINK x g h) := by
  refine Ct.of (plainFor_of_name pn2) ?_
  intro p e s m below meth c s1 hx hby hml hnm hret hlk X0
  refine Wo.cast (f' := (mkF m 0 #[.val (.ref x), .val (.ref g)] [])) (by first | rfl | (simp [entryFrame, mkF, argsToLocals, Value.category]; done)) ?_
  show Wo _ _ _ _ _ _ _ _ _ _ _ s1 (mkF m 0 #[.val (.ref x), .val (.ref g)] [])
  refine P.aloadN X0 hx 1 (hb hby d10_0) rfl rfl rfl ?_
  refine P.ifnonnullYes X0 hx 13 (hb hby d10_1) (by decide) (by decide) ?_
  refine P.aloadN X0 hx 14 (hb hby d10_13) rfl rfl rfl ?_
  exact WS.retA X0 (WL' := []) (FL' := []) hx hret rfl rfl hlk (hb hby d10_14) (nle rfl) (nle rfl) ⟨rfl, rfl, rfl, rfl⟩
def Q_itinit (Z : State) (G1 : Int32) (s_BINARY : Addr) (s_CORRUPT : Addr) (s_TRUNCATED : Addr) (s_UNREADABLE : Addr) (s_LINK : Addr) (x : Addr) (g : Addr) (r : Value) (h : Heap) (v : Option Value) (h' : Heap) (WL' FL' : List Addr) : Prop := v = none ∧ WL' = [] ∧ FL' = [] ∧ Keep h h' [x] ∧ Fld Z h' x "com/example/lynceus/lynceus/InputItem" "name" "Ljava/lang/String;" (.ref g) ∧ Fld Z h' x "com/example/lynceus/lynceus/InputItem" "skipped" "Lcom/example/lynceus/lynceus/SkipReason;" r
set_option maxRecDepth 65536 in
set_option maxHeartbeats 4000000 in
theorem ct_itinit {l : Launch} {Z : State} {a0 : Array Value} {G1 : Int32} {s_BINARY : Addr} {s_CORRUPT : Addr} {s_TRUNCATED : Addr} {s_UNREADABLE : Addr} {s_LINK : Addr} (cx : Cx a0 Z G1 s_BINARY s_CORRUPT s_TRUNCATED s_UNREADABLE s_LINK) {n0 : Nat} (x : Addr) (g : Addr) (r : Value) (h : Heap) (WL FL : List Addr) (P0 : Exa Z h x "com/example/lynceus/lynceus/InputItem") (P1 : Fld Z h x "com/example/lynceus/lynceus/InputItem" "name" "Ljava/lang/String;" .null) (P2 : Fld Z h x "com/example/lynceus/lynceus/InputItem" "skipped" "Lcom/example/lynceus/lynceus/SkipReason;" .null) (P3 : x ∈ WL) (h_r : r.isRef = true) :
    Ct l Z EL1 n0 (⟨"com/example/lynceus/lynceus/InputItem", "<init>", "(Ljava/lang/String;Lcom/example/lynceus/lynceus/SkipReason;)V"⟩ : MethodName) prog_8_method_1_code 3 (Option.none : Option Jvm.ClassFile.FieldType) ({ frames := 2, cells := 2, slots := 20, locals := 24 } : Room) #[(.ref x), (.ref g), r] h WL FL (Q_itinit Z G1 s_BINARY s_CORRUPT s_TRUNCATED s_UNREADABLE s_LINK x g r h) := by
  refine Ct.of (plainFor_of_name pn3) ?_
  intro p e s m below meth c s1 hx hby hml hnm hret hlk X0
  refine Wo.cast (f' := (mkF m 0 #[.val (.ref x), .val (.ref g), .val r] [])) (by rcases ref_cases h_r with rfl | ⟨_, rfl⟩ <;> first | rfl | (simp [entryFrame, mkF, argsToLocals, Value.category]; done)) ?_
  have K0 : Keep h h [x] := Keep.refl _ _
  show Wo _ _ _ _ _ _ _ _ _ _ _ s1 (mkF m 0 #[.val (.ref x), .val (.ref g), .val r] [])
  refine P.aloadN X0 hx 1 (hb hby d8_0) rfl rfl rfl ?_
  refine X0.callC hx rfl (w41 cx) (w42 cx) (w45 cx) (by decide) (Ct.pay (W := 0) (ct_recinit cx x h _ _ ) (w45 cx) (w44 cx) (nle rfl) (nle rfl)) (by rw [hml]; rfl) (argsL := []) (rest := []) (lenOf pd1 rfl) rfl rfl (Nat.le_of_eq rfl) (hb hby d8_1) (nle rfl) (nle rfl) ?_
  rintro T1 h1 _ _ _ X1 ⟨rfl, rfl, rfl, J1⟩
  rw [J1] at X1
  refine P.aloadN X1 hx 5 (hb hby d8_4) rfl rfl rfl ?_
  refine X1.ldc hx (w47 cx) (strAtoms cx) (by decide) (vs := [(.int (110 : Int32)), (.int (97 : Int32)), (.int (109 : Int32)), (.int (101 : Int32))]) (z := (4 : Int32)) ⟨by decide, by decide⟩ (by decide) rfl (hb hby d8_5) (n := 16) (nle rfl) (nle rfl) (nle rfl) (nle rfl) ?_
  intro T2 h2 a2 b2 k2 X2 E2 A2 C2 V2 B2
  have K3 : Keep h h2 [x] := K0.ext E2
  refine X2.callS hx (w50 cx) (w51 cx) (w52 cx) (w53 cx) (by decide) (Ct.pay (W := 0) (ct_rnn cx g a2 h2 _ _ ) (w53 cx) (w52 cx) (nle rfl) (nle rfl)) (by rw [hml]; rfl) (argsL := [.ref g, .ref a2]) (rest := []) (lenOf pd2 rfl) rfl rfl (Nat.le_of_eq rfl) (hb hby d8_7) (nle rfl) (nle rfl) ?_
  rintro T4 h4 _ _ _ X4 ⟨rfl, rfl, rfl, J4⟩
  rw [J4] at X4
  refine P.pop X4 hx 11 (hb hby d8_10) rfl rfl ?_
  refine P.aloadN X4 hx 12 (hb hby d8_11) rfl rfl rfl ?_
  refine P.aloadN X4 hx 13 (hb hby d8_12) rfl rfl rfl ?_
  have F5 : Fld Z h2 x "com/example/lynceus/lynceus/InputItem" "name" "Ljava/lang/String;" .null := (P1.ext E2)
  have F6 : Exa Z h2 x "com/example/lynceus/lynceus/InputItem" := (P0.ext E2)
  refine X4.putF hx (host := "") (Or.inl (w54 cx)) Via.refl F5 F6 (Or.inr ⟨(w55 cx), rfl, hnm⟩) (w36 cx) (ty := (.object "java/lang/String")) (by decide) rfl rfl P3 (hb hby d8_13) ?_
  intro T7 h7 X7 W7 G7
  have K8 : Keep h h7 [x] := K3.wr W7 (Or.inl (List.mem_of_getElem? (i := 0) rfl))
  refine P.aloadN X7 hx 17 (hb hby d8_16) rfl rfl rfl ?_
  refine P.aloadN X7 hx 18 (hb hby d8_17) rfl h_r rfl ?_
  have F9 : Fld Z h7 x "com/example/lynceus/lynceus/InputItem" "skipped" "Lcom/example/lynceus/lynceus/SkipReason;" .null := ((P2.ext E2).other W7 (Or.inr (slot_ne (Or.inr (w57 cx)) (Or.inr (w55 cx)) (by decide) (t := (.object "com/example/lynceus/lynceus/SkipReason")) (t' := (.object "java/lang/String")) (by decide) (by decide))))
  have F10 : Exa Z h7 x "com/example/lynceus/lynceus/InputItem" := (F6.wr W7)
  refine X7.putF hx (host := "") (Or.inl (w56 cx)) Via.refl F9 F10 (Or.inr ⟨(w57 cx), rfl, hnm⟩) (w36 cx) (ty := (.object "com/example/lynceus/lynceus/SkipReason")) (by decide) (nar_ref rfl h_r) (fit_ref rfl h_r) P3 (hb hby d8_18) ?_
  intro T11 h11 X11 W11 G11
  have K12 : Keep h h11 [x] := K8.wr W11 (Or.inl (List.mem_of_getElem? (i := 0) rfl))
  have F13 : Fld Z h11 x "com/example/lynceus/lynceus/InputItem" "name" "Ljava/lang/String;" (.ref g) := (G7.other W11 (Or.inr (slot_ne (Or.inr (w55 cx)) (Or.inr (w57 cx)) (by decide) (t := (.object "java/lang/String")) (t' := (.object "com/example/lynceus/lynceus/SkipReason")) (by decide) (by decide))))
  have X14 := WS.fl (FL2 := FL) X11 (fun y hy => (List.mem_append_right [a2, b2] hy))
  exact WS.retV X14 (WL' := []) (FL' := []) hx hret hlk (hb hby d8_21) (nle rfl) (nle rfl) ⟨rfl, rfl, rfl, K12, F13, G11⟩
def Q_isread0 (Z : State) (G1 : Int32) (s_BINARY : Addr) (s_CORRUPT : Addr) (s_TRUNCATED : Addr) (s_UNREADABLE : Addr) (s_LINK : Addr) (x : Addr) (h : Heap) (v : Option Value) (h' : Heap) (WL' FL' : List Addr) : Prop := v = some (.int (1 : Int32)) ∧ WL' = [] ∧ FL' = [] ∧ h' = h
set_option maxRecDepth 65536 in
set_option maxHeartbeats 4000000 in
theorem ct_isread0 {l : Launch} {Z : State} {a0 : Array Value} {G1 : Int32} {s_BINARY : Addr} {s_CORRUPT : Addr} {s_TRUNCATED : Addr} {s_UNREADABLE : Addr} {s_LINK : Addr} (cx : Cx a0 Z G1 s_BINARY s_CORRUPT s_TRUNCATED s_UNREADABLE s_LINK) {n0 : Nat} (x : Addr) (h : Heap) (WL FL : List Addr) (P0 : Fld Z h x "com/example/lynceus/lynceus/InputItem" "skipped" "Lcom/example/lynceus/lynceus/SkipReason;" .null) :
    Ct l Z EL1 n0 (⟨"com/example/lynceus/lynceus/InputItem", "isRead", "()Z"⟩ : MethodName) prog_8_method_4_code 1 (Option.some Jvm.ClassFile.FieldType.boolean) ({ frames := 0, cells := 0, slots := 0, locals := 0 } : Room) #[(.ref x)] h WL FL (Q_isread0 Z G1 s_BINARY s_CORRUPT s_TRUNCATED s_UNREADABLE s_LINK x h) := by
  refine Ct.of (plainFor_of_name pn3) ?_
  intro p e s m below meth c s1 hx hby hml hnm hret hlk X0
  refine Wo.cast (f' := (mkF m 0 #[.val (.ref x)] [])) (by first | rfl | (simp [entryFrame, mkF, argsToLocals, Value.category]; done)) ?_
  show Wo _ _ _ _ _ _ _ _ _ _ _ s1 (mkF m 0 #[.val (.ref x)] [])
  refine P.aloadN X0 hx 1 (hb hby d11_0) rfl rfl rfl ?_
  refine X0.getF hx (host := "") (Or.inl (w56 cx)) Via.refl P0 (hb hby d11_1) ?_
  intro T1 X1
  refine P.ifnonnullNo X1 hx 7 (hb hby d11_4) rfl ?_
  refine P.iconst X1 hx 8 1 (hb hby d11_7) rfl rfl ?_
  refine P.goto X1 hx 12 (hb hby d11_8) (by decide) (by decide) ?_
  exact WS.retN X1 (WL' := []) (FL' := []) hx (t := .boolean) hret (by simp) hlk (hb hby d11_12) (nle rfl) (nle rfl) ⟨rfl, rfl, rfl, rfl⟩
def Q_isread1 (Z : State) (G1 : Int32) (s_BINARY : Addr) (s_CORRUPT : Addr) (s_TRUNCATED : Addr) (s_UNREADABLE : Addr) (s_LINK : Addr) (x : Addr) (g : Addr) (h : Heap) (v : Option Value) (h' : Heap) (WL' FL' : List Addr) : Prop := v = some (.int (0 : Int32)) ∧ WL' = [] ∧ FL' = [] ∧ h' = h
set_option maxRecDepth 65536 in
set_option maxHeartbeats 4000000 in
theorem ct_isread1 {l : Launch} {Z : State} {a0 : Array Value} {G1 : Int32} {s_BINARY : Addr} {s_CORRUPT : Addr} {s_TRUNCATED : Addr} {s_UNREADABLE : Addr} {s_LINK : Addr} (cx : Cx a0 Z G1 s_BINARY s_CORRUPT s_TRUNCATED s_UNREADABLE s_LINK) {n0 : Nat} (x : Addr) (g : Addr) (h : Heap) (WL FL : List Addr) (P0 : Fld Z h x "com/example/lynceus/lynceus/InputItem" "skipped" "Lcom/example/lynceus/lynceus/SkipReason;" (.ref g)) :
    Ct l Z EL1 n0 (⟨"com/example/lynceus/lynceus/InputItem", "isRead", "()Z"⟩ : MethodName) prog_8_method_4_code 1 (Option.some Jvm.ClassFile.FieldType.boolean) ({ frames := 0, cells := 0, slots := 0, locals := 0 } : Room) #[(.ref x)] h WL FL (Q_isread1 Z G1 s_BINARY s_CORRUPT s_TRUNCATED s_UNREADABLE s_LINK x g h) := by
  refine Ct.of (plainFor_of_name pn3) ?_
  intro p e s m below meth c s1 hx hby hml hnm hret hlk X0
  refine Wo.cast (f' := (mkF m 0 #[.val (.ref x)] [])) (by first | rfl | (simp [entryFrame, mkF, argsToLocals, Value.category]; done)) ?_
  show Wo _ _ _ _ _ _ _ _ _ _ _ s1 (mkF m 0 #[.val (.ref x)] [])
  refine P.aloadN X0 hx 1 (hb hby d11_0) rfl rfl rfl ?_
  refine X0.getF hx (host := "") (Or.inl (w56 cx)) Via.refl P0 (hb hby d11_1) ?_
  intro T1 X1
  refine P.ifnonnullYes X1 hx 11 (hb hby d11_4) (by decide) (by decide) ?_
  refine P.iconst X1 hx 12 0 (hb hby d11_11) rfl rfl ?_
  exact WS.retN X1 (WL' := []) (FL' := []) hx (t := .boolean) hret (by simp) hlk (hb hby d11_12) (nle rfl) (nle rfl) ⟨rfl, rfl, rfl, rfl⟩
def Q_read (Z : State) (G1 : Int32) (s_BINARY : Addr) (s_CORRUPT : Addr) (s_TRUNCATED : Addr) (s_UNREADABLE : Addr) (s_LINK : Addr) (g : Addr) (h : Heap) (v : Option Value) (h' : Heap) (WL' FL' : List Addr) : Prop := ∃ x : Addr, v = some (.ref x) ∧ WL' = [x] ∧ FL' = [] ∧ Keep h h' [] ∧ Exa Z h' x "com/example/lynceus/lynceus/InputItem" ∧ Fld Z h' x "com/example/lynceus/lynceus/InputItem" "name" "Ljava/lang/String;" (.ref g) ∧ Fld Z h' x "com/example/lynceus/lynceus/InputItem" "skipped" "Lcom/example/lynceus/lynceus/SkipReason;" .null
set_option maxRecDepth 65536 in
set_option maxHeartbeats 4000000 in
theorem ct_read {l : Launch} {Z : State} {a0 : Array Value} {G1 : Int32} {s_BINARY : Addr} {s_CORRUPT : Addr} {s_TRUNCATED : Addr} {s_UNREADABLE : Addr} {s_LINK : Addr} (cx : Cx a0 Z G1 s_BINARY s_CORRUPT s_TRUNCATED s_UNREADABLE s_LINK) {n0 : Nat} (g : Addr) (h : Heap) (WL FL : List Addr)  :
    Ct l Z EL1 n0 (⟨"com/example/lynceus/lynceus/InputItem", "read", "(Ljava/lang/String;)Lcom/example/lynceus/lynceus/InputItem;"⟩ : MethodName) prog_8_method_2_code 1 (Option.some (Jvm.ClassFile.FieldType.object "com/example/lynceus/lynceus/InputItem")) ({ frames := 3, cells := 3, slots := 22, locals := 39 } : Room) #[(.ref g)] h WL FL (Q_read Z G1 s_BINARY s_CORRUPT s_TRUNCATED s_UNREADABLE s_LINK g h) := by
  refine Ct.of (plainFor_of_name pn3) ?_
  intro p e s m below meth c s1 hx hby hml hnm hret hlk X0
  refine Wo.cast (f' := (mkF m 0 #[.val (.ref g)] [])) (by first | rfl | (simp [entryFrame, mkF, argsToLocals, Value.category]; done)) ?_
  have K0 : Keep h h [] := Keep.refl _ _
  show Wo _ _ _ _ _ _ _ _ _ _ _ s1 (mkF m 0 #[.val (.ref g)] [])
  refine X0.newO hx (w66 cx) (w36 cx) (w37 cx) (hb hby d12_0) (nle rfl) (nle rfl) ?_
  intro T1 h1 a1 X1 E1 g1 A1 D1
  have ge2 : h.size ≤ a1 := Nat.le_trans K0.1 g1
  have K3 : Keep h h1 [] := K0.ext E1
  have D4 : Fld Z h1 a1 "com/example/lynceus/lynceus/InputItem" "name" "Ljava/lang/String;" .null := D1 (Or.inr (w55 cx)) (ty := (.object "java/lang/String")) (by decide)
  have D5 : Fld Z h1 a1 "com/example/lynceus/lynceus/InputItem" "skipped" "Lcom/example/lynceus/lynceus/SkipReason;" .null := D1 (Or.inr (w57 cx)) (ty := (.object "com/example/lynceus/lynceus/SkipReason")) (by decide)
  refine P.dup X1 hx 4 (hb hby d12_3) rfl rfl ?_
  refine P.aloadN X1 hx 5 (hb hby d12_4) rfl rfl rfl ?_
  refine P.aconstNull X1 hx 6 (hb hby d12_5) rfl ?_
  refine X1.callC hx rfl (w67 cx) (w39 cx) (w40 cx) (by decide) (Ct.pay (W := 1) (ct_itinit cx a1 g .null h1 _ _ A1 D4 D5 (List.mem_of_getElem? (i := 0) rfl) rfl) (w40 cx) (w37 cx) (nle rfl) (nle rfl)) (by rw [hml]; rfl) (argsL := [.ref g, .null]) (rest := [.ref a1]) (lenOf pd3 rfl) rfl rfl (Nat.le_of_eq rfl) (hb hby d12_6) (nle rfl) (nle rfl) ?_
  rintro T6 h6 _ _ _ X6 ⟨rfl, rfl, rfl, J6, G7, G8⟩
  have K9 : Keep h h6 [] := K3.trans J6 (allS (Or.inr ge2) all0)
  have F10 : Exa Z h6 a1 "com/example/lynceus/lynceus/InputItem" := (A1.keep J6)
  exact WS.retA X6 (WL' := [a1]) (FL' := []) hx hret rfl rfl hlk (hb hby d12_9) (nle rfl) (nle rfl) ⟨a1, rfl, rfl, rfl, K9, F10, G7, G8⟩
def Q_skipped (Z : State) (G1 : Int32) (s_BINARY : Addr) (s_CORRUPT : Addr) (s_TRUNCATED : Addr) (s_UNREADABLE : Addr) (s_LINK : Addr) (g : Addr) (q : Addr) (h : Heap) (v : Option Value) (h' : Heap) (WL' FL' : List Addr) : Prop := ∃ x : Addr, v = some (.ref x) ∧ WL' = [x] ∧ FL' = [] ∧ Keep h h' [] ∧ Exa Z h' x "com/example/lynceus/lynceus/InputItem" ∧ Fld Z h' x "com/example/lynceus/lynceus/InputItem" "name" "Ljava/lang/String;" (.ref g) ∧ Fld Z h' x "com/example/lynceus/lynceus/InputItem" "skipped" "Lcom/example/lynceus/lynceus/SkipReason;" (.ref q)
set_option maxRecDepth 65536 in
set_option maxHeartbeats 4000000 in
theorem ct_skipped {l : Launch} {Z : State} {a0 : Array Value} {G1 : Int32} {s_BINARY : Addr} {s_CORRUPT : Addr} {s_TRUNCATED : Addr} {s_UNREADABLE : Addr} {s_LINK : Addr} (cx : Cx a0 Z G1 s_BINARY s_CORRUPT s_TRUNCATED s_UNREADABLE s_LINK) {n0 : Nat} (g : Addr) (q : Addr) (h : Heap) (WL FL : List Addr) (P0 : Exa Z h q "com/example/lynceus/lynceus/SkipReason") :
    Ct l Z EL1 n0 (⟨"com/example/lynceus/lynceus/InputItem", "skipped", "(Ljava/lang/String;Lcom/example/lynceus/lynceus/SkipReason;)Lcom/example/lynceus/lynceus/InputItem;"⟩ : MethodName) prog_8_method_3_code 2 (Option.some (Jvm.ClassFile.FieldType.object "com/example/lynceus/lynceus/InputItem")) ({ frames := 3, cells := 5, slots := 50, locals := 39 } : Room) #[(.ref g), (.ref q)] h WL FL (Q_skipped Z G1 s_BINARY s_CORRUPT s_TRUNCATED s_UNREADABLE s_LINK g q h) := by
  refine Ct.of (plainFor_of_name pn3) ?_
  intro p e s m below meth c s1 hx hby hml hnm hret hlk X0
  refine Wo.cast (f' := (mkF m 0 #[.val (.ref g), .val (.ref q)] [])) (by first | rfl | (simp [entryFrame, mkF, argsToLocals, Value.category]; done)) ?_
  have K0 : Keep h h [] := Keep.refl _ _
  show Wo _ _ _ _ _ _ _ _ _ _ _ s1 (mkF m 0 #[.val (.ref g), .val (.ref q)] [])
  refine X0.newO hx (w66 cx) (w36 cx) (w37 cx) (hb hby d13_0) (nle rfl) (nle rfl) ?_
  intro T1 h1 a1 X1 E1 g1 A1 D1
  have ge2 : h.size ≤ a1 := Nat.le_trans K0.1 g1
  have K3 : Keep h h1 [] := K0.ext E1
  have D4 : Fld Z h1 a1 "com/example/lynceus/lynceus/InputItem" "name" "Ljava/lang/String;" .null := D1 (Or.inr (w55 cx)) (ty := (.object "java/lang/String")) (by decide)
  have D5 : Fld Z h1 a1 "com/example/lynceus/lynceus/InputItem" "skipped" "Lcom/example/lynceus/lynceus/SkipReason;" .null := D1 (Or.inr (w57 cx)) (ty := (.object "com/example/lynceus/lynceus/SkipReason")) (by decide)
  refine P.dup X1 hx 4 (hb hby d13_3) rfl rfl ?_
  refine P.aloadN X1 hx 5 (hb hby d13_4) rfl rfl rfl ?_
  refine P.aloadN X1 hx 6 (hb hby d13_5) rfl rfl rfl ?_
  refine X1.ldc hx (w75 cx) (strAtoms cx) (by decide) (vs := [(.int (114 : Int32)), (.int (101 : Int32)), (.int (97 : Int32)), (.int (115 : Int32)), (.int (111 : Int32)), (.int (110 : Int32))]) (z := (6 : Int32)) ⟨by decide, by decide⟩ (by decide) rfl (hb hby d13_6) (n := 24) (nle rfl) (nle rfl) (nle rfl) (nle rfl) ?_
  intro T6 h6 a6 b6 k6 X6 E6 A6 C6 V6 B6
  have K7 : Keep h h6 [] := K3.ext E6
  refine X6.callS hx (w50 cx) (w51 cx) (w52 cx) (w53 cx) (by decide) (Ct.pay (W := 3) (ct_rnn cx q a6 h6 _ _ ) (w53 cx) (w52 cx) (nle rfl) (nle rfl)) (by rw [hml]; rfl) (argsL := [.ref q, .ref a6]) (rest := [.ref g, .ref a1, .ref a1]) (lenOf pd2 rfl) rfl rfl (Nat.le_of_eq rfl) (hb hby d13_8) (nle rfl) (nle rfl) ?_
  rintro T8 h8 _ _ _ X8 ⟨rfl, rfl, rfl, J8⟩
  rw [J8] at X8
  have F9 : Exa Z h6 q "com/example/lynceus/lynceus/SkipReason" := ((P0.ext E1).ext E6)
  refine X8.castY hx (w76 cx) (Ins.self F9) (hb hby d13_11) ?_
  intro T10 X10
  have F11 : Exa Z h6 a1 "com/example/lynceus/lynceus/InputItem" := (A1.ext E6)
  have F12 : Fld Z h6 a1 "com/example/lynceus/lynceus/InputItem" "name" "Ljava/lang/String;" .null := (D4.ext E6)
  have F13 : Fld Z h6 a1 "com/example/lynceus/lynceus/InputItem" "skipped" "Lcom/example/lynceus/lynceus/SkipReason;" .null := (D5.ext E6)
  refine X10.callC hx rfl (w67 cx) (w39 cx) (w40 cx) (by decide) (Ct.pay (W := 1) (ct_itinit cx a1 g (.ref q) h6 _ _ F11 F12 F13 (List.mem_of_getElem? (i := 0) rfl) rfl) (w40 cx) (w37 cx) (nle rfl) (nle rfl)) (by rw [hml]; rfl) (argsL := [.ref g, .ref q]) (rest := [.ref a1]) (lenOf pd3 rfl) rfl rfl (Nat.le_of_eq rfl) (hb hby d13_14) (nle rfl) (nle rfl) ?_
  rintro T14 h14 _ _ _ X14 ⟨rfl, rfl, rfl, J14, G15, G16⟩
  have K17 : Keep h h14 [] := K7.trans J14 (allS (Or.inr ge2) all0)
  have F18 : Exa Z h14 a1 "com/example/lynceus/lynceus/InputItem" := (F11.keep J14)
  have X19 := WS.fl (FL2 := FL) X14 (fun y hy => (List.mem_append_right [a6, b6] hy))
  exact WS.retA X19 (WL' := [a1]) (FL' := []) hx hret rfl rfl hlk (hb hby d13_17) (nle rfl) (nle rfl) ⟨a1, rfl, rfl, rfl, K17, F18, G15, G16⟩
def Q_reason_0 (Z : State) (G1 : Int32) (s_BINARY : Addr) (s_CORRUPT : Addr) (s_TRUNCATED : Addr) (s_UNREADABLE : Addr) (s_LINK : Addr) (h : Heap) (v : Option Value) (h' : Heap) (WL' FL' : List Addr) : Prop := v = some .null ∧ WL' = [] ∧ FL' = [] ∧ h' = h
set_option maxRecDepth 65536 in
set_option maxHeartbeats 4000000 in
theorem ct_reason_0 {l : Launch} {Z : State} {a0 : Array Value} {G1 : Int32} {s_BINARY : Addr} {s_CORRUPT : Addr} {s_TRUNCATED : Addr} {s_UNREADABLE : Addr} {s_LINK : Addr} (cx : Cx a0 Z G1 s_BINARY s_CORRUPT s_TRUNCATED s_UNREADABLE s_LINK) {n0 : Nat} (h : Heap) (WL FL : List Addr)  :
    Ct l Z EL1 n0 (⟨"com/example/lynceus/lynceus/InputItemIsReadPinLaw", "reason", "(I)Lcom/example/lynceus/lynceus/SkipReason;"⟩ : MethodName) method_2_code 1 (Option.some (Jvm.ClassFile.FieldType.object "com/example/lynceus/lynceus/SkipReason")) ({ frames := 0, cells := 0, slots := 0, locals := 0 } : Room) #[(.int (0 : Int32))] h WL FL (Q_reason_0 Z G1 s_BINARY s_CORRUPT s_TRUNCATED s_UNREADABLE s_LINK h) := by
  refine Ct.of (plainFor_of_name pn4) ?_
  intro p e s m below meth c s1 hx hby hml hnm hret hlk X0
  refine Wo.cast (f' := (mkF m 0 #[.val (.int (0 : Int32))] [])) (by first | rfl | (simp [entryFrame, mkF, argsToLocals, Value.category]; done)) ?_
  show Wo _ _ _ _ _ _ _ _ _ _ _ s1 (mkF m 0 #[.val (.int (0 : Int32))] [])
  refine P.iloadN X0 hx 1 (hb hby d1_0) rfl rfl ?_
  refine P.iconst X0 hx 2 1 (hb hby d1_1) rfl rfl ?_
  refine P.icmpYes X0 hx 9 (hb hby d1_2) (by decide) (by decide) (by decide) ?_
  refine P.iloadN X0 hx 10 (hb hby d1_9) rfl rfl ?_
  refine P.iconst X0 hx 11 2 (hb hby d1_10) rfl rfl ?_
  refine P.icmpYes X0 hx 18 (hb hby d1_11) (by decide) (by decide) (by decide) ?_
  refine P.iloadN X0 hx 19 (hb hby d1_18) rfl rfl ?_
  refine P.iconst X0 hx 20 3 (hb hby d1_19) rfl rfl ?_
  refine P.icmpYes X0 hx 27 (hb hby d1_20) (by decide) (by decide) (by decide) ?_
  refine P.iloadN X0 hx 28 (hb hby d1_27) rfl rfl ?_
  refine P.iconst X0 hx 29 4 (hb hby d1_28) rfl rfl ?_
  refine P.icmpYes X0 hx 36 (hb hby d1_29) (by decide) (by decide) (by decide) ?_
  refine P.iloadN X0 hx 37 (hb hby d1_36) rfl rfl ?_
  refine P.iconst X0 hx 38 5 (hb hby d1_37) rfl rfl ?_
  refine P.icmpYes X0 hx 45 (hb hby d1_38) (by decide) (by decide) (by decide) ?_
  refine P.aconstNull X0 hx 46 (hb hby d1_45) rfl ?_
  exact WS.retA X0 (WL' := []) (FL' := []) hx hret rfl rfl hlk (hb hby d1_46) (nle rfl) (nle rfl) ⟨rfl, rfl, rfl, rfl⟩
def Q_reason_1 (Z : State) (G1 : Int32) (s_BINARY : Addr) (s_CORRUPT : Addr) (s_TRUNCATED : Addr) (s_UNREADABLE : Addr) (s_LINK : Addr) (h : Heap) (v : Option Value) (h' : Heap) (WL' FL' : List Addr) : Prop := v = some (.ref s_BINARY) ∧ WL' = [] ∧ FL' = [] ∧ h' = h
set_option maxRecDepth 65536 in
set_option maxHeartbeats 4000000 in
theorem ct_reason_1 {l : Launch} {Z : State} {a0 : Array Value} {G1 : Int32} {s_BINARY : Addr} {s_CORRUPT : Addr} {s_TRUNCATED : Addr} {s_UNREADABLE : Addr} {s_LINK : Addr} (cx : Cx a0 Z G1 s_BINARY s_CORRUPT s_TRUNCATED s_UNREADABLE s_LINK) {n0 : Nat} (h : Heap) (WL FL : List Addr)  :
    Ct l Z EL1 n0 (⟨"com/example/lynceus/lynceus/InputItemIsReadPinLaw", "reason", "(I)Lcom/example/lynceus/lynceus/SkipReason;"⟩ : MethodName) method_2_code 1 (Option.some (Jvm.ClassFile.FieldType.object "com/example/lynceus/lynceus/SkipReason")) ({ frames := 0, cells := 0, slots := 0, locals := 0 } : Room) #[(.int (1 : Int32))] h WL FL (Q_reason_1 Z G1 s_BINARY s_CORRUPT s_TRUNCATED s_UNREADABLE s_LINK h) := by
  refine Ct.of (plainFor_of_name pn4) ?_
  intro p e s m below meth c s1 hx hby hml hnm hret hlk X0
  refine Wo.cast (f' := (mkF m 0 #[.val (.int (1 : Int32))] [])) (by first | rfl | (simp [entryFrame, mkF, argsToLocals, Value.category]; done)) ?_
  show Wo _ _ _ _ _ _ _ _ _ _ _ s1 (mkF m 0 #[.val (.int (1 : Int32))] [])
  refine P.iloadN X0 hx 1 (hb hby d1_0) rfl rfl ?_
  refine P.iconst X0 hx 2 1 (hb hby d1_1) rfl rfl ?_
  refine P.icmpNo X0 hx 5 (hb hby d1_2) (by decide) rfl ?_
  refine X0.getS hx (w69 cx) Via.refl (S_BINARY cx) (hb hby d1_5) ?_
  intro T1 X1
  exact WS.retA X1 (WL' := []) (FL' := []) hx hret rfl rfl hlk (hb hby d1_8) (nle rfl) (nle rfl) ⟨rfl, rfl, rfl, rfl⟩
def Q_reason_2 (Z : State) (G1 : Int32) (s_BINARY : Addr) (s_CORRUPT : Addr) (s_TRUNCATED : Addr) (s_UNREADABLE : Addr) (s_LINK : Addr) (h : Heap) (v : Option Value) (h' : Heap) (WL' FL' : List Addr) : Prop := v = some (.ref s_LINK) ∧ WL' = [] ∧ FL' = [] ∧ h' = h
set_option maxRecDepth 65536 in
set_option maxHeartbeats 4000000 in
theorem ct_reason_2 {l : Launch} {Z : State} {a0 : Array Value} {G1 : Int32} {s_BINARY : Addr} {s_CORRUPT : Addr} {s_TRUNCATED : Addr} {s_UNREADABLE : Addr} {s_LINK : Addr} (cx : Cx a0 Z G1 s_BINARY s_CORRUPT s_TRUNCATED s_UNREADABLE s_LINK) {n0 : Nat} (h : Heap) (WL FL : List Addr)  :
    Ct l Z EL1 n0 (⟨"com/example/lynceus/lynceus/InputItemIsReadPinLaw", "reason", "(I)Lcom/example/lynceus/lynceus/SkipReason;"⟩ : MethodName) method_2_code 1 (Option.some (Jvm.ClassFile.FieldType.object "com/example/lynceus/lynceus/SkipReason")) ({ frames := 0, cells := 0, slots := 0, locals := 0 } : Room) #[(.int (2 : Int32))] h WL FL (Q_reason_2 Z G1 s_BINARY s_CORRUPT s_TRUNCATED s_UNREADABLE s_LINK h) := by
  refine Ct.of (plainFor_of_name pn4) ?_
  intro p e s m below meth c s1 hx hby hml hnm hret hlk X0
  refine Wo.cast (f' := (mkF m 0 #[.val (.int (2 : Int32))] [])) (by first | rfl | (simp [entryFrame, mkF, argsToLocals, Value.category]; done)) ?_
  show Wo _ _ _ _ _ _ _ _ _ _ _ s1 (mkF m 0 #[.val (.int (2 : Int32))] [])
  refine P.iloadN X0 hx 1 (hb hby d1_0) rfl rfl ?_
  refine P.iconst X0 hx 2 1 (hb hby d1_1) rfl rfl ?_
  refine P.icmpYes X0 hx 9 (hb hby d1_2) (by decide) (by decide) (by decide) ?_
  refine P.iloadN X0 hx 10 (hb hby d1_9) rfl rfl ?_
  refine P.iconst X0 hx 11 2 (hb hby d1_10) rfl rfl ?_
  refine P.icmpNo X0 hx 14 (hb hby d1_11) (by decide) rfl ?_
  refine X0.getS hx (w84 cx) Via.refl (S_LINK cx) (hb hby d1_14) ?_
  intro T1 X1
  exact WS.retA X1 (WL' := []) (FL' := []) hx hret rfl rfl hlk (hb hby d1_17) (nle rfl) (nle rfl) ⟨rfl, rfl, rfl, rfl⟩
def Q_reason_3 (Z : State) (G1 : Int32) (s_BINARY : Addr) (s_CORRUPT : Addr) (s_TRUNCATED : Addr) (s_UNREADABLE : Addr) (s_LINK : Addr) (h : Heap) (v : Option Value) (h' : Heap) (WL' FL' : List Addr) : Prop := v = some (.ref s_TRUNCATED) ∧ WL' = [] ∧ FL' = [] ∧ h' = h
set_option maxRecDepth 65536 in
set_option maxHeartbeats 4000000 in
theorem ct_reason_3 {l : Launch} {Z : State} {a0 : Array Value} {G1 : Int32} {s_BINARY : Addr} {s_CORRUPT : Addr} {s_TRUNCATED : Addr} {s_UNREADABLE : Addr} {s_LINK : Addr} (cx : Cx a0 Z G1 s_BINARY s_CORRUPT s_TRUNCATED s_UNREADABLE s_LINK) {n0 : Nat} (h : Heap) (WL FL : List Addr)  :
    Ct l Z EL1 n0 (⟨"com/example/lynceus/lynceus/InputItemIsReadPinLaw", "reason", "(I)Lcom/example/lynceus/lynceus/SkipReason;"⟩ : MethodName) method_2_code 1 (Option.some (Jvm.ClassFile.FieldType.object "com/example/lynceus/lynceus/SkipReason")) ({ frames := 0, cells := 0, slots := 0, locals := 0 } : Room) #[(.int (3 : Int32))] h WL FL (Q_reason_3 Z G1 s_BINARY s_CORRUPT s_TRUNCATED s_UNREADABLE s_LINK h) := by
  refine Ct.of (plainFor_of_name pn4) ?_
  intro p e s m below meth c s1 hx hby hml hnm hret hlk X0
  refine Wo.cast (f' := (mkF m 0 #[.val (.int (3 : Int32))] [])) (by first | rfl | (simp [entryFrame, mkF, argsToLocals, Value.category]; done)) ?_
  show Wo _ _ _ _ _ _ _ _ _ _ _ s1 (mkF m 0 #[.val (.int (3 : Int32))] [])
  refine P.iloadN X0 hx 1 (hb hby d1_0) rfl rfl ?_
  refine P.iconst X0 hx 2 1 (hb hby d1_1) rfl rfl ?_
  refine P.icmpYes X0 hx 9 (hb hby d1_2) (by decide) (by decide) (by decide) ?_
  refine P.iloadN X0 hx 10 (hb hby d1_9) rfl rfl ?_
  refine P.iconst X0 hx 11 2 (hb hby d1_10) rfl rfl ?_
  refine P.icmpYes X0 hx 18 (hb hby d1_11) (by decide) (by decide) (by decide) ?_
  refine P.iloadN X0 hx 19 (hb hby d1_18) rfl rfl ?_
  refine P.iconst X0 hx 20 3 (hb hby d1_19) rfl rfl ?_
  refine P.icmpNo X0 hx 23 (hb hby d1_20) (by decide) rfl ?_
  refine X0.getS hx (w80 cx) Via.refl (S_TRUNCATED cx) (hb hby d1_23) ?_
  intro T1 X1
  exact WS.retA X1 (WL' := []) (FL' := []) hx hret rfl rfl hlk (hb hby d1_26) (nle rfl) (nle rfl) ⟨rfl, rfl, rfl, rfl⟩
def Q_reason_4 (Z : State) (G1 : Int32) (s_BINARY : Addr) (s_CORRUPT : Addr) (s_TRUNCATED : Addr) (s_UNREADABLE : Addr) (s_LINK : Addr) (h : Heap) (v : Option Value) (h' : Heap) (WL' FL' : List Addr) : Prop := v = some (.ref s_CORRUPT) ∧ WL' = [] ∧ FL' = [] ∧ h' = h
set_option maxRecDepth 65536 in
set_option maxHeartbeats 4000000 in
theorem ct_reason_4 {l : Launch} {Z : State} {a0 : Array Value} {G1 : Int32} {s_BINARY : Addr} {s_CORRUPT : Addr} {s_TRUNCATED : Addr} {s_UNREADABLE : Addr} {s_LINK : Addr} (cx : Cx a0 Z G1 s_BINARY s_CORRUPT s_TRUNCATED s_UNREADABLE s_LINK) {n0 : Nat} (h : Heap) (WL FL : List Addr)  :
    Ct l Z EL1 n0 (⟨"com/example/lynceus/lynceus/InputItemIsReadPinLaw", "reason", "(I)Lcom/example/lynceus/lynceus/SkipReason;"⟩ : MethodName) method_2_code 1 (Option.some (Jvm.ClassFile.FieldType.object "com/example/lynceus/lynceus/SkipReason")) ({ frames := 0, cells := 0, slots := 0, locals := 0 } : Room) #[(.int (4 : Int32))] h WL FL (Q_reason_4 Z G1 s_BINARY s_CORRUPT s_TRUNCATED s_UNREADABLE s_LINK h) := by
  refine Ct.of (plainFor_of_name pn4) ?_
  intro p e s m below meth c s1 hx hby hml hnm hret hlk X0
  refine Wo.cast (f' := (mkF m 0 #[.val (.int (4 : Int32))] [])) (by first | rfl | (simp [entryFrame, mkF, argsToLocals, Value.category]; done)) ?_
  show Wo _ _ _ _ _ _ _ _ _ _ _ s1 (mkF m 0 #[.val (.int (4 : Int32))] [])
  refine P.iloadN X0 hx 1 (hb hby d1_0) rfl rfl ?_
  refine P.iconst X0 hx 2 1 (hb hby d1_1) rfl rfl ?_
  refine P.icmpYes X0 hx 9 (hb hby d1_2) (by decide) (by decide) (by decide) ?_
  refine P.iloadN X0 hx 10 (hb hby d1_9) rfl rfl ?_
  refine P.iconst X0 hx 11 2 (hb hby d1_10) rfl rfl ?_
  refine P.icmpYes X0 hx 18 (hb hby d1_11) (by decide) (by decide) (by decide) ?_
  refine P.iloadN X0 hx 19 (hb hby d1_18) rfl rfl ?_
  refine P.iconst X0 hx 20 3 (hb hby d1_19) rfl rfl ?_
  refine P.icmpYes X0 hx 27 (hb hby d1_20) (by decide) (by decide) (by decide) ?_
  refine P.iloadN X0 hx 28 (hb hby d1_27) rfl rfl ?_
  refine P.iconst X0 hx 29 4 (hb hby d1_28) rfl rfl ?_
  refine P.icmpNo X0 hx 32 (hb hby d1_29) (by decide) rfl ?_
  refine X0.getS hx (w78 cx) Via.refl (S_CORRUPT cx) (hb hby d1_32) ?_
  intro T1 X1
  exact WS.retA X1 (WL' := []) (FL' := []) hx hret rfl rfl hlk (hb hby d1_35) (nle rfl) (nle rfl) ⟨rfl, rfl, rfl, rfl⟩
def Q_reason_5 (Z : State) (G1 : Int32) (s_BINARY : Addr) (s_CORRUPT : Addr) (s_TRUNCATED : Addr) (s_UNREADABLE : Addr) (s_LINK : Addr) (h : Heap) (v : Option Value) (h' : Heap) (WL' FL' : List Addr) : Prop := v = some (.ref s_UNREADABLE) ∧ WL' = [] ∧ FL' = [] ∧ h' = h
set_option maxRecDepth 65536 in
set_option maxHeartbeats 4000000 in
theorem ct_reason_5 {l : Launch} {Z : State} {a0 : Array Value} {G1 : Int32} {s_BINARY : Addr} {s_CORRUPT : Addr} {s_TRUNCATED : Addr} {s_UNREADABLE : Addr} {s_LINK : Addr} (cx : Cx a0 Z G1 s_BINARY s_CORRUPT s_TRUNCATED s_UNREADABLE s_LINK) {n0 : Nat} (h : Heap) (WL FL : List Addr)  :
    Ct l Z EL1 n0 (⟨"com/example/lynceus/lynceus/InputItemIsReadPinLaw", "reason", "(I)Lcom/example/lynceus/lynceus/SkipReason;"⟩ : MethodName) method_2_code 1 (Option.some (Jvm.ClassFile.FieldType.object "com/example/lynceus/lynceus/SkipReason")) ({ frames := 0, cells := 0, slots := 0, locals := 0 } : Room) #[(.int (5 : Int32))] h WL FL (Q_reason_5 Z G1 s_BINARY s_CORRUPT s_TRUNCATED s_UNREADABLE s_LINK h) := by
  refine Ct.of (plainFor_of_name pn4) ?_
  intro p e s m below meth c s1 hx hby hml hnm hret hlk X0
  refine Wo.cast (f' := (mkF m 0 #[.val (.int (5 : Int32))] [])) (by first | rfl | (simp [entryFrame, mkF, argsToLocals, Value.category]; done)) ?_
  show Wo _ _ _ _ _ _ _ _ _ _ _ s1 (mkF m 0 #[.val (.int (5 : Int32))] [])
  refine P.iloadN X0 hx 1 (hb hby d1_0) rfl rfl ?_
  refine P.iconst X0 hx 2 1 (hb hby d1_1) rfl rfl ?_
  refine P.icmpYes X0 hx 9 (hb hby d1_2) (by decide) (by decide) (by decide) ?_
  refine P.iloadN X0 hx 10 (hb hby d1_9) rfl rfl ?_
  refine P.iconst X0 hx 11 2 (hb hby d1_10) rfl rfl ?_
  refine P.icmpYes X0 hx 18 (hb hby d1_11) (by decide) (by decide) (by decide) ?_
  refine P.iloadN X0 hx 19 (hb hby d1_18) rfl rfl ?_
  refine P.iconst X0 hx 20 3 (hb hby d1_19) rfl rfl ?_
  refine P.icmpYes X0 hx 27 (hb hby d1_20) (by decide) (by decide) (by decide) ?_
  refine P.iloadN X0 hx 28 (hb hby d1_27) rfl rfl ?_
  refine P.iconst X0 hx 29 4 (hb hby d1_28) rfl rfl ?_
  refine P.icmpYes X0 hx 36 (hb hby d1_29) (by decide) (by decide) (by decide) ?_
  refine P.iloadN X0 hx 37 (hb hby d1_36) rfl rfl ?_
  refine P.iconst X0 hx 38 5 (hb hby d1_37) rfl rfl ?_
  refine P.icmpNo X0 hx 41 (hb hby d1_38) (by decide) rfl ?_
  refine X0.getS hx (w82 cx) Via.refl (S_UNREADABLE cx) (hb hby d1_41) ?_
  intro T1 X1
  exact WS.retA X1 (WL' := []) (FL' := []) hx hret rfl rfl hlk (hb hby d1_44) (nle rfl) (nle rfl) ⟨rfl, rfl, rfl, rfl⟩
def Q_reasonN (Z : State) (G1 : Int32) (s_BINARY : Addr) (s_CORRUPT : Addr) (s_TRUNCATED : Addr) (s_UNREADABLE : Addr) (s_LINK : Addr) (k : Int32) (h : Heap) (v : Option Value) (h' : Heap) (WL' FL' : List Addr) : Prop := ∃ q : Addr, v = some (.ref q) ∧ WL' = [] ∧ FL' = [] ∧ h' = h ∧ (Exa Z Z.heap q "com/example/lynceus/lynceus/SkipReason")
set_option maxRecDepth 65536 in
theorem ct_reasonN {l : Launch} {Z : State} {a0 : Array Value} {G1 : Int32} {s_BINARY : Addr} {s_CORRUPT : Addr} {s_TRUNCATED : Addr} {s_UNREADABLE : Addr} {s_LINK : Addr} (cx : Cx a0 Z G1 s_BINARY s_CORRUPT s_TRUNCATED s_UNREADABLE s_LINK) {n0 : Nat} (k : Int32) (h : Heap) (WL FL : List Addr) (hk : k = 1 ∨ k = 2 ∨ k = 3 ∨ k = 4 ∨ k = 5) :
    Ct l Z EL1 n0 (⟨"com/example/lynceus/lynceus/InputItemIsReadPinLaw", "reason", "(I)Lcom/example/lynceus/lynceus/SkipReason;"⟩ : MethodName) method_2_code 1 (Option.some (Jvm.ClassFile.FieldType.object "com/example/lynceus/lynceus/SkipReason")) ({ frames := 0, cells := 0, slots := 0, locals := 0 } : Room) #[(.int k)] h WL FL (Q_reasonN Z G1 s_BINARY s_CORRUPT s_TRUNCATED s_UNREADABLE s_LINK k h) := by
  rcases hk with rfl | rfl | rfl | rfl | rfl
  · exact (ct_reason_1 cx h WL FL).mono (fun v h' WL' FL' ⟨q1, q2, q3, q4⟩ => ⟨_, q1, q2, q3, q4, E_BINARY cx⟩)
  · exact (ct_reason_2 cx h WL FL).mono (fun v h' WL' FL' ⟨q1, q2, q3, q4⟩ => ⟨_, q1, q2, q3, q4, E_LINK cx⟩)
  · exact (ct_reason_3 cx h WL FL).mono (fun v h' WL' FL' ⟨q1, q2, q3, q4⟩ => ⟨_, q1, q2, q3, q4, E_TRUNCATED cx⟩)
  · exact (ct_reason_4 cx h WL FL).mono (fun v h' WL' FL' ⟨q1, q2, q3, q4⟩ => ⟨_, q1, q2, q3, q4, E_CORRUPT cx⟩)
  · exact (ct_reason_5 cx h WL FL).mono (fun v h' WL' FL' ⟨q1, q2, q3, q4⟩ => ⟨_, q1, q2, q3, q4, E_UNREADABLE cx⟩)
def Q_law (Z : State) (G1 : Int32) (s_BINARY : Addr) (s_CORRUPT : Addr) (s_TRUNCATED : Addr) (s_UNREADABLE : Addr) (s_LINK : Addr) (p0 : Int32) (p1 : Int32) (p2 : Int32) (p3 : Int32) (h : Heap) (v : Option Value) (h' : Heap) (WL' FL' : List Addr) : Prop := v = some (.int (1 : Int32)) ∧ WL' = [] ∧ FL' = [] ∧ Keep h h' []
set_option maxRecDepth 65536 in
set_option maxHeartbeats 4000000 in
theorem ct_law_00 {l : Launch} {Z : State} {a0 : Array Value} {G1 : Int32} {s_BINARY : Addr} {s_CORRUPT : Addr} {s_TRUNCATED : Addr} {s_UNREADABLE : Addr} {s_LINK : Addr} (cx : Cx a0 Z G1 s_BINARY s_CORRUPT s_TRUNCATED s_UNREADABLE s_LINK) {n0 : Nat} (p0 : Int32) (p1 : Int32) (p2 : Int32) (p3 : Int32) (h : Heap) (WL FL : List Addr)  (ef : p3 &&& 1 = 0) (ek : ((p0 &&& (2147483647 : Int32)) % (6 : Int32)) = 0) :
    Ct l Z EL1 n0 x code maxLocals ret room_1 #[(.int p0), (.int p1), (.int p2), (.int p3)] h WL FL (Q_law Z G1 s_BINARY s_CORRUPT s_TRUNCATED s_UNREADABLE s_LINK p0 p1 p2 p3 h) := by
  refine Ct.of (plainFor_of_name pn4) ?_
  intro p e s m below meth c s1 hx hby hml hnm hret hlk X0
  refine Wo.cast (f' := (mkF m 0 #[.val (.int p0), .val (.int p1), .val (.int p2), .val (.int p3), .unset, .unset, .unset, .unset, .unset, .unset, .unset, .unset] [])) (by first | rfl | (simp [entryFrame, mkF, argsToLocals, Value.category]; done)) ?_
  have K0 : Keep h h [] := Keep.refl _ _
  show Wo _ _ _ _ _ _ _ _ _ _ _ s1 (mkF m 0 #[.val (.int p0), .val (.int p1), .val (.int p2), .val (.int p3), .unset, .unset, .unset, .unset, .unset, .unset, .unset, .unset] [])
  refine P.iloadN X0 hx 1 (hb hby at_0) rfl rfl ?_
  refine WS.ldcI X0 hx (w0 cx) (hb hby at_1) ?_
  refine P.iand X0 hx 4 (z := (p0 &&& (2147483647 : Int32))) (hb hby at_3) rfl rfl ?_
  refine P.bipush X0 hx 6 6 (hb hby at_4) rfl rfl ?_
  refine P.irem X0 hx 7 (z := (0 : Int32)) (hb hby at_6) (by decide) (by rw [ek]) rfl ?_
  refine P.istore X0 hx 9 #[.val (.int p0), .val (.int p1), .val (.int p2), .val (.int p3), .val (.int (0 : Int32)), .unset, .unset, .unset, .unset, .unset, .unset, .unset] (hb hby at_7) rfl rfl ?_
  refine P.iload X0 hx 11 (hb hby at_9) rfl rfl ?_
  refine X0.callS hx (w1 cx) (w2 cx) (w3 cx) (w4 cx) (by decide) (Ct.pay (W := 0) (ct_reason_0 cx  h _ _ ) (w4 cx) (w3 cx) (nle rfl) (nle rfl)) (by rw [hml]; rfl) (argsL := [.int (0 : Int32)]) (rest := []) (lenOf pd4 rfl) rfl rfl (Nat.le_of_eq rfl) (hb hby at_11) (nle rfl) (nle rfl) ?_
  rintro T1 h1 _ _ _ X1 ⟨rfl, rfl, rfl, J1⟩
  rw [J1] at X1
  refine P.astore X1 hx 16 #[.val (.int p0), .val (.int p1), .val (.int p2), .val (.int p3), .val (.int (0 : Int32)), .val .null, .unset, .unset, .unset, .unset, .unset, .unset] (hb hby at_14) rfl rfl rfl ?_
  refine P.iconst X1 hx 17 2 (hb hby at_16) rfl rfl ?_
  refine X1.newP (aty := .char) hx (w5 cx) (hb hby at_17) (by decide) (cap := 2) (nle rfl) (nle rfl) (nle rfl) (nle rfl) ?_
  intro T2 h2 a2 k2 X2 E2 g2 A2
  have ge3 : h.size ≤ a2 := Nat.le_trans K0.1 g2
  have K4 : Keep h h2 [] := K0.ext E2
  have V5 : Arv Z h2 a2 k2 .char (2 : Int32) [(.int (0 : Int32)), (.int (0 : Int32))] (.int (0 : Int32)) := Arv.pad A2 (pad_rep [] _ 2)
  refine P.dup X2 hx 20 (hb hby at_19) rfl rfl ?_
  refine P.iconst X2 hx 21 0 (hb hby at_20) rfl rfl ?_
  refine P.iloadN X2 hx 22 (hb hby at_21) rfl rfl ?_
  refine P.sipush X2 hx 25 255 (hb hby at_22) rfl rfl ?_
  refine P.iand X2 hx 26 (z := (p1 &&& (255 : Int32))) (hb hby at_25) rfl rfl ?_
  refine P.i2c X2 hx 27 (z := (p1 &&& (255 : Int32))) (hb hby at_26) (by rw [i2c_mask]) rfl ?_
  refine X2.stC hx V5 (j := (0 : Int32)) (x := (p1 &&& (255 : Int32))) (i := 0) (by decide) rfl (nlt rfl) (List.mem_of_getElem? (i := 0) rfl) (hb hby at_27) ?_
  intro T6 h6 X6 W6 G6
  have K7 : Keep h h6 [] := K4.wr W6 (Or.inr ge3)
  have V8 : Arv Z h6 a2 k2 .char (2 : Int32) [(.int (p1 &&& (255 : Int32))), (.int (0 : Int32))] (.int (0 : Int32)) := by have q := G6; rw [nar255] at q; exact q
  refine P.dup X6 hx 29 (hb hby at_28) rfl rfl ?_
  refine P.iconst X6 hx 30 1 (hb hby at_29) rfl rfl ?_
  refine P.iloadN X6 hx 31 (hb hby at_30) rfl rfl ?_
  refine P.sipush X6 hx 34 255 (hb hby at_31) rfl rfl ?_
  refine P.iand X6 hx 35 (z := (p2 &&& (255 : Int32))) (hb hby at_34) rfl rfl ?_
  refine P.i2c X6 hx 36 (z := (p2 &&& (255 : Int32))) (hb hby at_35) (by rw [i2c_mask]) rfl ?_
  refine X6.stC hx V8 (j := (1 : Int32)) (x := (p2 &&& (255 : Int32))) (i := 1) (by decide) rfl (nlt rfl) (List.mem_of_getElem? (i := 0) rfl) (hb hby at_36) ?_
  intro T9 h9 X9 W9 G9
  have K10 : Keep h h9 [] := K7.wr W9 (Or.inr ge3)
  have V11 : Arv Z h9 a2 k2 .char (2 : Int32) [(.int (p1 &&& (255 : Int32))), (.int (p2 &&& (255 : Int32)))] (.int (0 : Int32)) := by have q := G9; rw [nar255] at q; exact q
  refine P.astore X9 hx 39 #[.val (.int p0), .val (.int p1), .val (.int p2), .val (.int p3), .val (.int (0 : Int32)), .val .null, .val (.ref a2), .unset, .unset, .unset, .unset, .unset] (hb hby at_37) rfl rfl rfl ?_
  refine P.iloadN X9 hx 40 (hb hby at_39) rfl rfl ?_
  refine P.iconst X9 hx 41 1 (hb hby at_40) rfl rfl ?_
  refine P.iand X9 hx 42 (z := (0 : Int32)) (hb hby at_41) (by rw [ef]) rfl ?_
  refine P.ifYes X9 hx 57 (hb hby at_42) (by decide) (by decide) (by decide) ?_
  refine X9.newO hx (w6 cx) (w7 cx) (w8 cx) (hb hby at_57) (nle rfl) (nle rfl) ?_
  intro T12 h12 a12 X12 E12 g12 A12 D12
  have ge13 : h.size ≤ a12 := Nat.le_trans K10.1 g12
  have K14 : Keep h h12 [] := K10.ext E12
  have D15 : Fld Z h12 a12 "java/lang/String" "coder" "B" (.int (0 : Int32)) := D12 (Or.inr (w32 cx)) (ty := .byte) (by decide)
  have D16 : Fld Z h12 a12 "java/lang/String" "value" "[B" .null := D12 (Or.inr (w34 cx)) (ty := (.array .byte)) (by decide)
  refine P.dup X12 hx 61 (hb hby at_60) rfl rfl ?_
  refine P.iconst X12 hx 62 0 (hb hby at_61) rfl rfl ?_
  refine X12.newP (aty := .char) hx (w5 cx) (hb hby at_62) (by decide) (cap := 0) (nle rfl) (nle rfl) (nle rfl) (nle rfl) ?_
  intro T17 h17 a17 k17 X17 E17 g17 A17
  have ge18 : h.size ≤ a17 := Nat.le_trans K14.1 g17
  have K19 : Keep h h17 [] := K14.ext E17
  have V20 : Arv Z h17 a17 k17 .char (0 : Int32) [] (.int (0 : Int32)) := A17
  have F21 : Exa Z h17 a12 "java/lang/String" := (A12.ext E17)
  have F22 : Fld Z h17 a12 "java/lang/String" "value" "[B" .null := (D16.ext E17)
  have F23 : Fld Z h17 a12 "java/lang/String" "coder" "B" (.int (0 : Int32)) := (D15.ext E17)
  refine X17.callC hx rfl (w9 cx) (w10 cx) (w11 cx) (by decide) (Ct.pay (W := 1) (ct_s1e cx a12 a17 _ _ h17 _ _ F21 F22 F23 (List.mem_of_getElem? (i := 1) rfl) V20) (w11 cx) (w8 cx) (nle rfl) (nle rfl)) (by rw [hml]; rfl) (argsL := [.ref a17]) (rest := [.ref a12]) (lenOf pd5 rfl) rfl rfl (Nat.le_of_eq rfl) (hb hby at_64) (nle rfl) (nle rfl) ?_
  rintro T24 h24 _ _ _ X24 ⟨a25, rfl, rfl, rfl, J24, G26⟩
  have K27 : Keep h h24 [] := K19.trans J24 (allS (Or.inr ge13) all0)
  refine P.astore X24 hx 69 #[.val (.int p0), .val (.int p1), .val (.int p2), .val (.int p3), .val (.int (0 : Int32)), .val .null, .val (.ref a2), .val (.ref a12), .unset, .unset, .unset, .unset] (hb hby at_67) rfl rfl rfl ?_
  refine X24.newO hx (w35 cx) (w36 cx) (w37 cx) (hb hby at_69) (nle rfl) (nle rfl) ?_
  intro T28 h28 a28 X28 E28 g28 A28 D28
  have ge29 : h.size ≤ a28 := Nat.le_trans K27.1 g28
  have K30 : Keep h h28 [] := K27.ext E28
  have D31 : Fld Z h28 a28 "com/example/lynceus/lynceus/InputItem" "name" "Ljava/lang/String;" .null := D28 (Or.inr (w55 cx)) (ty := (.object "java/lang/String")) (by decide)
  have D32 : Fld Z h28 a28 "com/example/lynceus/lynceus/InputItem" "skipped" "Lcom/example/lynceus/lynceus/SkipReason;" .null := D28 (Or.inr (w57 cx)) (ty := (.object "com/example/lynceus/lynceus/SkipReason")) (by decide)
  refine P.dup X28 hx 73 (hb hby at_72) rfl rfl ?_
  refine P.aload X28 hx 75 (hb hby at_73) rfl rfl rfl ?_
  refine P.aload X28 hx 77 (hb hby at_75) rfl rfl rfl ?_
  refine X28.callC hx rfl (w38 cx) (w39 cx) (w40 cx) (by decide) (Ct.pay (W := 1) (ct_itinit cx a28 a12 .null h28 _ _ A28 D31 D32 (List.mem_of_getElem? (i := 0) rfl) rfl) (w40 cx) (w37 cx) (nle rfl) (nle rfl)) (by rw [hml]; rfl) (argsL := [.ref a12, .null]) (rest := [.ref a28]) (lenOf pd3 rfl) rfl rfl (Nat.le_of_eq rfl) (hb hby at_77) (nle rfl) (nle rfl) ?_
  rintro T33 h33 _ _ _ X33 ⟨rfl, rfl, rfl, J33, G34, G35⟩
  have K36 : Keep h h33 [] := K30.trans J33 (allS (Or.inr ge29) all0)
  refine P.astore X33 hx 82 #[.val (.int p0), .val (.int p1), .val (.int p2), .val (.int p3), .val (.int (0 : Int32)), .val .null, .val (.ref a2), .val (.ref a12), .val (.ref a28), .unset, .unset, .unset] (hb hby at_80) rfl rfl rfl ?_
  refine P.iload X33 hx 84 (hb hby at_82) rfl rfl ?_
  refine P.ifNo X33 hx 87 (hb hby at_84) (by decide) rfl ?_
  refine P.iconst X33 hx 88 1 (hb hby at_87) rfl rfl ?_
  refine P.goto X33 hx 92 (hb hby at_88) (by decide) (by decide) ?_
  refine P.istore X33 hx 94 #[.val (.int p0), .val (.int p1), .val (.int p2), .val (.int p3), .val (.int (0 : Int32)), .val .null, .val (.ref a2), .val (.ref a12), .val (.ref a28), .val (.int (1 : Int32)), .unset, .unset] (hb hby at_92) rfl rfl ?_
  refine P.aload X33 hx 96 (hb hby at_94) rfl rfl rfl ?_
  have F37 : Exa Z h33 a28 "com/example/lynceus/lynceus/InputItem" := (A28.keep J33)
  refine X33.callV hx (w58 cx) (w59 cx) (w61 cx) (w60 cx) (fun _ hZ => nf hZ (w61 cx)) (by decide) F37 (Ct.pay (W := 0) (ct_isread0 cx a28 h33 _ _ G35) (w62 cx) (w37 cx) (nle rfl) (nle rfl)) (by rw [hml]; rfl) (argsL := []) (rest := []) (lenOf pd6 rfl) rfl rfl (Nat.le_of_eq rfl) (hb hby at_96) (nle rfl) (nle rfl) ?_
  rintro T38 h38 _ _ _ X38 ⟨rfl, rfl, rfl, J38⟩
  rw [J38] at X38
  refine P.iload X38 hx 101 (hb hby at_99) rfl rfl ?_
  refine P.icmpYes X38 hx 106 (hb hby at_101) (by decide) (by decide) (by decide) ?_
  refine P.aload X38 hx 108 (hb hby at_106) rfl rfl rfl ?_
  refine X38.callS hx (w63 cx) (w64 cx) (w37 cx) (w65 cx) (by decide) (Ct.pay (W := 0) (ct_read cx a12 h33 _ _ ) (w65 cx) (w37 cx) (nle rfl) (nle rfl)) (by rw [hml]; rfl) (argsL := [.ref a12]) (rest := []) (lenOf pd7 rfl) rfl rfl (Nat.le_of_eq rfl) (hb hby at_108) (nle rfl) (nle rfl) ?_
  rintro T39 h39 _ _ _ X39 ⟨a40, rfl, rfl, rfl, J39, G41, G42, G43⟩
  have K44 : Keep h h39 [] := K36.trans J39 all0
  refine P.astore X39 hx 113 #[.val (.int p0), .val (.int p1), .val (.int p2), .val (.int p3), .val (.int (0 : Int32)), .val .null, .val (.ref a2), .val (.ref a12), .val (.ref a28), .val (.int (1 : Int32)), .val (.ref a40), .unset] (hb hby at_111) rfl rfl rfl ?_
  refine P.aload X39 hx 115 (hb hby at_113) rfl rfl rfl ?_
  refine X39.callV hx (w58 cx) (w59 cx) (w61 cx) (w60 cx) (fun _ hZ => nf hZ (w61 cx)) (by decide) G41 (Ct.pay (W := 0) (ct_isread0 cx a40 h39 _ _ G43) (w62 cx) (w37 cx) (nle rfl) (nle rfl)) (by rw [hml]; rfl) (argsL := []) (rest := []) (lenOf pd6 rfl) rfl rfl (Nat.le_of_eq rfl) (hb hby at_115) (nle rfl) (nle rfl) ?_
  rintro T45 h45 _ _ _ X45 ⟨rfl, rfl, rfl, J45⟩
  rw [J45] at X45
  refine P.ifYes X45 hx 123 (hb hby at_118) (by decide) (by decide) (by decide) ?_
  refine P.aload X45 hx 125 (hb hby at_123) rfl rfl rfl ?_
  refine P.ifnullYes X45 hx 147 (hb hby at_125) (by decide) (by decide) ?_
  refine P.iconst X45 hx 148 1 (hb hby at_147) rfl rfl ?_
  have X46 := WS.drop (A := []) (B := (a28 :: a17 :: a12 :: a2 :: WL)) X45
  have X47 := WS.drop (A := []) (B := (a17 :: a12 :: a2 :: WL)) X46
  have X48 := WS.drop (A := []) (B := (a12 :: a2 :: WL)) X47
  have X49 := WS.drop (A := []) (B := (a2 :: WL)) X48
  have X50 := WS.drop (A := []) (B := WL) X49
  have X51 := WS.fl (FL2 := FL) X50 (fun y hy => (List.mem_append_right [a2, a12, a17, a28, a40, a25] hy))
  exact WS.retN X51 (WL' := []) (FL' := []) hx (t := .boolean) hret (by simp) hlk (hb hby at_148) (nle rfl) (nle rfl) ⟨rfl, rfl, rfl, K44⟩
set_option maxRecDepth 65536 in
set_option maxHeartbeats 4000000 in
theorem ct_law_01 {l : Launch} {Z : State} {a0 : Array Value} {G1 : Int32} {s_BINARY : Addr} {s_CORRUPT : Addr} {s_TRUNCATED : Addr} {s_UNREADABLE : Addr} {s_LINK : Addr} (cx : Cx a0 Z G1 s_BINARY s_CORRUPT s_TRUNCATED s_UNREADABLE s_LINK) {n0 : Nat} (p0 : Int32) (p1 : Int32) (p2 : Int32) (p3 : Int32) (h : Heap) (WL FL : List Addr)  (ef : p3 &&& 1 = 0) (k : Int32) (ek : k = ((p0 &&& (2147483647 : Int32)) % (6 : Int32))) (hk : k = 1 ∨ k = 2 ∨ k = 3 ∨ k = 4 ∨ k = 5) (hk0 : ¬ k = (0 : Int32)) :
    Ct l Z EL1 n0 x code maxLocals ret room_1 #[(.int p0), (.int p1), (.int p2), (.int p3)] h WL FL (Q_law Z G1 s_BINARY s_CORRUPT s_TRUNCATED s_UNREADABLE s_LINK p0 p1 p2 p3 h) := by
  refine Ct.of (plainFor_of_name pn4) ?_
  intro p e s m below meth c s1 hx hby hml hnm hret hlk X0
  refine Wo.cast (f' := (mkF m 0 #[.val (.int p0), .val (.int p1), .val (.int p2), .val (.int p3), .unset, .unset, .unset, .unset, .unset, .unset, .unset, .unset] [])) (by first | rfl | (simp [entryFrame, mkF, argsToLocals, Value.category]; done)) ?_
  have K0 : Keep h h [] := Keep.refl _ _
  show Wo _ _ _ _ _ _ _ _ _ _ _ s1 (mkF m 0 #[.val (.int p0), .val (.int p1), .val (.int p2), .val (.int p3), .unset, .unset, .unset, .unset, .unset, .unset, .unset, .unset] [])
  refine P.iloadN X0 hx 1 (hb hby at_0) rfl rfl ?_
  refine WS.ldcI X0 hx (w0 cx) (hb hby at_1) ?_
  refine P.iand X0 hx 4 (z := (p0 &&& (2147483647 : Int32))) (hb hby at_3) rfl rfl ?_
  refine P.bipush X0 hx 6 6 (hb hby at_4) rfl rfl ?_
  refine P.irem X0 hx 7 (z := k) (hb hby at_6) (by decide) (by rw [← ek]) rfl ?_
  refine P.istore X0 hx 9 #[.val (.int p0), .val (.int p1), .val (.int p2), .val (.int p3), .val (.int k), .unset, .unset, .unset, .unset, .unset, .unset, .unset] (hb hby at_7) rfl rfl ?_
  refine P.iload X0 hx 11 (hb hby at_9) rfl rfl ?_
  refine X0.callS hx (w1 cx) (w2 cx) (w3 cx) (w4 cx) (by decide) (Ct.pay (W := 0) (ct_reasonN cx k h _ _ hk) (w4 cx) (w3 cx) (nle rfl) (nle rfl)) (by rw [hml]; rfl) (argsL := [.int k]) (rest := []) (lenOf pd4 rfl) rfl rfl (Nat.le_of_eq rfl) (hb hby at_11) (nle rfl) (nle rfl) ?_
  rintro T1 h1 _ _ _ X1 ⟨a2, rfl, rfl, rfl, J1, G3⟩
  rw [J1] at X1
  refine P.astore X1 hx 16 #[.val (.int p0), .val (.int p1), .val (.int p2), .val (.int p3), .val (.int k), .val (.ref a2), .unset, .unset, .unset, .unset, .unset, .unset] (hb hby at_14) rfl rfl rfl ?_
  refine P.iconst X1 hx 17 2 (hb hby at_16) rfl rfl ?_
  refine X1.newP (aty := .char) hx (w5 cx) (hb hby at_17) (by decide) (cap := 2) (nle rfl) (nle rfl) (nle rfl) (nle rfl) ?_
  intro T4 h4 a4 k4 X4 E4 g4 A4
  have ge5 : h.size ≤ a4 := Nat.le_trans K0.1 g4
  have K6 : Keep h h4 [] := K0.ext E4
  have V7 : Arv Z h4 a4 k4 .char (2 : Int32) [(.int (0 : Int32)), (.int (0 : Int32))] (.int (0 : Int32)) := Arv.pad A4 (pad_rep [] _ 2)
  refine P.dup X4 hx 20 (hb hby at_19) rfl rfl ?_
  refine P.iconst X4 hx 21 0 (hb hby at_20) rfl rfl ?_
  refine P.iloadN X4 hx 22 (hb hby at_21) rfl rfl ?_
  refine P.sipush X4 hx 25 255 (hb hby at_22) rfl rfl ?_
  refine P.iand X4 hx 26 (z := (p1 &&& (255 : Int32))) (hb hby at_25) rfl rfl ?_
  refine P.i2c X4 hx 27 (z := (p1 &&& (255 : Int32))) (hb hby at_26) (by rw [i2c_mask]) rfl ?_
  refine X4.stC hx V7 (j := (0 : Int32)) (x := (p1 &&& (255 : Int32))) (i := 0) (by decide) rfl (nlt rfl) (List.mem_of_getElem? (i := 0) rfl) (hb hby at_27) ?_
  intro T8 h8 X8 W8 G8
  have K9 : Keep h h8 [] := K6.wr W8 (Or.inr ge5)
  have V10 : Arv Z h8 a4 k4 .char (2 : Int32) [(.int (p1 &&& (255 : Int32))), (.int (0 : Int32))] (.int (0 : Int32)) := by have q := G8; rw [nar255] at q; exact q
  refine P.dup X8 hx 29 (hb hby at_28) rfl rfl ?_
  refine P.iconst X8 hx 30 1 (hb hby at_29) rfl rfl ?_
  refine P.iloadN X8 hx 31 (hb hby at_30) rfl rfl ?_
  refine P.sipush X8 hx 34 255 (hb hby at_31) rfl rfl ?_
  refine P.iand X8 hx 35 (z := (p2 &&& (255 : Int32))) (hb hby at_34) rfl rfl ?_
  refine P.i2c X8 hx 36 (z := (p2 &&& (255 : Int32))) (hb hby at_35) (by rw [i2c_mask]) rfl ?_
  refine X8.stC hx V10 (j := (1 : Int32)) (x := (p2 &&& (255 : Int32))) (i := 1) (by decide) rfl (nlt rfl) (List.mem_of_getElem? (i := 0) rfl) (hb hby at_36) ?_
  intro T11 h11 X11 W11 G11
  have K12 : Keep h h11 [] := K9.wr W11 (Or.inr ge5)
  have V13 : Arv Z h11 a4 k4 .char (2 : Int32) [(.int (p1 &&& (255 : Int32))), (.int (p2 &&& (255 : Int32)))] (.int (0 : Int32)) := by have q := G11; rw [nar255] at q; exact q
  refine P.astore X11 hx 39 #[.val (.int p0), .val (.int p1), .val (.int p2), .val (.int p3), .val (.int k), .val (.ref a2), .val (.ref a4), .unset, .unset, .unset, .unset, .unset] (hb hby at_37) rfl rfl rfl ?_
  refine P.iloadN X11 hx 40 (hb hby at_39) rfl rfl ?_
  refine P.iconst X11 hx 41 1 (hb hby at_40) rfl rfl ?_
  refine P.iand X11 hx 42 (z := (0 : Int32)) (hb hby at_41) (by rw [ef]) rfl ?_
  refine P.ifYes X11 hx 57 (hb hby at_42) (by decide) (by decide) (by decide) ?_
  refine X11.newO hx (w6 cx) (w7 cx) (w8 cx) (hb hby at_57) (nle rfl) (nle rfl) ?_
  intro T14 h14 a14 X14 E14 g14 A14 D14
  have ge15 : h.size ≤ a14 := Nat.le_trans K12.1 g14
  have K16 : Keep h h14 [] := K12.ext E14
  have D17 : Fld Z h14 a14 "java/lang/String" "coder" "B" (.int (0 : Int32)) := D14 (Or.inr (w32 cx)) (ty := .byte) (by decide)
  have D18 : Fld Z h14 a14 "java/lang/String" "value" "[B" .null := D14 (Or.inr (w34 cx)) (ty := (.array .byte)) (by decide)
  refine P.dup X14 hx 61 (hb hby at_60) rfl rfl ?_
  refine P.iconst X14 hx 62 0 (hb hby at_61) rfl rfl ?_
  refine X14.newP (aty := .char) hx (w5 cx) (hb hby at_62) (by decide) (cap := 0) (nle rfl) (nle rfl) (nle rfl) (nle rfl) ?_
  intro T19 h19 a19 k19 X19 E19 g19 A19
  have ge20 : h.size ≤ a19 := Nat.le_trans K16.1 g19
  have K21 : Keep h h19 [] := K16.ext E19
  have V22 : Arv Z h19 a19 k19 .char (0 : Int32) [] (.int (0 : Int32)) := A19
  have F23 : Exa Z h19 a14 "java/lang/String" := (A14.ext E19)
  have F24 : Fld Z h19 a14 "java/lang/String" "value" "[B" .null := (D18.ext E19)
  have F25 : Fld Z h19 a14 "java/lang/String" "coder" "B" (.int (0 : Int32)) := (D17.ext E19)
  refine X19.callC hx rfl (w9 cx) (w10 cx) (w11 cx) (by decide) (Ct.pay (W := 1) (ct_s1e cx a14 a19 _ _ h19 _ _ F23 F24 F25 (List.mem_of_getElem? (i := 1) rfl) V22) (w11 cx) (w8 cx) (nle rfl) (nle rfl)) (by rw [hml]; rfl) (argsL := [.ref a19]) (rest := [.ref a14]) (lenOf pd5 rfl) rfl rfl (Nat.le_of_eq rfl) (hb hby at_64) (nle rfl) (nle rfl) ?_
  rintro T26 h26 _ _ _ X26 ⟨a27, rfl, rfl, rfl, J26, G28⟩
  have K29 : Keep h h26 [] := K21.trans J26 (allS (Or.inr ge15) all0)
  refine P.astore X26 hx 69 #[.val (.int p0), .val (.int p1), .val (.int p2), .val (.int p3), .val (.int k), .val (.ref a2), .val (.ref a4), .val (.ref a14), .unset, .unset, .unset, .unset] (hb hby at_67) rfl rfl rfl ?_
  refine X26.newO hx (w35 cx) (w36 cx) (w37 cx) (hb hby at_69) (nle rfl) (nle rfl) ?_
  intro T30 h30 a30 X30 E30 g30 A30 D30
  have ge31 : h.size ≤ a30 := Nat.le_trans K29.1 g30
  have K32 : Keep h h30 [] := K29.ext E30
  have D33 : Fld Z h30 a30 "com/example/lynceus/lynceus/InputItem" "name" "Ljava/lang/String;" .null := D30 (Or.inr (w55 cx)) (ty := (.object "java/lang/String")) (by decide)
  have D34 : Fld Z h30 a30 "com/example/lynceus/lynceus/InputItem" "skipped" "Lcom/example/lynceus/lynceus/SkipReason;" .null := D30 (Or.inr (w57 cx)) (ty := (.object "com/example/lynceus/lynceus/SkipReason")) (by decide)
  refine P.dup X30 hx 73 (hb hby at_72) rfl rfl ?_
  refine P.aload X30 hx 75 (hb hby at_73) rfl rfl rfl ?_
  refine P.aload X30 hx 77 (hb hby at_75) rfl rfl rfl ?_
  refine X30.callC hx rfl (w38 cx) (w39 cx) (w40 cx) (by decide) (Ct.pay (W := 1) (ct_itinit cx a30 a14 (.ref a2) h30 _ _ A30 D33 D34 (List.mem_of_getElem? (i := 0) rfl) rfl) (w40 cx) (w37 cx) (nle rfl) (nle rfl)) (by rw [hml]; rfl) (argsL := [.ref a14, .ref a2]) (rest := [.ref a30]) (lenOf pd3 rfl) rfl rfl (Nat.le_of_eq rfl) (hb hby at_77) (nle rfl) (nle rfl) ?_
  rintro T35 h35 _ _ _ X35 ⟨rfl, rfl, rfl, J35, G36, G37⟩
  have K38 : Keep h h35 [] := K32.trans J35 (allS (Or.inr ge31) all0)
  refine P.astore X35 hx 82 #[.val (.int p0), .val (.int p1), .val (.int p2), .val (.int p3), .val (.int k), .val (.ref a2), .val (.ref a4), .val (.ref a14), .val (.ref a30), .unset, .unset, .unset] (hb hby at_80) rfl rfl rfl ?_
  refine P.iload X35 hx 84 (hb hby at_82) rfl rfl ?_
  refine P.ifYes X35 hx 91 (hb hby at_84) ((if0 _ _).trans (feq hk0).2) (by decide) (by decide) ?_
  refine P.iconst X35 hx 92 0 (hb hby at_91) rfl rfl ?_
  refine P.istore X35 hx 94 #[.val (.int p0), .val (.int p1), .val (.int p2), .val (.int p3), .val (.int k), .val (.ref a2), .val (.ref a4), .val (.ref a14), .val (.ref a30), .val (.int (0 : Int32)), .unset, .unset] (hb hby at_92) rfl rfl ?_
  refine P.aload X35 hx 96 (hb hby at_94) rfl rfl rfl ?_
  have F39 : Exa Z h35 a30 "com/example/lynceus/lynceus/InputItem" := (A30.keep J35)
  refine X35.callV hx (w58 cx) (w59 cx) (w61 cx) (w60 cx) (fun _ hZ => nf hZ (w61 cx)) (by decide) F39 (Ct.pay (W := 0) (ct_isread1 cx a30 a2 h35 _ _ G37) (w62 cx) (w37 cx) (nle rfl) (nle rfl)) (by rw [hml]; rfl) (argsL := []) (rest := []) (lenOf pd6 rfl) rfl rfl (Nat.le_of_eq rfl) (hb hby at_96) (nle rfl) (nle rfl) ?_
  rintro T40 h40 _ _ _ X40 ⟨rfl, rfl, rfl, J40⟩
  rw [J40] at X40
  refine P.iload X40 hx 101 (hb hby at_99) rfl rfl ?_
  refine P.icmpYes X40 hx 106 (hb hby at_101) (by decide) (by decide) (by decide) ?_
  refine P.aload X40 hx 108 (hb hby at_106) rfl rfl rfl ?_
  refine X40.callS hx (w63 cx) (w64 cx) (w37 cx) (w65 cx) (by decide) (Ct.pay (W := 0) (ct_read cx a14 h35 _ _ ) (w65 cx) (w37 cx) (nle rfl) (nle rfl)) (by rw [hml]; rfl) (argsL := [.ref a14]) (rest := []) (lenOf pd7 rfl) rfl rfl (Nat.le_of_eq rfl) (hb hby at_108) (nle rfl) (nle rfl) ?_
  rintro T41 h41 _ _ _ X41 ⟨a42, rfl, rfl, rfl, J41, G43, G44, G45⟩
  have K46 : Keep h h41 [] := K38.trans J41 all0
  refine P.astore X41 hx 113 #[.val (.int p0), .val (.int p1), .val (.int p2), .val (.int p3), .val (.int k), .val (.ref a2), .val (.ref a4), .val (.ref a14), .val (.ref a30), .val (.int (0 : Int32)), .val (.ref a42), .unset] (hb hby at_111) rfl rfl rfl ?_
  refine P.aload X41 hx 115 (hb hby at_113) rfl rfl rfl ?_
  refine X41.callV hx (w58 cx) (w59 cx) (w61 cx) (w60 cx) (fun _ hZ => nf hZ (w61 cx)) (by decide) G43 (Ct.pay (W := 0) (ct_isread0 cx a42 h41 _ _ G45) (w62 cx) (w37 cx) (nle rfl) (nle rfl)) (by rw [hml]; rfl) (argsL := []) (rest := []) (lenOf pd6 rfl) rfl rfl (Nat.le_of_eq rfl) (hb hby at_115) (nle rfl) (nle rfl) ?_
  rintro T47 h47 _ _ _ X47 ⟨rfl, rfl, rfl, J47⟩
  rw [J47] at X47
  refine P.ifYes X47 hx 123 (hb hby at_118) (by decide) (by decide) (by decide) ?_
  refine P.aload X47 hx 125 (hb hby at_123) rfl rfl rfl ?_
  refine P.ifnullNo X47 hx 128 (hb hby at_125) rfl ?_
  refine P.aload X47 hx 130 (hb hby at_128) rfl rfl rfl ?_
  refine P.aload X47 hx 132 (hb hby at_130) rfl rfl rfl ?_
  refine X47.callS hx (w72 cx) (w73 cx) (w37 cx) (w74 cx) (by decide) (Ct.pay (W := 0) (ct_skipped cx a14 a2 h41 _ _ (G3.ext X47.old.2)) (w74 cx) (w37 cx) (nle rfl) (nle rfl)) (by rw [hml]; rfl) (argsL := [.ref a14, .ref a2]) (rest := []) (lenOf pd8 rfl) rfl rfl (Nat.le_of_eq rfl) (hb hby at_132) (nle rfl) (nle rfl) ?_
  rintro T48 h48 _ _ _ X48 ⟨a49, rfl, rfl, rfl, J48, G50, G51, G52⟩
  have K53 : Keep h h48 [] := K46.trans J48 all0
  refine P.astore X48 hx 137 #[.val (.int p0), .val (.int p1), .val (.int p2), .val (.int p3), .val (.int k), .val (.ref a2), .val (.ref a4), .val (.ref a14), .val (.ref a30), .val (.int (0 : Int32)), .val (.ref a42), .val (.ref a49)] (hb hby at_135) rfl rfl rfl ?_
  refine P.aload X48 hx 139 (hb hby at_137) rfl rfl rfl ?_
  refine X48.callV hx (w58 cx) (w59 cx) (w61 cx) (w60 cx) (fun _ hZ => nf hZ (w61 cx)) (by decide) G50 (Ct.pay (W := 0) (ct_isread1 cx a49 a2 h48 _ _ G52) (w62 cx) (w37 cx) (nle rfl) (nle rfl)) (by rw [hml]; rfl) (argsL := []) (rest := []) (lenOf pd6 rfl) rfl rfl (Nat.le_of_eq rfl) (hb hby at_139) (nle rfl) (nle rfl) ?_
  rintro T54 h54 _ _ _ X54 ⟨rfl, rfl, rfl, J54⟩
  rw [J54] at X54
  refine P.ifYes X54 hx 147 (hb hby at_142) (by decide) (by decide) (by decide) ?_
  refine P.iconst X54 hx 148 1 (hb hby at_147) rfl rfl ?_
  have X55 := WS.drop (A := []) (B := (a42 :: a30 :: a19 :: a14 :: a4 :: WL)) X54
  have X56 := WS.drop (A := []) (B := (a30 :: a19 :: a14 :: a4 :: WL)) X55
  have X57 := WS.drop (A := []) (B := (a19 :: a14 :: a4 :: WL)) X56
  have X58 := WS.drop (A := []) (B := (a14 :: a4 :: WL)) X57
  have X59 := WS.drop (A := []) (B := (a4 :: WL)) X58
  have X60 := WS.drop (A := []) (B := WL) X59
  have X61 := WS.fl (FL2 := FL) X60 (fun y hy => (List.mem_append_right [a4, a14, a19, a30, a42, a49, a27] hy))
  exact WS.retN X61 (WL' := []) (FL' := []) hx (t := .boolean) hret (by simp) hlk (hb hby at_148) (nle rfl) (nle rfl) ⟨rfl, rfl, rfl, K53⟩
set_option maxRecDepth 65536 in
set_option maxHeartbeats 4000000 in
theorem ct_law_10 {l : Launch} {Z : State} {a0 : Array Value} {G1 : Int32} {s_BINARY : Addr} {s_CORRUPT : Addr} {s_TRUNCATED : Addr} {s_UNREADABLE : Addr} {s_LINK : Addr} (cx : Cx a0 Z G1 s_BINARY s_CORRUPT s_TRUNCATED s_UNREADABLE s_LINK) {n0 : Nat} (p0 : Int32) (p1 : Int32) (p2 : Int32) (p3 : Int32) (h : Heap) (WL FL : List Addr)  (ef : p3 &&& 1 = 1) (ek : ((p0 &&& (2147483647 : Int32)) % (6 : Int32)) = 0) :
    Ct l Z EL1 n0 x code maxLocals ret room_1 #[(.int p0), (.int p1), (.int p2), (.int p3)] h WL FL (Q_law Z G1 s_BINARY s_CORRUPT s_TRUNCATED s_UNREADABLE s_LINK p0 p1 p2 p3 h) := by
  refine Ct.of (plainFor_of_name pn4) ?_
  intro p e s m below meth c s1 hx hby hml hnm hret hlk X0
  refine Wo.cast (f' := (mkF m 0 #[.val (.int p0), .val (.int p1), .val (.int p2), .val (.int p3), .unset, .unset, .unset, .unset, .unset, .unset, .unset, .unset] [])) (by first | rfl | (simp [entryFrame, mkF, argsToLocals, Value.category]; done)) ?_
  have K0 : Keep h h [] := Keep.refl _ _
  show Wo _ _ _ _ _ _ _ _ _ _ _ s1 (mkF m 0 #[.val (.int p0), .val (.int p1), .val (.int p2), .val (.int p3), .unset, .unset, .unset, .unset, .unset, .unset, .unset, .unset] [])
  refine P.iloadN X0 hx 1 (hb hby at_0) rfl rfl ?_
  refine WS.ldcI X0 hx (w0 cx) (hb hby at_1) ?_
  refine P.iand X0 hx 4 (z := (p0 &&& (2147483647 : Int32))) (hb hby at_3) rfl rfl ?_
  refine P.bipush X0 hx 6 6 (hb hby at_4) rfl rfl ?_
  refine P.irem X0 hx 7 (z := (0 : Int32)) (hb hby at_6) (by decide) (by rw [ek]) rfl ?_
  refine P.istore X0 hx 9 #[.val (.int p0), .val (.int p1), .val (.int p2), .val (.int p3), .val (.int (0 : Int32)), .unset, .unset, .unset, .unset, .unset, .unset, .unset] (hb hby at_7) rfl rfl ?_
  refine P.iload X0 hx 11 (hb hby at_9) rfl rfl ?_
  refine X0.callS hx (w1 cx) (w2 cx) (w3 cx) (w4 cx) (by decide) (Ct.pay (W := 0) (ct_reason_0 cx  h _ _ ) (w4 cx) (w3 cx) (nle rfl) (nle rfl)) (by rw [hml]; rfl) (argsL := [.int (0 : Int32)]) (rest := []) (lenOf pd4 rfl) rfl rfl (Nat.le_of_eq rfl) (hb hby at_11) (nle rfl) (nle rfl) ?_
  rintro T1 h1 _ _ _ X1 ⟨rfl, rfl, rfl, J1⟩
  rw [J1] at X1
  refine P.astore X1 hx 16 #[.val (.int p0), .val (.int p1), .val (.int p2), .val (.int p3), .val (.int (0 : Int32)), .val .null, .unset, .unset, .unset, .unset, .unset, .unset] (hb hby at_14) rfl rfl rfl ?_
  refine P.iconst X1 hx 17 2 (hb hby at_16) rfl rfl ?_
  refine X1.newP (aty := .char) hx (w5 cx) (hb hby at_17) (by decide) (cap := 2) (nle rfl) (nle rfl) (nle rfl) (nle rfl) ?_
  intro T2 h2 a2 k2 X2 E2 g2 A2
  have ge3 : h.size ≤ a2 := Nat.le_trans K0.1 g2
  have K4 : Keep h h2 [] := K0.ext E2
  have V5 : Arv Z h2 a2 k2 .char (2 : Int32) [(.int (0 : Int32)), (.int (0 : Int32))] (.int (0 : Int32)) := Arv.pad A2 (pad_rep [] _ 2)
  refine P.dup X2 hx 20 (hb hby at_19) rfl rfl ?_
  refine P.iconst X2 hx 21 0 (hb hby at_20) rfl rfl ?_
  refine P.iloadN X2 hx 22 (hb hby at_21) rfl rfl ?_
  refine P.sipush X2 hx 25 255 (hb hby at_22) rfl rfl ?_
  refine P.iand X2 hx 26 (z := (p1 &&& (255 : Int32))) (hb hby at_25) rfl rfl ?_
  refine P.i2c X2 hx 27 (z := (p1 &&& (255 : Int32))) (hb hby at_26) (by rw [i2c_mask]) rfl ?_
  refine X2.stC hx V5 (j := (0 : Int32)) (x := (p1 &&& (255 : Int32))) (i := 0) (by decide) rfl (nlt rfl) (List.mem_of_getElem? (i := 0) rfl) (hb hby at_27) ?_
  intro T6 h6 X6 W6 G6
  have K7 : Keep h h6 [] := K4.wr W6 (Or.inr ge3)
  have V8 : Arv Z h6 a2 k2 .char (2 : Int32) [(.int (p1 &&& (255 : Int32))), (.int (0 : Int32))] (.int (0 : Int32)) := by have q := G6; rw [nar255] at q; exact q
  refine P.dup X6 hx 29 (hb hby at_28) rfl rfl ?_
  refine P.iconst X6 hx 30 1 (hb hby at_29) rfl rfl ?_
  refine P.iloadN X6 hx 31 (hb hby at_30) rfl rfl ?_
  refine P.sipush X6 hx 34 255 (hb hby at_31) rfl rfl ?_
  refine P.iand X6 hx 35 (z := (p2 &&& (255 : Int32))) (hb hby at_34) rfl rfl ?_
  refine P.i2c X6 hx 36 (z := (p2 &&& (255 : Int32))) (hb hby at_35) (by rw [i2c_mask]) rfl ?_
  refine X6.stC hx V8 (j := (1 : Int32)) (x := (p2 &&& (255 : Int32))) (i := 1) (by decide) rfl (nlt rfl) (List.mem_of_getElem? (i := 0) rfl) (hb hby at_36) ?_
  intro T9 h9 X9 W9 G9
  have K10 : Keep h h9 [] := K7.wr W9 (Or.inr ge3)
  have V11 : Arv Z h9 a2 k2 .char (2 : Int32) [(.int (p1 &&& (255 : Int32))), (.int (p2 &&& (255 : Int32)))] (.int (0 : Int32)) := by have q := G9; rw [nar255] at q; exact q
  refine P.astore X9 hx 39 #[.val (.int p0), .val (.int p1), .val (.int p2), .val (.int p3), .val (.int (0 : Int32)), .val .null, .val (.ref a2), .unset, .unset, .unset, .unset, .unset] (hb hby at_37) rfl rfl rfl ?_
  refine P.iloadN X9 hx 40 (hb hby at_39) rfl rfl ?_
  refine P.iconst X9 hx 41 1 (hb hby at_40) rfl rfl ?_
  refine P.iand X9 hx 42 (z := (1 : Int32)) (hb hby at_41) (by rw [ef]) rfl ?_
  refine P.ifNo X9 hx 45 (hb hby at_42) (by decide) rfl ?_
  refine X9.newO hx (w6 cx) (w7 cx) (w8 cx) (hb hby at_45) (nle rfl) (nle rfl) ?_
  intro T12 h12 a12 X12 E12 g12 A12 D12
  have ge13 : h.size ≤ a12 := Nat.le_trans K10.1 g12
  have K14 : Keep h h12 [] := K10.ext E12
  have D15 : Fld Z h12 a12 "java/lang/String" "coder" "B" (.int (0 : Int32)) := D12 (Or.inr (w32 cx)) (ty := .byte) (by decide)
  have D16 : Fld Z h12 a12 "java/lang/String" "value" "[B" .null := D12 (Or.inr (w34 cx)) (ty := (.array .byte)) (by decide)
  refine P.dup X12 hx 49 (hb hby at_48) rfl rfl ?_
  refine P.aload X12 hx 51 (hb hby at_49) rfl rfl rfl ?_
  have F17 : Arv Z h12 a2 k2 .char (2 : Int32) [(.int (p1 &&& (255 : Int32))), (.int (p2 &&& (255 : Int32)))] (.int (0 : Int32)) := (V11.ext E12)
  refine X12.callC hx rfl (w9 cx) (w10 cx) (w11 cx) (by decide) (pay_new (W := 1) (hws cx) (w7 cx) (cs := [(p1 &&& (255 : Int32)), (p2 &&& (255 : Int32))]) (n := 2) (X12.ge (List.mem_of_getElem? (i := 0) rfl)) X12.n0le (List.mem_of_getElem? (i := 0) rfl) A12 D16 D15 F17 (X12.sta (S_C cx)) (N_C cx) rfl rfl (nle rfl) (nle rfl) (fcS (rng255 p1) (fcS (rng255 p2) fc0)) (nle rfl) (nle rfl)) (by rw [hml]; rfl) (argsL := [.ref a2]) (rest := [.ref a12]) (lenOf pd5 rfl) rfl rfl (Nat.le_of_eq rfl) (hb hby at_51) (nle rfl) (nle rfl) ?_
  rintro T18 h18 _ _ _ X18 ⟨a19, rfl, rfl, rfl, J18, G20⟩
  have K21 : Keep h h18 [] := K14.trans J18 (allS (Or.inr ge13) all0)
  refine P.goto X18 hx 67 (hb hby at_54) (by decide) (by decide) ?_
  refine P.astore X18 hx 69 #[.val (.int p0), .val (.int p1), .val (.int p2), .val (.int p3), .val (.int (0 : Int32)), .val .null, .val (.ref a2), .val (.ref a12), .unset, .unset, .unset, .unset] (hb hby at_67) rfl rfl rfl ?_
  refine X18.newO hx (w35 cx) (w36 cx) (w37 cx) (hb hby at_69) (nle rfl) (nle rfl) ?_
  intro T22 h22 a22 X22 E22 g22 A22 D22
  have ge23 : h.size ≤ a22 := Nat.le_trans K21.1 g22
  have K24 : Keep h h22 [] := K21.ext E22
  have D25 : Fld Z h22 a22 "com/example/lynceus/lynceus/InputItem" "name" "Ljava/lang/String;" .null := D22 (Or.inr (w55 cx)) (ty := (.object "java/lang/String")) (by decide)
  have D26 : Fld Z h22 a22 "com/example/lynceus/lynceus/InputItem" "skipped" "Lcom/example/lynceus/lynceus/SkipReason;" .null := D22 (Or.inr (w57 cx)) (ty := (.object "com/example/lynceus/lynceus/SkipReason")) (by decide)
  refine P.dup X22 hx 73 (hb hby at_72) rfl rfl ?_
  refine P.aload X22 hx 75 (hb hby at_73) rfl rfl rfl ?_
  refine P.aload X22 hx 77 (hb hby at_75) rfl rfl rfl ?_
  refine X22.callC hx rfl (w38 cx) (w39 cx) (w40 cx) (by decide) (Ct.pay (W := 1) (ct_itinit cx a22 a12 .null h22 _ _ A22 D25 D26 (List.mem_of_getElem? (i := 0) rfl) rfl) (w40 cx) (w37 cx) (nle rfl) (nle rfl)) (by rw [hml]; rfl) (argsL := [.ref a12, .null]) (rest := [.ref a22]) (lenOf pd3 rfl) rfl rfl (Nat.le_of_eq rfl) (hb hby at_77) (nle rfl) (nle rfl) ?_
  rintro T27 h27 _ _ _ X27 ⟨rfl, rfl, rfl, J27, G28, G29⟩
  have K30 : Keep h h27 [] := K24.trans J27 (allS (Or.inr ge23) all0)
  refine P.astore X27 hx 82 #[.val (.int p0), .val (.int p1), .val (.int p2), .val (.int p3), .val (.int (0 : Int32)), .val .null, .val (.ref a2), .val (.ref a12), .val (.ref a22), .unset, .unset, .unset] (hb hby at_80) rfl rfl rfl ?_
  refine P.iload X27 hx 84 (hb hby at_82) rfl rfl ?_
  refine P.ifNo X27 hx 87 (hb hby at_84) (by decide) rfl ?_
  refine P.iconst X27 hx 88 1 (hb hby at_87) rfl rfl ?_
  refine P.goto X27 hx 92 (hb hby at_88) (by decide) (by decide) ?_
  refine P.istore X27 hx 94 #[.val (.int p0), .val (.int p1), .val (.int p2), .val (.int p3), .val (.int (0 : Int32)), .val .null, .val (.ref a2), .val (.ref a12), .val (.ref a22), .val (.int (1 : Int32)), .unset, .unset] (hb hby at_92) rfl rfl ?_
  refine P.aload X27 hx 96 (hb hby at_94) rfl rfl rfl ?_
  have F31 : Exa Z h27 a22 "com/example/lynceus/lynceus/InputItem" := (A22.keep J27)
  refine X27.callV hx (w58 cx) (w59 cx) (w61 cx) (w60 cx) (fun _ hZ => nf hZ (w61 cx)) (by decide) F31 (Ct.pay (W := 0) (ct_isread0 cx a22 h27 _ _ G29) (w62 cx) (w37 cx) (nle rfl) (nle rfl)) (by rw [hml]; rfl) (argsL := []) (rest := []) (lenOf pd6 rfl) rfl rfl (Nat.le_of_eq rfl) (hb hby at_96) (nle rfl) (nle rfl) ?_
  rintro T32 h32 _ _ _ X32 ⟨rfl, rfl, rfl, J32⟩
  rw [J32] at X32
  refine P.iload X32 hx 101 (hb hby at_99) rfl rfl ?_
  refine P.icmpYes X32 hx 106 (hb hby at_101) (by decide) (by decide) (by decide) ?_
  refine P.aload X32 hx 108 (hb hby at_106) rfl rfl rfl ?_
  refine X32.callS hx (w63 cx) (w64 cx) (w37 cx) (w65 cx) (by decide) (Ct.pay (W := 0) (ct_read cx a12 h27 _ _ ) (w65 cx) (w37 cx) (nle rfl) (nle rfl)) (by rw [hml]; rfl) (argsL := [.ref a12]) (rest := []) (lenOf pd7 rfl) rfl rfl (Nat.le_of_eq rfl) (hb hby at_108) (nle rfl) (nle rfl) ?_
  rintro T33 h33 _ _ _ X33 ⟨a34, rfl, rfl, rfl, J33, G35, G36, G37⟩
  have K38 : Keep h h33 [] := K30.trans J33 all0
  refine P.astore X33 hx 113 #[.val (.int p0), .val (.int p1), .val (.int p2), .val (.int p3), .val (.int (0 : Int32)), .val .null, .val (.ref a2), .val (.ref a12), .val (.ref a22), .val (.int (1 : Int32)), .val (.ref a34), .unset] (hb hby at_111) rfl rfl rfl ?_
  refine P.aload X33 hx 115 (hb hby at_113) rfl rfl rfl ?_
  refine X33.callV hx (w58 cx) (w59 cx) (w61 cx) (w60 cx) (fun _ hZ => nf hZ (w61 cx)) (by decide) G35 (Ct.pay (W := 0) (ct_isread0 cx a34 h33 _ _ G37) (w62 cx) (w37 cx) (nle rfl) (nle rfl)) (by rw [hml]; rfl) (argsL := []) (rest := []) (lenOf pd6 rfl) rfl rfl (Nat.le_of_eq rfl) (hb hby at_115) (nle rfl) (nle rfl) ?_
  rintro T39 h39 _ _ _ X39 ⟨rfl, rfl, rfl, J39⟩
  rw [J39] at X39
  refine P.ifYes X39 hx 123 (hb hby at_118) (by decide) (by decide) (by decide) ?_
  refine P.aload X39 hx 125 (hb hby at_123) rfl rfl rfl ?_
  refine P.ifnullYes X39 hx 147 (hb hby at_125) (by decide) (by decide) ?_
  refine P.iconst X39 hx 148 1 (hb hby at_147) rfl rfl ?_
  have X40 := WS.drop (A := []) (B := (a22 :: a12 :: a2 :: WL)) X39
  have X41 := WS.drop (A := []) (B := (a12 :: a2 :: WL)) X40
  have X42 := WS.drop (A := []) (B := (a2 :: WL)) X41
  have X43 := WS.drop (A := []) (B := WL) X42
  have X44 := WS.fl (FL2 := FL) X43 (fun y hy => (List.mem_append_right [a2, a12, a22, a34, a19] hy))
  exact WS.retN X44 (WL' := []) (FL' := []) hx (t := .boolean) hret (by simp) hlk (hb hby at_148) (nle rfl) (nle rfl) ⟨rfl, rfl, rfl, K38⟩
set_option maxRecDepth 65536 in
set_option maxHeartbeats 4000000 in
theorem ct_law_11 {l : Launch} {Z : State} {a0 : Array Value} {G1 : Int32} {s_BINARY : Addr} {s_CORRUPT : Addr} {s_TRUNCATED : Addr} {s_UNREADABLE : Addr} {s_LINK : Addr} (cx : Cx a0 Z G1 s_BINARY s_CORRUPT s_TRUNCATED s_UNREADABLE s_LINK) {n0 : Nat} (p0 : Int32) (p1 : Int32) (p2 : Int32) (p3 : Int32) (h : Heap) (WL FL : List Addr)  (ef : p3 &&& 1 = 1) (k : Int32) (ek : k = ((p0 &&& (2147483647 : Int32)) % (6 : Int32))) (hk : k = 1 ∨ k = 2 ∨ k = 3 ∨ k = 4 ∨ k = 5) (hk0 : ¬ k = (0 : Int32)) :
    Ct l Z EL1 n0 x code maxLocals ret room_1 #[(.int p0), (.int p1), (.int p2), (.int p3)] h WL FL (Q_law Z G1 s_BINARY s_CORRUPT s_TRUNCATED s_UNREADABLE s_LINK p0 p1 p2 p3 h) := by
  refine Ct.of (plainFor_of_name pn4) ?_
  intro p e s m below meth c s1 hx hby hml hnm hret hlk X0
  refine Wo.cast (f' := (mkF m 0 #[.val (.int p0), .val (.int p1), .val (.int p2), .val (.int p3), .unset, .unset, .unset, .unset, .unset, .unset, .unset, .unset] [])) (by first | rfl | (simp [entryFrame, mkF, argsToLocals, Value.category]; done)) ?_
  have K0 : Keep h h [] := Keep.refl _ _
  show Wo _ _ _ _ _ _ _ _ _ _ _ s1 (mkF m 0 #[.val (.int p0), .val (.int p1), .val (.int p2), .val (.int p3), .unset, .unset, .unset, .unset, .unset, .unset, .unset, .unset] [])
  refine P.iloadN X0 hx 1 (hb hby at_0) rfl rfl ?_
  refine WS.ldcI X0 hx (w0 cx) (hb hby at_1) ?_
  refine P.iand X0 hx 4 (z := (p0 &&& (2147483647 : Int32))) (hb hby at_3) rfl rfl ?_
  refine P.bipush X0 hx 6 6 (hb hby at_4) rfl rfl ?_
  refine P.irem X0 hx 7 (z := k) (hb hby at_6) (by decide) (by rw [← ek]) rfl ?_
  refine P.istore X0 hx 9 #[.val (.int p0), .val (.int p1), .val (.int p2), .val (.int p3), .val (.int k), .unset, .unset, .unset, .unset, .unset, .unset, .unset] (hb hby at_7) rfl rfl ?_
  refine P.iload X0 hx 11 (hb hby at_9) rfl rfl ?_
  refine X0.callS hx (w1 cx) (w2 cx) (w3 cx) (w4 cx) (by decide) (Ct.pay (W := 0) (ct_reasonN cx k h _ _ hk) (w4 cx) (w3 cx) (nle rfl) (nle rfl)) (by rw [hml]; rfl) (argsL := [.int k]) (rest := []) (lenOf pd4 rfl) rfl rfl (Nat.le_of_eq rfl) (hb hby at_11) (nle rfl) (nle rfl) ?_
  rintro T1 h1 _ _ _ X1 ⟨a2, rfl, rfl, rfl, J1, G3⟩
  rw [J1] at X1
  refine P.astore X1 hx 16 #[.val (.int p0), .val (.int p1), .val (.int p2), .val (.int p3), .val (.int k), .val (.ref a2), .unset, .unset, .unset, .unset, .unset, .unset] (hb hby at_14) rfl rfl rfl ?_
  refine P.iconst X1 hx 17 2 (hb hby at_16) rfl rfl ?_
  refine X1.newP (aty := .char) hx (w5 cx) (hb hby at_17) (by decide) (cap := 2) (nle rfl) (nle rfl) (nle rfl) (nle rfl) ?_
  intro T4 h4 a4 k4 X4 E4 g4 A4
  have ge5 : h.size ≤ a4 := Nat.le_trans K0.1 g4
  have K6 : Keep h h4 [] := K0.ext E4
  have V7 : Arv Z h4 a4 k4 .char (2 : Int32) [(.int (0 : Int32)), (.int (0 : Int32))] (.int (0 : Int32)) := Arv.pad A4 (pad_rep [] _ 2)
  refine P.dup X4 hx 20 (hb hby at_19) rfl rfl ?_
  refine P.iconst X4 hx 21 0 (hb hby at_20) rfl rfl ?_
  refine P.iloadN X4 hx 22 (hb hby at_21) rfl rfl ?_
  refine P.sipush X4 hx 25 255 (hb hby at_22) rfl rfl ?_
  refine P.iand X4 hx 26 (z := (p1 &&& (255 : Int32))) (hb hby at_25) rfl rfl ?_
  refine P.i2c X4 hx 27 (z := (p1 &&& (255 : Int32))) (hb hby at_26) (by rw [i2c_mask]) rfl ?_
  refine X4.stC hx V7 (j := (0 : Int32)) (x := (p1 &&& (255 : Int32))) (i := 0) (by decide) rfl (nlt rfl) (List.mem_of_getElem? (i := 0) rfl) (hb hby at_27) ?_
  intro T8 h8 X8 W8 G8
  have K9 : Keep h h8 [] := K6.wr W8 (Or.inr ge5)
  have V10 : Arv Z h8 a4 k4 .char (2 : Int32) [(.int (p1 &&& (255 : Int32))), (.int (0 : Int32))] (.int (0 : Int32)) := by have q := G8; rw [nar255] at q; exact q
  refine P.dup X8 hx 29 (hb hby at_28) rfl rfl ?_
  refine P.iconst X8 hx 30 1 (hb hby at_29) rfl rfl ?_
  refine P.iloadN X8 hx 31 (hb hby at_30) rfl rfl ?_
  refine P.sipush X8 hx 34 255 (hb hby at_31) rfl rfl ?_
  refine P.iand X8 hx 35 (z := (p2 &&& (255 : Int32))) (hb hby at_34) rfl rfl ?_
  refine P.i2c X8 hx 36 (z := (p2 &&& (255 : Int32))) (hb hby at_35) (by rw [i2c_mask]) rfl ?_
  refine X8.stC hx V10 (j := (1 : Int32)) (x := (p2 &&& (255 : Int32))) (i := 1) (by decide) rfl (nlt rfl) (List.mem_of_getElem? (i := 0) rfl) (hb hby at_36) ?_
  intro T11 h11 X11 W11 G11
  have K12 : Keep h h11 [] := K9.wr W11 (Or.inr ge5)
  have V13 : Arv Z h11 a4 k4 .char (2 : Int32) [(.int (p1 &&& (255 : Int32))), (.int (p2 &&& (255 : Int32)))] (.int (0 : Int32)) := by have q := G11; rw [nar255] at q; exact q
  refine P.astore X11 hx 39 #[.val (.int p0), .val (.int p1), .val (.int p2), .val (.int p3), .val (.int k), .val (.ref a2), .val (.ref a4), .unset, .unset, .unset, .unset, .unset] (hb hby at_37) rfl rfl rfl ?_
  refine P.iloadN X11 hx 40 (hb hby at_39) rfl rfl ?_
  refine P.iconst X11 hx 41 1 (hb hby at_40) rfl rfl ?_
  refine P.iand X11 hx 42 (z := (1 : Int32)) (hb hby at_41) (by rw [ef]) rfl ?_
  refine P.ifNo X11 hx 45 (hb hby at_42) (by decide) rfl ?_
  refine X11.newO hx (w6 cx) (w7 cx) (w8 cx) (hb hby at_45) (nle rfl) (nle rfl) ?_
  intro T14 h14 a14 X14 E14 g14 A14 D14
  have ge15 : h.size ≤ a14 := Nat.le_trans K12.1 g14
  have K16 : Keep h h14 [] := K12.ext E14
  have D17 : Fld Z h14 a14 "java/lang/String" "coder" "B" (.int (0 : Int32)) := D14 (Or.inr (w32 cx)) (ty := .byte) (by decide)
  have D18 : Fld Z h14 a14 "java/lang/String" "value" "[B" .null := D14 (Or.inr (w34 cx)) (ty := (.array .byte)) (by decide)
  refine P.dup X14 hx 49 (hb hby at_48) rfl rfl ?_
  refine P.aload X14 hx 51 (hb hby at_49) rfl rfl rfl ?_
  have F19 : Arv Z h14 a4 k4 .char (2 : Int32) [(.int (p1 &&& (255 : Int32))), (.int (p2 &&& (255 : Int32)))] (.int (0 : Int32)) := (V13.ext E14)
  refine X14.callC hx rfl (w9 cx) (w10 cx) (w11 cx) (by decide) (pay_new (W := 1) (hws cx) (w7 cx) (cs := [(p1 &&& (255 : Int32)), (p2 &&& (255 : Int32))]) (n := 2) (X14.ge (List.mem_of_getElem? (i := 0) rfl)) X14.n0le (List.mem_of_getElem? (i := 0) rfl) A14 D18 D17 F19 (X14.sta (S_C cx)) (N_C cx) rfl rfl (nle rfl) (nle rfl) (fcS (rng255 p1) (fcS (rng255 p2) fc0)) (nle rfl) (nle rfl)) (by rw [hml]; rfl) (argsL := [.ref a4]) (rest := [.ref a14]) (lenOf pd5 rfl) rfl rfl (Nat.le_of_eq rfl) (hb hby at_51) (nle rfl) (nle rfl) ?_
  rintro T20 h20 _ _ _ X20 ⟨a21, rfl, rfl, rfl, J20, G22⟩
  have K23 : Keep h h20 [] := K16.trans J20 (allS (Or.inr ge15) all0)
  refine P.goto X20 hx 67 (hb hby at_54) (by decide) (by decide) ?_
  refine P.astore X20 hx 69 #[.val (.int p0), .val (.int p1), .val (.int p2), .val (.int p3), .val (.int k), .val (.ref a2), .val (.ref a4), .val (.ref a14), .unset, .unset, .unset, .unset] (hb hby at_67) rfl rfl rfl ?_
  refine X20.newO hx (w35 cx) (w36 cx) (w37 cx) (hb hby at_69) (nle rfl) (nle rfl) ?_
  intro T24 h24 a24 X24 E24 g24 A24 D24
  have ge25 : h.size ≤ a24 := Nat.le_trans K23.1 g24
  have K26 : Keep h h24 [] := K23.ext E24
  have D27 : Fld Z h24 a24 "com/example/lynceus/lynceus/InputItem" "name" "Ljava/lang/String;" .null := D24 (Or.inr (w55 cx)) (ty := (.object "java/lang/String")) (by decide)
  have D28 : Fld Z h24 a24 "com/example/lynceus/lynceus/InputItem" "skipped" "Lcom/example/lynceus/lynceus/SkipReason;" .null := D24 (Or.inr (w57 cx)) (ty := (.object "com/example/lynceus/lynceus/SkipReason")) (by decide)
  refine P.dup X24 hx 73 (hb hby at_72) rfl rfl ?_
  refine P.aload X24 hx 75 (hb hby at_73) rfl rfl rfl ?_
  refine P.aload X24 hx 77 (hb hby at_75) rfl rfl rfl ?_
  refine X24.callC hx rfl (w38 cx) (w39 cx) (w40 cx) (by decide) (Ct.pay (W := 1) (ct_itinit cx a24 a14 (.ref a2) h24 _ _ A24 D27 D28 (List.mem_of_getElem? (i := 0) rfl) rfl) (w40 cx) (w37 cx) (nle rfl) (nle rfl)) (by rw [hml]; rfl) (argsL := [.ref a14, .ref a2]) (rest := [.ref a24]) (lenOf pd3 rfl) rfl rfl (Nat.le_of_eq rfl) (hb hby at_77) (nle rfl) (nle rfl) ?_
  rintro T29 h29 _ _ _ X29 ⟨rfl, rfl, rfl, J29, G30, G31⟩
  have K32 : Keep h h29 [] := K26.trans J29 (allS (Or.inr ge25) all0)
  refine P.astore X29 hx 82 #[.val (.int p0), .val (.int p1), .val (.int p2), .val (.int p3), .val (.int k), .val (.ref a2), .val (.ref a4), .val (.ref a14), .val (.ref a24), .unset, .unset, .unset] (hb hby at_80) rfl rfl rfl ?_
  refine P.iload X29 hx 84 (hb hby at_82) rfl rfl ?_
  refine P.ifYes X29 hx 91 (hb hby at_84) ((if0 _ _).trans (feq hk0).2) (by decide) (by decide) ?_
  refine P.iconst X29 hx 92 0 (hb hby at_91) rfl rfl ?_
  refine P.istore X29 hx 94 #[.val (.int p0), .val (.int p1), .val (.int p2), .val (.int p3), .val (.int k), .val (.ref a2), .val (.ref a4), .val (.ref a14), .val (.ref a24), .val (.int (0 : Int32)), .unset, .unset] (hb hby at_92) rfl rfl ?_
  refine P.aload X29 hx 96 (hb hby at_94) rfl rfl rfl ?_
  have F33 : Exa Z h29 a24 "com/example/lynceus/lynceus/InputItem" := (A24.keep J29)
  refine X29.callV hx (w58 cx) (w59 cx) (w61 cx) (w60 cx) (fun _ hZ => nf hZ (w61 cx)) (by decide) F33 (Ct.pay (W := 0) (ct_isread1 cx a24 a2 h29 _ _ G31) (w62 cx) (w37 cx) (nle rfl) (nle rfl)) (by rw [hml]; rfl) (argsL := []) (rest := []) (lenOf pd6 rfl) rfl rfl (Nat.le_of_eq rfl) (hb hby at_96) (nle rfl) (nle rfl) ?_
  rintro T34 h34 _ _ _ X34 ⟨rfl, rfl, rfl, J34⟩
  rw [J34] at X34
  refine P.iload X34 hx 101 (hb hby at_99) rfl rfl ?_
  refine P.icmpYes X34 hx 106 (hb hby at_101) (by decide) (by decide) (by decide) ?_
  refine P.aload X34 hx 108 (hb hby at_106) rfl rfl rfl ?_
  refine X34.callS hx (w63 cx) (w64 cx) (w37 cx) (w65 cx) (by decide) (Ct.pay (W := 0) (ct_read cx a14 h29 _ _ ) (w65 cx) (w37 cx) (nle rfl) (nle rfl)) (by rw [hml]; rfl) (argsL := [.ref a14]) (rest := []) (lenOf pd7 rfl) rfl rfl (Nat.le_of_eq rfl) (hb hby at_108) (nle rfl) (nle rfl) ?_
  rintro T35 h35 _ _ _ X35 ⟨a36, rfl, rfl, rfl, J35, G37, G38, G39⟩
  have K40 : Keep h h35 [] := K32.trans J35 all0
  refine P.astore X35 hx 113 #[.val (.int p0), .val (.int p1), .val (.int p2), .val (.int p3), .val (.int k), .val (.ref a2), .val (.ref a4), .val (.ref a14), .val (.ref a24), .val (.int (0 : Int32)), .val (.ref a36), .unset] (hb hby at_111) rfl rfl rfl ?_
  refine P.aload X35 hx 115 (hb hby at_113) rfl rfl rfl ?_
  refine X35.callV hx (w58 cx) (w59 cx) (w61 cx) (w60 cx) (fun _ hZ => nf hZ (w61 cx)) (by decide) G37 (Ct.pay (W := 0) (ct_isread0 cx a36 h35 _ _ G39) (w62 cx) (w37 cx) (nle rfl) (nle rfl)) (by rw [hml]; rfl) (argsL := []) (rest := []) (lenOf pd6 rfl) rfl rfl (Nat.le_of_eq rfl) (hb hby at_115) (nle rfl) (nle rfl) ?_
  rintro T41 h41 _ _ _ X41 ⟨rfl, rfl, rfl, J41⟩
  rw [J41] at X41
  refine P.ifYes X41 hx 123 (hb hby at_118) (by decide) (by decide) (by decide) ?_
  refine P.aload X41 hx 125 (hb hby at_123) rfl rfl rfl ?_
  refine P.ifnullNo X41 hx 128 (hb hby at_125) rfl ?_
  refine P.aload X41 hx 130 (hb hby at_128) rfl rfl rfl ?_
  refine P.aload X41 hx 132 (hb hby at_130) rfl rfl rfl ?_
  refine X41.callS hx (w72 cx) (w73 cx) (w37 cx) (w74 cx) (by decide) (Ct.pay (W := 0) (ct_skipped cx a14 a2 h35 _ _ (G3.ext X41.old.2)) (w74 cx) (w37 cx) (nle rfl) (nle rfl)) (by rw [hml]; rfl) (argsL := [.ref a14, .ref a2]) (rest := []) (lenOf pd8 rfl) rfl rfl (Nat.le_of_eq rfl) (hb hby at_132) (nle rfl) (nle rfl) ?_
  rintro T42 h42 _ _ _ X42 ⟨a43, rfl, rfl, rfl, J42, G44, G45, G46⟩
  have K47 : Keep h h42 [] := K40.trans J42 all0
  refine P.astore X42 hx 137 #[.val (.int p0), .val (.int p1), .val (.int p2), .val (.int p3), .val (.int k), .val (.ref a2), .val (.ref a4), .val (.ref a14), .val (.ref a24), .val (.int (0 : Int32)), .val (.ref a36), .val (.ref a43)] (hb hby at_135) rfl rfl rfl ?_
  refine P.aload X42 hx 139 (hb hby at_137) rfl rfl rfl ?_
  refine X42.callV hx (w58 cx) (w59 cx) (w61 cx) (w60 cx) (fun _ hZ => nf hZ (w61 cx)) (by decide) G44 (Ct.pay (W := 0) (ct_isread1 cx a43 a2 h42 _ _ G46) (w62 cx) (w37 cx) (nle rfl) (nle rfl)) (by rw [hml]; rfl) (argsL := []) (rest := []) (lenOf pd6 rfl) rfl rfl (Nat.le_of_eq rfl) (hb hby at_139) (nle rfl) (nle rfl) ?_
  rintro T48 h48 _ _ _ X48 ⟨rfl, rfl, rfl, J48⟩
  rw [J48] at X48
  refine P.ifYes X48 hx 147 (hb hby at_142) (by decide) (by decide) (by decide) ?_
  refine P.iconst X48 hx 148 1 (hb hby at_147) rfl rfl ?_
  have X49 := WS.drop (A := []) (B := (a36 :: a24 :: a14 :: a4 :: WL)) X48
  have X50 := WS.drop (A := []) (B := (a24 :: a14 :: a4 :: WL)) X49
  have X51 := WS.drop (A := []) (B := (a14 :: a4 :: WL)) X50
  have X52 := WS.drop (A := []) (B := (a4 :: WL)) X51
  have X53 := WS.drop (A := []) (B := WL) X52
  have X54 := WS.fl (FL2 := FL) X53 (fun y hy => (List.mem_append_right [a4, a14, a24, a36, a43, a21] hy))
  exact WS.retN X54 (WL' := []) (FL' := []) hx (t := .boolean) hret (by simp) hlk (hb hby at_148) (nle rfl) (nle rfl) ⟨rfl, rfl, rfl, K47⟩
set_option maxRecDepth 65536 in
theorem ct_law {l : Launch} {Z : State} {a0 : Array Value} {G1 : Int32} {s_BINARY : Addr} {s_CORRUPT : Addr} {s_TRUNCATED : Addr} {s_UNREADABLE : Addr} {s_LINK : Addr} (cx : Cx a0 Z G1 s_BINARY s_CORRUPT s_TRUNCATED s_UNREADABLE s_LINK) {n0 : Nat} (p0 : Int32) (p1 : Int32) (p2 : Int32) (p3 : Int32) (h : Heap) (WL FL : List Addr)  :
    Ct l Z EL1 n0 x code maxLocals ret room_1 #[(.int p0), (.int p1), (.int p2), (.int p3)] h WL FL (Q_law Z G1 s_BINARY s_CORRUPT s_TRUNCATED s_UNREADABLE s_LINK p0 p1 p2 p3 h) := by
  have hk := rem6 p0
  rcases and_one p3 with ef | ef <;> rcases hk with ek | hk
  · exact ct_law_00 cx p0 p1 p2 p3 h WL FL ef ek
  · exact ct_law_01 cx p0 p1 p2 p3 h WL FL ef _ rfl hk (fun q => by rw [q] at hk; revert hk; decide)
  · exact ct_law_10 cx p0 p1 p2 p3 h WL FL ef ek
  · exact ct_law_11 cx p0 p1 p2 p3 h WL FL ef _ rfl hk (fun q => by rw [q] at hk; revert hk; decide)

set_option maxRecDepth 65536 in
set_option maxHeartbeats 4000000 in
theorem comes_1 {Post : Tables → Env → Array Value → State → Outcome → State → Prop} (hpost : ∀ tb e args s v u, (limb_1_1.after args s (.returned v) u = true ∧ limb_1_2.after args s (.returned v) u = true ∧ True) → Jvm.Pilot.@@N@@.Jvm.D.FramedW s (.returned v) u (Jvm.fieldLocs frame_1_writes args s ++ Jvm.arrayLocs frame_1_arrays args s ++ Jvm.staticLocs frame_1_statics s) 32 3200 → Post tb e args s (.returned v) u) :
    ArmFor flags0 classFile x code maxLocals ret World_1 tables_1 room_1 Calls_1 rest_1 Pre_1 Post := by
  intro l hfl _ _ p e ha hc hk s m args below hf hA hF happ hP
  obtain ⟨hcalls, hrest, hpre⟩ := hP
  obtain ⟨-, -, -, hnamed, -, -, -, hat⟩ := (Spec.applies_iff hf).mp happ
  obtain ⟨hg, hn⟩ := and_e (Cond.before_iff.mp (show (Jvm.Cond.and given_1 narrow_1).before args s = true from hpre))
  obtain ⟨h1, g0⟩ := and_e hg
  obtain ⟨b0, g1⟩ := and_e g0
  obtain ⟨b1, g2⟩ := and_e g1
  obtain ⟨b2, g3⟩ := and_e g2
  obtain ⟨z0, z1, z2, z3, rfl⟩ : ∃ z0 z1 z2 z3 : Value, args = #[z0, z1, z2, z3] := by
    have hs : args.size = 4 := by simpa [Cond.value, given_1] using h1
    obtain ⟨L⟩ := args
    match L, hs with
    | [z0, z1, z2, z3], _ => exact ⟨z0, z1, z2, z3, rfl⟩
  have hw := fun d (hd : d ∈ tables_1) => atoms_spec (ws := Jvm.Cond.code x code maxLocals ret :: tables_1) hat d (List.mem_cons_of_mem _ hd)
  obtain ⟨hsets, hown0⟩ := atoms_of _ (rest_1_c_eq ▸ (show rest_1_c.before _ s = true from hrest))
  have hfit : Fit s := fun {y c} hc i hi => by
    obtain ⟨ha, rfl⟩ := Array.getElem?_eq_some_iff.mp hc
    have q := List.all_eq_true.mp ((Array.all_eq_true_iff_forall_mem.mp hF) _ (Array.getElem_mem ha)) i (List.mem_range.mpr hi)
    simpa [Array.getElem?_eq_getElem hi] using q
  obtain ⟨i_0, e_0⟩ := is_v b0
  obtain rfl : z0 = (.int i_0) := Option.some.inj e_0
  obtain ⟨i_1, e_1⟩ := is_v b1
  obtain rfl : z1 = (.int i_1) := Option.some.inj e_1
  obtain ⟨i_2, e_2⟩ := is_v b2
  obtain rfl : z2 = (.int i_2) := Option.some.inj e_2
  obtain ⟨i_3, e_3⟩ := is_v g3
  obtain rfl : z3 = (.int i_3) := Option.some.inj e_3
  obtain ⟨i7, e7⟩ := is_v (Cond.before_iff.mp (hsets _ (List.mem_of_getElem? (i := 1) rfl)))
  have S7 : Sta s s.heap "java/lang/String" "COMPACT_STRINGS" "Z" (.int i7) := Sta.start e7 (Or.inl (hsets _ (List.mem_of_getElem? (i := 0) rfl)))
  have n7 := not_v (Cond.before_iff.mp (hsets _ (List.mem_of_getElem? (i := 2) rfl)))
  have c7 : ¬ (i7 = (0 : Int32)) := gotF (Cond.eq_ints e7 (Term.int_eval (0))) n7
  have nr0 := hn
  obtain ⟨m0, nr1⟩ := and_e nr0
  obtain ⟨a_BINARY, e_BINARY⟩ := exa_v m0
  have S_BINARY : Sta s s.heap "com/example/lynceus/lynceus/SkipReason" "BINARY" "Lcom/example/lynceus/lynceus/SkipReason;" (.ref a_BINARY) := Sta.start e_BINARY (Or.inr ⟨(hw _ (List.mem_of_getElem? (i := 70) rfl)), (hw _ (List.mem_of_getElem? (i := 71) rfl))⟩)
  have E_BINARY : Exa s s.heap a_BINARY "com/example/lynceus/lynceus/SkipReason" := Exa.start e_BINARY m0
  obtain ⟨m1, nr2⟩ := and_e nr1
  obtain ⟨a_CORRUPT, e_CORRUPT⟩ := exa_v m1
  have S_CORRUPT : Sta s s.heap "com/example/lynceus/lynceus/SkipReason" "CORRUPT" "Lcom/example/lynceus/lynceus/SkipReason;" (.ref a_CORRUPT) := Sta.start e_CORRUPT (Or.inr ⟨(hw _ (List.mem_of_getElem? (i := 70) rfl)), (hw _ (List.mem_of_getElem? (i := 79) rfl))⟩)
  have E_CORRUPT : Exa s s.heap a_CORRUPT "com/example/lynceus/lynceus/SkipReason" := Exa.start e_CORRUPT m1
  obtain ⟨m2, nr3⟩ := and_e nr2
  obtain ⟨a_TRUNCATED, e_TRUNCATED⟩ := exa_v m2
  have S_TRUNCATED : Sta s s.heap "com/example/lynceus/lynceus/SkipReason" "TRUNCATED" "Lcom/example/lynceus/lynceus/SkipReason;" (.ref a_TRUNCATED) := Sta.start e_TRUNCATED (Or.inr ⟨(hw _ (List.mem_of_getElem? (i := 70) rfl)), (hw _ (List.mem_of_getElem? (i := 81) rfl))⟩)
  have E_TRUNCATED : Exa s s.heap a_TRUNCATED "com/example/lynceus/lynceus/SkipReason" := Exa.start e_TRUNCATED m2
  obtain ⟨m3, nr4⟩ := and_e nr3
  obtain ⟨a_UNREADABLE, e_UNREADABLE⟩ := exa_v m3
  have S_UNREADABLE : Sta s s.heap "com/example/lynceus/lynceus/SkipReason" "UNREADABLE" "Lcom/example/lynceus/lynceus/SkipReason;" (.ref a_UNREADABLE) := Sta.start e_UNREADABLE (Or.inr ⟨(hw _ (List.mem_of_getElem? (i := 70) rfl)), (hw _ (List.mem_of_getElem? (i := 83) rfl))⟩)
  have E_UNREADABLE : Exa s s.heap a_UNREADABLE "com/example/lynceus/lynceus/SkipReason" := Exa.start e_UNREADABLE m3
  obtain ⟨a_LINK, e_LINK⟩ := exa_v nr4
  have S_LINK : Sta s s.heap "com/example/lynceus/lynceus/SkipReason" "LINK" "Lcom/example/lynceus/lynceus/SkipReason;" (.ref a_LINK) := Sta.start e_LINK (Or.inr ⟨(hw _ (List.mem_of_getElem? (i := 70) rfl)), (hw _ (List.mem_of_getElem? (i := 85) rfl))⟩)
  have E_LINK : Exa s s.heap a_LINK "com/example/lynceus/lynceus/SkipReason" := Exa.start e_LINK nr4
  have cx : Cx #[(.int i_0), (.int i_1), (.int i_2), (.int i_3)] s i7 a_BINARY a_CORRUPT a_TRUNCATED a_UNREADABLE a_LINK := ⟨hw, S7, c7, S_BINARY, E_BINARY, S_CORRUPT, E_CORRUPT, S_TRUNCATED, E_TRUNCATED, S_UNREADABLE, E_UNREADABLE, S_LINK, E_LINK⟩
  have ew : EW s #[(.int i_0), (.int i_1), (.int i_2), (.int i_3)] EL1 := (EW.cons (w47 cx) (by decide) (EW.cons (w75 cx) (by decide) (EW.cons (w68 cx) (by decide) EW.nil)))
  have inv0 : Inv s EL1 s.heap.size s.vm s.heap [] [] := ⟨⟨_, ew⟩, CHv.start ew (fun p hp => hcalls.1 p hp) (hsets _ (List.mem_of_getElem? (i := 2) rfl)) (strAtoms cx _ (by simp [Bundle.stringAtoms])) (strAtoms cx _ (by simp [Bundle.stringAtoms, Bundle.sN])), Old.start s, fun _ q => (nomatch q), List.nodup_nil, fun _ q => (nomatch q)⟩
  obtain ⟨n, o, h1, h2, h3, _, L, WL', FL', rfl, I', N, ⟨rfl, -⟩, hq⟩ := ct_law (l := l) (Z := s) cx (n0 := s.heap.size) i_0 i_1 i_2 i_3 s.heap [] [] tables_1 p e ha hc hk s m _ below hf ((Spec.applies_iff_loose hf).mp happ).1 ⟨rfl, State.Warmed39.refl s, rfl, inv0⟩ trivial
  exact ⟨n, _, h1, h2, h3, hpost _ _ _ _ _ _ ⟨Cond.after_iff.mpr rfl, Cond.after_iff.mpr (eq_i res_at (Term.int_eval (1)) rfl), trivial⟩ ⟨hq.1, hq.2.1, hq.2.2.1, (hq.2.2.2.sift fun y hy => Or.inr (N y hy)).mono (by decide) (by decide)⟩⟩
theorem main_1_1 : Claimed_1_1 := comes_1 fun _ _ _ _ _ _ h hF => ⟨h.1, hF⟩
theorem main_1_2 : Claimed_1_2 := comes_1 fun _ _ _ _ _ _ h hF => ⟨h.2.1, hF⟩
end Jvm.Pilot.@@N@@
namespace Jvm.Pilot.@@N@@
open Jvm Jvm.ClassFile Sem Op Lib Jvm.Free Jvm.Stand Jvm.Pilot.@@N@@.Jvm.D
/-! MADE BY PROGRAM (witnessworld.py) out of the Statement's table words and the real class files: 24 classes; the members and pool entries that the words name. The judged class is class 1, her method 2. -/
namespace start1
open Jvm.ClassFile
def u (s : String) : CpInfo := .utf8 (stringToUtf16 s)
/-- a pool by its gaps: so many unusable entries, then the entry; so many at the end -/
def gap : Nat → List CpInfo → List CpInfo
  | 0, r => r
  | n + 1, r => .unusable :: gap n r
def poolList (es : List (Nat × CpInfo)) (last : Nat) : List CpInfo := es.foldr (fun e r => gap e.1 (e.2 :: r)) (gap last [])
def pool (es : List (Nat × CpInfo)) (last : Nat) : Array CpInfo := ⟨poolList es last⟩
def fileOf (pool : Array CpInfo) (this : Nat) (attrs : Array Attribute := #[]) (ms : Array MethodInfo := #[]) (fl : Nat := 33) (sup : Nat := 0) (ifs : Array Nat := #[]) (fds : Array FieldInfo := #[]) : ClassFile where
  minorVersion := 0
  majorVersion := 65
  constantPool := pool
  accessFlags := fl
  thisClass := this
  superClass := sup
  interfaces := ifs
  fields := fds
  methods := ms
  attributes := attrs
def plain (name : String) (sup : Option ClassId) : Class where
  name := name
  kind := .ordinary
  loader := none
  accessFlags := 33
  super := sup
  interfaces := #[]
  cf := none
  fields := #[]
  methods := #[]
  instanceTypes := #[]
  staticTypes := #[]
  resolved := #[]
  callSites := []
  init := .initialized
  statics := none
  mirror := none

def pool0 : Array CpInfo := pool [(5, u "<init>"), (0, u "()V"), (1, .class_ 10), (1, u "java/lang/Object")] 113

def k0c0 : Code := { maxStack := 0, maxLocals := 1, code := object_method_1_code, exceptionTable := #[], attributes := #[] }
def k0m0 : Method := { name := "<init>", desc := "()V", sig := { parameters := [], returnType := none }, accessFlags := 1, code := some k0c0 }
/-- java/lang/Object -/
def k0 : Class := { plain "java/lang/Object" none with
  accessFlags := 33
  interfaces := #[]
  cf := some (fileOf pool0 8 #[] #[{ accessFlags := 1, nameIndex := 5, descriptorIndex := 6, attributes := #[] }] 33 0 #[] #[])
  fields := #[]
  methods := #[k0m0]
  instanceTypes := #[]
  staticTypes := #[]
  resolved := Array.replicate 124 none
  statics := none }

def pool1 : Array CpInfo := pool [(2, .class_ 4), (1, u "java/lang/Object"), (0, u "<init>"), (0, u "()V"), (0, .fieldref 8 9), (0, .class_ 10), (0, .nameAndType 11 12), (0, u "com/example/lynceus/lynceus/SkipReason"), (0, u "BINARY"), (0, u "Lcom/example/lynceus/lynceus/SkipReason;"), (0, .fieldref 8 14), (0, .nameAndType 15 12), (0, u "LINK"), (0, .fieldref 8 17), (0, .nameAndType 18 12), (0, u "TRUNCATED"), (0, .fieldref 8 20), (0, .nameAndType 21 12), (0, u "CORRUPT"), (0, .fieldref 8 23), (0, .nameAndType 24 12), (0, u "UNREADABLE"), (0, .integer 2147483647), (0, .methodref 27 28), (0, .class_ 29), (0, .nameAndType 30 31), (0, u "com/example/lynceus/lynceus/InputItemIsReadPinLaw"), (0, u "reason"), (0, u "(I)Lcom/example/lynceus/lynceus/SkipReason;"), (0, .class_ 33), (0, u "java/lang/String"), (0, .methodref 32 35), (0, .nameAndType 5 36), (0, u "([C)V"), (0, .class_ 38), (0, u "com/example/lynceus/lynceus/InputItem"), (0, .methodref 37 40), (0, .nameAndType 5 41), (0, u "(Ljava/lang/String;Lcom/example/lynceus/lynceus/SkipReason;)V"), (0, .methodref 37 43), (0, .nameAndType 44 45), (0, u "isRead"), (0, u "()Z"), (0, .methodref 37 47), (0, .nameAndType 48 49), (0, u "read"), (0, u "(Ljava/lang/String;)Lcom/example/lynceus/lynceus/InputItem;"), (0, .methodref 37 51), (0, .nameAndType 52 53), (0, u "skipped"), (0, u "(Ljava/lang/String;Lcom/example/lynceus/lynceus/SkipReason;)Lcom/example/lynceus/lynceus/InputItem;"), (3, u "law"), (0, u "(IIII)Z")] 4

def k1m0 : Method := { name := "<init>", desc := "()V", sig := { parameters := [], returnType := none }, accessFlags := 1, code := none }
def k1c1 : Code := { maxStack := 2, maxLocals := 1, code := method_2_code, exceptionTable := #[], attributes := #[] }
def k1m1 : Method := { name := "reason", desc := "(I)Lcom/example/lynceus/lynceus/SkipReason;", sig := { parameters := [.int], returnType := some (.object "com/example/lynceus/lynceus/SkipReason") }, accessFlags := 10, code := some k1c1 }
def k1c2 : Code := { maxStack := 5, maxLocals := 12, code := code, exceptionTable := #[], attributes := #[] }
def k1m2 : Method := { name := "law", desc := "(IIII)Z", sig := { parameters := [.int, .int, .int, .int], returnType := some .boolean }, accessFlags := 9, code := some k1c2 }
/-- com/example/lynceus/lynceus/InputItemIsReadPinLaw -/
def k1 : Class := { plain "com/example/lynceus/lynceus/InputItemIsReadPinLaw" (some 0) with
  accessFlags := 49
  interfaces := #[]
  cf := some (fileOf pool1 27 #[] #[{ accessFlags := 1, nameIndex := 5, descriptorIndex := 6, attributes := #[] }, { accessFlags := 10, nameIndex := 30, descriptorIndex := 31, attributes := #[] }, { accessFlags := 9, nameIndex := 57, descriptorIndex := 58, attributes := #[] }] 49 2 #[] #[])
  fields := #[]
  methods := #[k1m0, k1m1, k1m2]
  instanceTypes := #[]
  staticTypes := #[]
  resolved := Array.replicate 63 none
  statics := none }

def pool2 : Array CpInfo := pool [(1, .class_ 2), (0, u "java/io/Serializable"), (0, .class_ 4), (0, u "java/lang/Object")] 2

/-- java/io/Serializable -/
def k2 : Class := { plain "java/io/Serializable" (some 0) with
  accessFlags := 1537
  interfaces := #[]
  cf := some (fileOf pool2 1 #[] #[] 1537 3 #[] #[])
  fields := #[]
  methods := #[]
  instanceTypes := #[]
  staticTypes := #[]
  resolved := Array.replicate 7 none
  statics := none }

def pool3 : Array CpInfo := pool [(1, .class_ 2), (0, u "java/lang/Comparable"), (0, .class_ 4), (0, u "java/lang/Object")] 7

/-- java/lang/Comparable -/
def k3 : Class := { plain "java/lang/Comparable" (some 0) with
  accessFlags := 1537
  interfaces := #[]
  cf := some (fileOf pool3 1 #[] #[] 1537 3 #[] #[])
  fields := #[]
  methods := #[]
  instanceTypes := #[]
  staticTypes := #[]
  resolved := Array.replicate 12 none
  statics := none }

def pool4 : Array CpInfo := pool [(2, .class_ 4), (1, u "java/lang/CharSequence"), (42, .class_ 48), (0, u "java/lang/CharSequence$1CodePointIterator"), (10, .class_ 60), (0, u "java/lang/CharSequence$1CharIterator"), (5, .class_ 67), (0, u "java/lang/Object")] 63

/-- java/lang/CharSequence -/
def k4 : Class := { plain "java/lang/CharSequence" (some 0) with
  accessFlags := 1537
  interfaces := #[]
  cf := some (fileOf pool4 2 #[.nestMembers #[47, 59]] #[] 1537 66 #[] #[])
  fields := #[]
  methods := #[]
  instanceTypes := #[]
  staticTypes := #[]
  resolved := Array.replicate 131 none
  statics := none }

def pool5 : Array CpInfo := pool [(1, .class_ 2), (0, u "java/lang/constant/Constable"), (0, .class_ 4), (0, u "java/lang/Object")] 6

/-- java/lang/constant/Constable -/
def k5 : Class := { plain "java/lang/constant/Constable" (some 0) with
  accessFlags := 1537
  interfaces := #[]
  cf := some (fileOf pool5 1 #[] #[] 1537 3 #[] #[])
  fields := #[]
  methods := #[]
  instanceTypes := #[]
  staticTypes := #[]
  resolved := Array.replicate 11 none
  statics := none }

def pool6 : Array CpInfo := pool [(1, .class_ 2), (0, u "java/lang/constant/ConstantDesc"), (0, .class_ 4), (0, u "java/lang/Object")] 32

/-- java/lang/constant/ConstantDesc -/
def k6 : Class := { plain "java/lang/constant/ConstantDesc" (some 0) with
  accessFlags := 1537
  interfaces := #[]
  cf := some (fileOf pool6 1 #[] #[] 1537 3 #[] #[])
  fields := #[]
  methods := #[]
  instanceTypes := #[]
  staticTypes := #[]
  resolved := Array.replicate 37 none
  statics := none }

def pool7 : Array CpInfo := pool [(1, .methodref 2 3), (0, .class_ 4), (0, .nameAndType 5 6), (0, u "java/lang/Object"), (0, u "<init>"), (0, u "()V"), (0, .string 8), (0, u ""), (0, .fieldref 10 11), (0, .class_ 12), (0, .nameAndType 13 14), (0, u "java/lang/String"), (0, u "value"), (0, u "[B"), (0, .fieldref 10 16), (0, .nameAndType 17 18), (0, u "coder"), (0, u "B"), (2, u "hash"), (0, u "I"), (2, u "hashIsZero"), (0, u "Z"), (0, .methodref 10 28), (0, .nameAndType 5 29), (0, u "([CIILjava/lang/Void;)V"), (8, .fieldref 10 39), (0, .nameAndType 40 26), (0, u "COMPACT_STRINGS"), (1, .class_ 44), (1, u "java/lang/StringUTF16"), (0, u "compress"), (1, .methodref 42 48), (0, .nameAndType 49 50), (0, u "coderFromArrayLen"), (0, u "([BI)B"), (126, .methodref 42 178), (0, .nameAndType 45 179), (0, u "([CII)[B"), (395, .class_ 576), (0, u "java/lang/CharSequence"), (22, u "CASE_INSENSITIVE_ORDER"), (0, u "Ljava/util/Comparator;"), (409, u "([C)V"), (90, u "serialPersistentFields"), (0, u "[Ljava/io/ObjectStreamField;"), (0, .class_ 1104), (0, u "java/lang/String$CaseInsensitiveComparator"), (1, .class_ 1107), (0, u "java/io/Serializable"), (0, .class_ 1109), (0, u "java/lang/Comparable"), (0, .class_ 1111), (0, u "java/lang/constant/Constable"), (0, .class_ 1113), (0, u "java/lang/constant/ConstantDesc"), (2, u "serialVersionUID"), (0, u "J"), (3, u "REPL"), (0, u "C"), (2, u "LATIN1"), (1, u "UTF16")] 323

def k7m0 : Method := { name := "<init>", desc := "()V", sig := { parameters := [], returnType := none }, accessFlags := 1, code := none }
def k7c1 : Code := { maxStack := 5, maxLocals := 2, code := jdk_42_method_3_code, exceptionTable := #[], attributes := #[] }
def k7m1 : Method := { name := "<init>", desc := "([C)V", sig := { parameters := [(.array .char)], returnType := none }, accessFlags := 1, code := some k7c1 }
def k7c2 : Code := { maxStack := 4, maxLocals := 6, code := jdk_42_method_149_code, exceptionTable := #[], attributes := #[] }
def k7m2 : Method := { name := "<init>", desc := "([CIILjava/lang/Void;)V", sig := { parameters := [(.array .char), .int, .int, (.object "java/lang/Void")], returnType := none }, accessFlags := 2, code := some k7c2 }
/-- java/lang/String -/
def k7 : Class := { plain "java/lang/String" (some 0) with
  accessFlags := 49
  interfaces := #[2, 3, 4, 5, 6]
  cf := some (fileOf pool7 10 #[.nestMembers #[1103]] #[{ accessFlags := 1, nameIndex := 5, descriptorIndex := 6, attributes := #[] }, { accessFlags := 1, nameIndex := 5, descriptorIndex := 1010, attributes := #[] }, { accessFlags := 2, nameIndex := 5, descriptorIndex := 29, attributes := #[] }] 49 2 #[1106, 1108, 575, 1110, 1112] #[{ accessFlags := 18, nameIndex := 13, descriptorIndex := 14, attributes := #[] }, { accessFlags := 18, nameIndex := 17, descriptorIndex := 18, attributes := #[] }, { accessFlags := 2, nameIndex := 21, descriptorIndex := 22, attributes := #[] }, { accessFlags := 2, nameIndex := 25, descriptorIndex := 26, attributes := #[] }, { accessFlags := 26, nameIndex := 1116, descriptorIndex := 1117, attributes := #[] }, { accessFlags := 24, nameIndex := 40, descriptorIndex := 26, attributes := #[] }, { accessFlags := 26, nameIndex := 1101, descriptorIndex := 1102, attributes := #[] }, { accessFlags := 26, nameIndex := 1121, descriptorIndex := 1122, attributes := #[] }, { accessFlags := 25, nameIndex := 599, descriptorIndex := 600, attributes := #[] }, { accessFlags := 24, nameIndex := 1125, descriptorIndex := 18, attributes := #[] }, { accessFlags := 24, nameIndex := 1127, descriptorIndex := 18, attributes := #[] }])
  fields := #[{ name := "value", type := (.array .byte), accessFlags := 18, slot := 0, constantValue := 0 }, { name := "coder", type := .byte, accessFlags := 18, slot := 1, constantValue := 0 }, { name := "hash", type := .int, accessFlags := 2, slot := 2, constantValue := 0 }, { name := "hashIsZero", type := .boolean, accessFlags := 2, slot := 3, constantValue := 0 }, { name := "serialVersionUID", type := .long, accessFlags := 26, slot := 0, constantValue := 0 }, { name := "COMPACT_STRINGS", type := .boolean, accessFlags := 24, slot := 1, constantValue := 0 }, { name := "serialPersistentFields", type := (.array (.object "java/io/ObjectStreamField")), accessFlags := 26, slot := 2, constantValue := 0 }, { name := "REPL", type := .char, accessFlags := 26, slot := 3, constantValue := 0 }, { name := "CASE_INSENSITIVE_ORDER", type := (.object "java/util/Comparator"), accessFlags := 25, slot := 4, constantValue := 0 }, { name := "LATIN1", type := .byte, accessFlags := 24, slot := 5, constantValue := 0 }, { name := "UTF16", type := .byte, accessFlags := 24, slot := 6, constantValue := 0 }]
  methods := #[k7m0, k7m1, k7m2]
  instanceTypes := #[(.array .byte), .byte, .int, .boolean]
  staticTypes := #[.long, .boolean, (.array (.object "java/io/ObjectStreamField")), .char, (.object "java/util/Comparator"), .byte, .byte]
  resolved := Array.replicate 1451 none
  statics := some 0 }

def pool8 : Array CpInfo := pool [(6, .class_ 8), (1, u "java/lang/Object"), (0, u "<init>"), (0, u "()V"), (1, .class_ 14), (1, u "java/lang/StringUTF16"), (31, u "$assertionsDisabled"), (0, u "Z"), (13, u "HI_BYTE_SHIFT"), (0, u "I"), (2, u "LO_BYTE_SHIFT"), (49, .methodref 12 116), (0, .nameAndType 117 118), (0, u "compress"), (0, u "([CI[BII)I"), (3, u "([CII)[B"), (138, u "coderFromArrayLen"), (0, u "([BI)B"), (106, .class_ 371), (1, u "java/lang/StringUTF16$LinesSpliterator"), (58, u "MAX_LENGTH"), (196, .class_ 628), (0, u "java/lang/StringUTF16$CodePointsSpliterator"), (0, .class_ 630), (0, u "java/lang/StringUTF16$CharsSpliterator")] 4

def k8m0 : Method := { name := "<init>", desc := "()V", sig := { parameters := [], returnType := none }, accessFlags := 0, code := none }
def k8c1 : Code := { maxStack := 2, maxLocals := 2, code := jdk_52_method_15_code, exceptionTable := #[], attributes := #[] }
def k8m1 : Method := { name := "coderFromArrayLen", desc := "([BI)B", sig := { parameters := [(.array .byte), .int], returnType := some .byte }, accessFlags := 8, code := some k8c1 }
def k8c2 : Code := { maxStack := 5, maxLocals := 6, code := jdk_52_method_16_code, exceptionTable := #[], attributes := #[] }
def k8m2 : Method := { name := "compress", desc := "([CII)[B", sig := { parameters := [(.array .char), .int, .int], returnType := some (.array .byte) }, accessFlags := 9, code := some k8c2 }
def k8c3 : Code := { maxStack := 3, maxLocals := 7, code := jdk_52_method_21_code, exceptionTable := #[], attributes := #[] }
def k8m3 : Method := { name := "compress", desc := "([CI[BII)I", sig := { parameters := [(.array .char), .int, (.array .byte), .int, .int], returnType := some .int }, accessFlags := 9, code := some k8c3 }
/-- java/lang/StringUTF16 -/
def k8 : Class := { plain "java/lang/StringUTF16" (some 0) with
  accessFlags := 48
  interfaces := #[]
  cf := some (fileOf pool8 12 #[.nestMembers #[627, 629, 369]] #[{ accessFlags := 0, nameIndex := 9, descriptorIndex := 10, attributes := #[] }, { accessFlags := 8, nameIndex := 261, descriptorIndex := 262, attributes := #[] }, { accessFlags := 9, nameIndex := 117, descriptorIndex := 122, attributes := #[] }, { accessFlags := 9, nameIndex := 117, descriptorIndex := 118, attributes := #[] }] 48 6 #[] #[{ accessFlags := 26, nameIndex := 61, descriptorIndex := 62, attributes := #[] }, { accessFlags := 26, nameIndex := 65, descriptorIndex := 62, attributes := #[] }, { accessFlags := 24, nameIndex := 430, descriptorIndex := 62, attributes := #[] }, { accessFlags := 4120, nameIndex := 46, descriptorIndex := 47, attributes := #[] }])
  fields := #[{ name := "HI_BYTE_SHIFT", type := .int, accessFlags := 26, slot := 0, constantValue := 0 }, { name := "LO_BYTE_SHIFT", type := .int, accessFlags := 26, slot := 1, constantValue := 0 }, { name := "MAX_LENGTH", type := .int, accessFlags := 24, slot := 2, constantValue := 0 }, { name := "$assertionsDisabled", type := .boolean, accessFlags := 4120, slot := 3, constantValue := 0 }]
  methods := #[k8m0, k8m1, k8m2, k8m3]
  instanceTypes := #[]
  staticTypes := #[.int, .int, .int, .boolean]
  resolved := Array.replicate 635 none
  statics := none }

def pool9 : Array CpInfo := pool [(1, .methodref 2 3), (0, .class_ 4), (0, .nameAndType 5 6), (0, u "java/lang/Object"), (0, u "<init>"), (0, u "()V"), (0, .class_ 8), (0, u "java/lang/Record")] 13

def k9c0 : Code := { maxStack := 1, maxLocals := 1, code := jdk_30_method_1_code, exceptionTable := #[], attributes := #[] }
def k9m0 : Method := { name := "<init>", desc := "()V", sig := { parameters := [], returnType := none }, accessFlags := 4, code := some k9c0 }
/-- java/lang/Record -/
def k9 : Class := { plain "java/lang/Record" (some 0) with
  accessFlags := 1057
  interfaces := #[]
  cf := some (fileOf pool9 7 #[] #[{ accessFlags := 4, nameIndex := 5, descriptorIndex := 6, attributes := #[] }] 1057 2 #[] #[])
  fields := #[]
  methods := #[k9m0]
  instanceTypes := #[]
  staticTypes := #[]
  resolved := Array.replicate 22 none
  statics := none }

def pool10 : Array CpInfo := pool [(1, .methodref 2 3), (0, .class_ 4), (0, .nameAndType 5 6), (0, u "java/lang/Record"), (0, u "<init>"), (0, u "()V"), (0, .string 8), (0, u "name"), (0, .methodref 10 11), (0, .class_ 12), (0, .nameAndType 13 14), (0, u "java/util/Objects"), (0, u "requireNonNull"), (0, u "(Ljava/lang/Object;Ljava/lang/String;)Ljava/lang/Object;"), (0, .fieldref 16 17), (0, .class_ 18), (0, .nameAndType 8 19), (0, u "com/example/lynceus/lynceus/InputItem"), (0, u "Ljava/lang/String;"), (0, .fieldref 16 21), (0, .nameAndType 22 23), (0, u "skipped"), (0, u "Lcom/example/lynceus/lynceus/SkipReason;"), (0, .methodref 16 25), (0, .nameAndType 5 26), (0, u "(Ljava/lang/String;Lcom/example/lynceus/lynceus/SkipReason;)V"), (0, .string 28), (0, u "reason"), (0, .class_ 30), (0, u "com/example/lynceus/lynceus/SkipReason"), (33, u "read"), (0, u "(Ljava/lang/String;)Lcom/example/lynceus/lynceus/InputItem;"), (0, u "(Ljava/lang/String;Lcom/example/lynceus/lynceus/SkipReason;)Lcom/example/lynceus/lynceus/InputItem;"), (0, u "isRead"), (0, u "()Z")] 31

def k10c0 : Code := { maxStack := 2, maxLocals := 3, code := prog_8_method_1_code, exceptionTable := #[], attributes := #[] }
def k10m0 : Method := { name := "<init>", desc := "(Ljava/lang/String;Lcom/example/lynceus/lynceus/SkipReason;)V", sig := { parameters := [(.object "java/lang/String"), (.object "com/example/lynceus/lynceus/SkipReason")], returnType := none }, accessFlags := 1, code := some k10c0 }
def k10c1 : Code := { maxStack := 4, maxLocals := 1, code := prog_8_method_2_code, exceptionTable := #[], attributes := #[] }
def k10m1 : Method := { name := "read", desc := "(Ljava/lang/String;)Lcom/example/lynceus/lynceus/InputItem;", sig := { parameters := [(.object "java/lang/String")], returnType := some (.object "com/example/lynceus/lynceus/InputItem") }, accessFlags := 9, code := some k10c1 }
def k10c2 : Code := { maxStack := 5, maxLocals := 2, code := prog_8_method_3_code, exceptionTable := #[], attributes := #[] }
def k10m2 : Method := { name := "skipped", desc := "(Ljava/lang/String;Lcom/example/lynceus/lynceus/SkipReason;)Lcom/example/lynceus/lynceus/InputItem;", sig := { parameters := [(.object "java/lang/String"), (.object "com/example/lynceus/lynceus/SkipReason")], returnType := some (.object "com/example/lynceus/lynceus/InputItem") }, accessFlags := 9, code := some k10c2 }
def k10c3 : Code := { maxStack := 1, maxLocals := 1, code := prog_8_method_4_code, exceptionTable := #[], attributes := #[] }
def k10m3 : Method := { name := "isRead", desc := "()Z", sig := { parameters := [], returnType := some .boolean }, accessFlags := 1, code := some k10c3 }
/-- com/example/lynceus/lynceus/InputItem -/
def k10 : Class := { plain "com/example/lynceus/lynceus/InputItem" (some 9) with
  accessFlags := 49
  interfaces := #[]
  cf := some (fileOf pool10 16 #[] #[{ accessFlags := 1, nameIndex := 5, descriptorIndex := 26, attributes := #[] }, { accessFlags := 9, nameIndex := 64, descriptorIndex := 65, attributes := #[] }, { accessFlags := 9, nameIndex := 22, descriptorIndex := 66, attributes := #[] }, { accessFlags := 1, nameIndex := 67, descriptorIndex := 68, attributes := #[] }] 49 2 #[] #[{ accessFlags := 18, nameIndex := 8, descriptorIndex := 19, attributes := #[] }, { accessFlags := 18, nameIndex := 22, descriptorIndex := 23, attributes := #[] }])
  fields := #[{ name := "name", type := (.object "java/lang/String"), accessFlags := 18, slot := 0, constantValue := 0 }, { name := "skipped", type := (.object "com/example/lynceus/lynceus/SkipReason"), accessFlags := 18, slot := 1, constantValue := 0 }]
  methods := #[k10m0, k10m1, k10m2, k10m3]
  instanceTypes := #[(.object "java/lang/String"), (.object "com/example/lynceus/lynceus/SkipReason")]
  staticTypes := #[]
  resolved := Array.replicate 100 none
  statics := none }

def pool11 : Array CpInfo := pool [(2, .class_ 4), (1, u "java/lang/Object"), (0, u "<init>"), (0, u "()V"), (35, .class_ 44), (1, u "java/util/Objects"), (0, u "requireNonNull"), (48, u "(Ljava/lang/Object;Ljava/lang/String;)Ljava/lang/Object;")] 89

def k11m0 : Method := { name := "<init>", desc := "()V", sig := { parameters := [], returnType := none }, accessFlags := 2, code := none }
def k11c1 : Code := { maxStack := 3, maxLocals := 2, code := jdk_31_method_11_code, exceptionTable := #[], attributes := #[] }
def k11m1 : Method := { name := "requireNonNull", desc := "(Ljava/lang/Object;Ljava/lang/String;)Ljava/lang/Object;", sig := { parameters := [(.object "java/lang/Object"), (.object "java/lang/String")], returnType := some (.object "java/lang/Object") }, accessFlags := 9, code := some k11c1 }
/-- java/util/Objects -/
def k11 : Class := { plain "java/util/Objects" (some 0) with
  accessFlags := 49
  interfaces := #[]
  cf := some (fileOf pool11 42 #[] #[{ accessFlags := 2, nameIndex := 5, descriptorIndex := 6, attributes := #[] }, { accessFlags := 9, nameIndex := 45, descriptorIndex := 94, attributes := #[] }] 49 2 #[] #[])
  fields := #[]
  methods := #[k11m0, k11m1]
  instanceTypes := #[]
  staticTypes := #[]
  resolved := Array.replicate 184 none
  statics := none }

def pool12 : Array CpInfo := pool [(2, .class_ 4), (1, u "java/lang/Enum"), (0, u "name"), (0, u "Ljava/lang/String;"), (2, u "ordinal"), (0, u "I"), (1, .class_ 14), (1, u "java/lang/Object"), (4, u "hash"), (86, .class_ 108), (1, u "java/lang/Enum$EnumDesc"), (2, .class_ 112), (0, u "java/lang/constant/Constable"), (0, .class_ 114), (0, u "java/lang/Comparable"), (0, .class_ 116), (0, u "java/io/Serializable")] 87

/-- java/lang/Enum -/
def k12 : Class := { plain "java/lang/Enum" (some 0) with
  accessFlags := 1057
  interfaces := #[5, 3, 2]
  cf := some (fileOf pool12 2 #[.nestMembers #[106]] #[] 1057 12 #[111, 113, 115] #[{ accessFlags := 18, nameIndex := 5, descriptorIndex := 6, attributes := #[] }, { accessFlags := 18, nameIndex := 9, descriptorIndex := 10, attributes := #[] }, { accessFlags := 2, nameIndex := 19, descriptorIndex := 10, attributes := #[] }])
  fields := #[{ name := "name", type := (.object "java/lang/String"), accessFlags := 18, slot := 0, constantValue := 0 }, { name := "ordinal", type := .int, accessFlags := 18, slot := 1, constantValue := 0 }, { name := "hash", type := .int, accessFlags := 2, slot := 2, constantValue := 0 }]
  methods := #[]
  instanceTypes := #[(.object "java/lang/String"), .int, .int]
  staticTypes := #[]
  resolved := Array.replicate 204 none
  statics := none }

def pool13 : Array CpInfo := pool [(1, .class_ 2), (0, u "com/example/lynceus/lynceus/SkipReason"), (2, u "BINARY"), (0, u "Lcom/example/lynceus/lynceus/SkipReason;"), (2, u "LINK"), (2, u "TRUNCATED"), (2, u "CORRUPT"), (2, u "UNREADABLE"), (2, u "$VALUES"), (0, u "[Lcom/example/lynceus/lynceus/SkipReason;"), (6, .class_ 31), (1, u "java/lang/Enum")] 44

/-- com/example/lynceus/lynceus/SkipReason -/
def k13 : Class := { plain "com/example/lynceus/lynceus/SkipReason" (some 12) with
  accessFlags := 16433
  interfaces := #[]
  cf := some (fileOf pool13 1 #[] #[] 16433 29 #[] #[{ accessFlags := 16409, nameIndex := 5, descriptorIndex := 6, attributes := #[] }, { accessFlags := 16409, nameIndex := 9, descriptorIndex := 6, attributes := #[] }, { accessFlags := 16409, nameIndex := 12, descriptorIndex := 6, attributes := #[] }, { accessFlags := 16409, nameIndex := 15, descriptorIndex := 6, attributes := #[] }, { accessFlags := 16409, nameIndex := 18, descriptorIndex := 6, attributes := #[] }, { accessFlags := 4122, nameIndex := 21, descriptorIndex := 22, attributes := #[] }])
  fields := #[{ name := "BINARY", type := (.object "com/example/lynceus/lynceus/SkipReason"), accessFlags := 16409, slot := 0, constantValue := 0 }, { name := "LINK", type := (.object "com/example/lynceus/lynceus/SkipReason"), accessFlags := 16409, slot := 1, constantValue := 0 }, { name := "TRUNCATED", type := (.object "com/example/lynceus/lynceus/SkipReason"), accessFlags := 16409, slot := 2, constantValue := 0 }, { name := "CORRUPT", type := (.object "com/example/lynceus/lynceus/SkipReason"), accessFlags := 16409, slot := 3, constantValue := 0 }, { name := "UNREADABLE", type := (.object "com/example/lynceus/lynceus/SkipReason"), accessFlags := 16409, slot := 4, constantValue := 0 }, { name := "$VALUES", type := (.array (.object "com/example/lynceus/lynceus/SkipReason")), accessFlags := 4122, slot := 5, constantValue := 0 }]
  methods := #[]
  instanceTypes := #[(.object "java/lang/String"), .int, .int]
  staticTypes := #[(.object "com/example/lynceus/lynceus/SkipReason"), (.object "com/example/lynceus/lynceus/SkipReason"), (.object "com/example/lynceus/lynceus/SkipReason"), (.object "com/example/lynceus/lynceus/SkipReason"), (.object "com/example/lynceus/lynceus/SkipReason"), (.array (.object "com/example/lynceus/lynceus/SkipReason"))]
  resolved := Array.replicate 76 none
  statics := some 1 }

def pool14 : Array CpInfo := pool [(4, .class_ 6), (1, u "java/lang/Object"), (0, u "<init>"), (0, u "()V"), (5, .class_ 16), (1, u "java/lang/StringLatin1"), (104, u "$assertionsDisabled"), (0, u "Z"), (98, .class_ 223), (1, u "java/lang/StringLatin1$LinesSpliterator"), (166, .class_ 391), (0, u "java/lang/StringLatin1$CharsSpliterator")] 3

def k14m0 : Method := { name := "<init>", desc := "()V", sig := { parameters := [], returnType := none }, accessFlags := 0, code := none }
/-- java/lang/StringLatin1 -/
def k14 : Class := { plain "java/lang/StringLatin1" (some 0) with
  accessFlags := 48
  interfaces := #[]
  cf := some (fileOf pool14 14 #[.nestMembers #[390, 221]] #[{ accessFlags := 0, nameIndex := 7, descriptorIndex := 8, attributes := #[] }] 48 4 #[] #[{ accessFlags := 4120, nameIndex := 121, descriptorIndex := 122, attributes := #[] }])
  fields := #[{ name := "$assertionsDisabled", type := .boolean, accessFlags := 4120, slot := 0, constantValue := 0 }]
  methods := #[k14m0]
  instanceTypes := #[]
  staticTypes := #[.boolean]
  resolved := Array.replicate 395 none
  statics := none }

def pool15 : Array CpInfo := pool [(2, .class_ 4), (1, u "java/lang/Object"), (0, u "<init>"), (0, u "()V"), (17, .class_ 26), (1, u "jdk/internal/util/Preconditions"), (28, .class_ 56), (0, u "jdk/internal/util/Preconditions$4"), (57, .class_ 115), (0, u "jdk/internal/util/Preconditions$1"), (7, u "SIOOBE_FORMATTER"), (0, u "Ljava/util/function/BiFunction;"), (0, .class_ 126), (0, u "jdk/internal/util/Preconditions$2"), (3, u "AIOOBE_FORMATTER"), (0, .class_ 132), (0, u "jdk/internal/util/Preconditions$3"), (3, u "IOOBE_FORMATTER")] 57

def k15m0 : Method := { name := "<init>", desc := "()V", sig := { parameters := [], returnType := none }, accessFlags := 1, code := none }
/-- jdk/internal/util/Preconditions -/
def k15 : Class := { plain "jdk/internal/util/Preconditions" (some 0) with
  accessFlags := 33
  interfaces := #[]
  cf := some (fileOf pool15 24 #[.nestMembers #[55, 131, 125, 114]] #[{ accessFlags := 1, nameIndex := 5, descriptorIndex := 6, attributes := #[] }] 33 2 #[] #[{ accessFlags := 25, nameIndex := 123, descriptorIndex := 124, attributes := #[] }, { accessFlags := 25, nameIndex := 130, descriptorIndex := 124, attributes := #[] }, { accessFlags := 25, nameIndex := 136, descriptorIndex := 124, attributes := #[] }])
  fields := #[{ name := "SIOOBE_FORMATTER", type := (.object "java/util/function/BiFunction"), accessFlags := 25, slot := 0, constantValue := 0 }, { name := "AIOOBE_FORMATTER", type := (.object "java/util/function/BiFunction"), accessFlags := 25, slot := 1, constantValue := 0 }, { name := "IOOBE_FORMATTER", type := (.object "java/util/function/BiFunction"), accessFlags := 25, slot := 2, constantValue := 0 }]
  methods := #[k15m0]
  instanceTypes := #[]
  staticTypes := #[(.object "java/util/function/BiFunction"), (.object "java/util/function/BiFunction"), (.object "java/util/function/BiFunction")]
  resolved := Array.replicate 194 none
  statics := some 2 }

def pool16 : Array CpInfo := pool [(9, u "<init>"), (6, .class_ 18), (1, u "java/lang/Object"), (0, u "()V"), (1, .class_ 23), (1, u "jdk/internal/util/ArraysSupport"), (0, u "LOG2_ARRAY_LONG_INDEX_SCALE"), (0, u "I"), (2, u "U"), (0, u "Ljdk/internal/misc/Unsafe;"), (8, u "BIG_ENDIAN"), (0, u "Z"), (8, u "LOG2_BYTE_BIT_SIZE"), (4, u "LOG2_ARRAY_INT_INDEX_SCALE"), (54, u "JLA"), (0, u "Ljdk/internal/access/JavaLangAccess;"), (11, u "LOG2_ARRAY_BOOLEAN_INDEX_SCALE"), (9, u "LOG2_ARRAY_BYTE_INDEX_SCALE"), (5, u "LOG2_ARRAY_CHAR_INDEX_SCALE"), (5, u "LOG2_ARRAY_SHORT_INDEX_SCALE"), (18, u "LOG2_ARRAY_FLOAT_INDEX_SCALE"), (24, u "LOG2_ARRAY_DOUBLE_INDEX_SCALE"), (89, u "T_BOOLEAN"), (2, u "T_CHAR"), (1, u "T_FLOAT"), (1, u "T_DOUBLE"), (1, u "T_BYTE"), (1, u "T_SHORT"), (1, u "T_INT"), (1, u "T_LONG"), (1, u "SOFT_MAX_ARRAY_LENGTH")] 83

def k16m0 : Method := { name := "<init>", desc := "()V", sig := { parameters := [], returnType := none }, accessFlags := 2, code := none }
/-- jdk/internal/util/ArraysSupport -/
def k16 : Class := { plain "jdk/internal/util/ArraysSupport" (some 0) with
  accessFlags := 33
  interfaces := #[]
  cf := some (fileOf pool16 21 #[] #[{ accessFlags := 2, nameIndex := 9, descriptorIndex := 19, attributes := #[] }] 33 16 #[] #[{ accessFlags := 24, nameIndex := 28, descriptorIndex := 29, attributes := #[] }, { accessFlags := 26, nameIndex := 38, descriptorIndex := 39, attributes := #[] }, { accessFlags := 25, nameIndex := 121, descriptorIndex := 25, attributes := #[] }, { accessFlags := 25, nameIndex := 131, descriptorIndex := 25, attributes := #[] }, { accessFlags := 25, nameIndex := 137, descriptorIndex := 25, attributes := #[] }, { accessFlags := 25, nameIndex := 143, descriptorIndex := 25, attributes := #[] }, { accessFlags := 25, nameIndex := 53, descriptorIndex := 25, attributes := #[] }, { accessFlags := 25, nameIndex := 24, descriptorIndex := 25, attributes := #[] }, { accessFlags := 25, nameIndex := 162, descriptorIndex := 25, attributes := #[] }, { accessFlags := 25, nameIndex := 187, descriptorIndex := 25, attributes := #[] }, { accessFlags := 26, nameIndex := 48, descriptorIndex := 25, attributes := #[] }, { accessFlags := 25, nameIndex := 277, descriptorIndex := 25, attributes := #[] }, { accessFlags := 25, nameIndex := 280, descriptorIndex := 25, attributes := #[] }, { accessFlags := 25, nameIndex := 282, descriptorIndex := 25, attributes := #[] }, { accessFlags := 25, nameIndex := 284, descriptorIndex := 25, attributes := #[] }, { accessFlags := 25, nameIndex := 286, descriptorIndex := 25, attributes := #[] }, { accessFlags := 25, nameIndex := 288, descriptorIndex := 25, attributes := #[] }, { accessFlags := 25, nameIndex := 290, descriptorIndex := 25, attributes := #[] }, { accessFlags := 25, nameIndex := 292, descriptorIndex := 25, attributes := #[] }, { accessFlags := 26, nameIndex := 108, descriptorIndex := 109, attributes := #[] }, { accessFlags := 25, nameIndex := 294, descriptorIndex := 25, attributes := #[] }])
  fields := #[{ name := "U", type := (.object "jdk/internal/misc/Unsafe"), accessFlags := 24, slot := 0, constantValue := 0 }, { name := "BIG_ENDIAN", type := .boolean, accessFlags := 26, slot := 1, constantValue := 0 }, { name := "LOG2_ARRAY_BOOLEAN_INDEX_SCALE", type := .int, accessFlags := 25, slot := 2, constantValue := 0 }, { name := "LOG2_ARRAY_BYTE_INDEX_SCALE", type := .int, accessFlags := 25, slot := 3, constantValue := 0 }, { name := "LOG2_ARRAY_CHAR_INDEX_SCALE", type := .int, accessFlags := 25, slot := 4, constantValue := 0 }, { name := "LOG2_ARRAY_SHORT_INDEX_SCALE", type := .int, accessFlags := 25, slot := 5, constantValue := 0 }, { name := "LOG2_ARRAY_INT_INDEX_SCALE", type := .int, accessFlags := 25, slot := 6, constantValue := 0 }, { name := "LOG2_ARRAY_LONG_INDEX_SCALE", type := .int, accessFlags := 25, slot := 7, constantValue := 0 }, { name := "LOG2_ARRAY_FLOAT_INDEX_SCALE", type := .int, accessFlags := 25, slot := 8, constantValue := 0 }, { name := "LOG2_ARRAY_DOUBLE_INDEX_SCALE", type := .int, accessFlags := 25, slot := 9, constantValue := 0 }, { name := "LOG2_BYTE_BIT_SIZE", type := .int, accessFlags := 26, slot := 10, constantValue := 0 }, { name := "T_BOOLEAN", type := .int, accessFlags := 25, slot := 11, constantValue := 0 }, { name := "T_CHAR", type := .int, accessFlags := 25, slot := 12, constantValue := 0 }, { name := "T_FLOAT", type := .int, accessFlags := 25, slot := 13, constantValue := 0 }, { name := "T_DOUBLE", type := .int, accessFlags := 25, slot := 14, constantValue := 0 }, { name := "T_BYTE", type := .int, accessFlags := 25, slot := 15, constantValue := 0 }, { name := "T_SHORT", type := .int, accessFlags := 25, slot := 16, constantValue := 0 }, { name := "T_INT", type := .int, accessFlags := 25, slot := 17, constantValue := 0 }, { name := "T_LONG", type := .int, accessFlags := 25, slot := 18, constantValue := 0 }, { name := "JLA", type := (.object "jdk/internal/access/JavaLangAccess"), accessFlags := 26, slot := 19, constantValue := 0 }, { name := "SOFT_MAX_ARRAY_LENGTH", type := .int, accessFlags := 25, slot := 20, constantValue := 0 }]
  methods := #[k16m0]
  instanceTypes := #[]
  staticTypes := #[(.object "jdk/internal/misc/Unsafe"), .boolean, .int, .int, .int, .int, .int, .int, .int, .int, .int, .int, .int, .int, .int, .int, .int, .int, .int, (.object "jdk/internal/access/JavaLangAccess"), .int]
  resolved := Array.replicate 378 none
  statics := none }

def pool17 : Array CpInfo := pool [(1, u "java/lang/Cloneable"), (0, .class_ 1), (0, u "java/lang/Object"), (0, .class_ 3)] 3

/-- java/lang/Cloneable -/
def k17 : Class := { plain "java/lang/Cloneable" (some 0) with
  accessFlags := 1537
  interfaces := #[]
  cf := some (fileOf pool17 2 #[] #[] 1537 4 #[] #[])
  fields := #[]
  methods := #[]
  instanceTypes := #[]
  staticTypes := #[]
  resolved := Array.replicate 8 none
  statics := none }

/-- the primitive byte -/
def k18 : Class := { plain "byte" none with kind := .primitive 'B', accessFlags := 0x411 }
/-- [B -/
def k19 : Class := { plain "[B" (some 0) with kind := .array 18 .byte, interfaces := #[17, 2], accessFlags := 1041 }

/-- the primitive char -/
def k20 : Class := { plain "char" none with kind := .primitive 'C', accessFlags := 0x411 }
/-- [C -/
def k21 : Class := { plain "[C" (some 0) with kind := .array 20 .char, interfaces := #[17, 2], accessFlags := 1041 }

/-- the primitive int -/
def k22 : Class := { plain "int" none with kind := .primitive 'I', accessFlags := 0x411 }
/-- [I -/
def k23 : Class := { plain "[I" (some 0) with kind := .array 22 .int, interfaces := #[17, 2], accessFlags := 1041 }

def heap : Heap := #[{ cls := 7, slots := #[.long 0, .int 1, .null, .int 0, .null, .int 0, .int 0], vm := .statics 7 },
  { cls := 13, slots := #[.ref 3, .ref 4, .ref 5, .ref 6, .ref 7, .null], vm := .statics 13 },
  { cls := 15, slots := #[.null, .null, .null], vm := .statics 15 },
  { cls := 13, slots := #[.null, .int 0, .int 0], vm := .none },
  { cls := 13, slots := #[.null, .int 1, .int 0], vm := .none },
  { cls := 13, slots := #[.null, .int 2, .int 0], vm := .none },
  { cls := 13, slots := #[.null, .int 3, .int 0], vm := .none },
  { cls := 13, slots := #[.null, .int 4, .int 0], vm := .none }]
def classes : Array Class := #[k0, k1, k2, k3, k4, k5, k6, k7, k8, k9, k10, k11, k12, k13, k14, k15, k16, k17, k18, k19, k20, k21, k22, k23]
def interned : List (Array UInt16 × Addr) := []
def slotsUsed : Nat := 31
def theMethod : MethodId := ⟨1, 2⟩
def args0 : Array Value := #[.int 3, .int 65, .int 66, .int 1]
def aboutOver (below : List Frame) : State where
  vm := { classes := classes, interned := interned.toArray }
  heap := heap
  slotsUsed := slotsUsed
  threads := #[{ frames := .invoking theMethod args0 :: below }]
def below0 : List Frame := [.native { method := ⟨0, 0⟩, args := #[] }]
def about1 : State := aboutOver below0
def p0 : Program := .bare "" "" ""
def e0 : Env := launch0.env 0 0 0
theorem w_frames : about1.frames = Frame.invoking theMethod args0 :: below0 := rfl
set_option maxRecDepth 65536 in
theorem w_args : argsFit about1.vm theMethod args0 = true := by decide +kernel
set_option maxRecDepth 65536 in
theorem w_heap : heapFits about1 = true := by decide +kernel
set_option maxRecDepth 65536 in
theorem w_runnable : about1.curStatus? = some .runnable := by decide +kernel
set_option maxRecDepth 65536 in
theorem w_alone : about1.alone = true := by decide +kernel
set_option maxRecDepth 65536 in
theorem w_named : about1.methodNamed? x = some theMethod := by decide +kernel
set_option maxRecDepth 65536 in
theorem w_hears : about1.hears theMethod below0 = true := by decide +kernel
set_option maxRecDepth 65536 in
theorem w_ripe : about1.ripe theMethod args0 below0 = true := by decide +kernel
theorem w_running : about1.status = .running := rfl
set_option maxRecDepth 65536 in
theorem w_room : about1.hasRoom e0.platform room_1 = true :=
  launch0.hasRoom_least _ room_1 (by decide +kernel) (by decide +kernel) (by decide +kernel) (by decide +kernel) (by decide +kernel) (by decide +kernel)
theorem allAtoms_all (ts : List Jvm.Cond) (a : Array Jvm.Value) (st : Jvm.State) : (allAtoms ts).before a st = ts.all (fun c => c.before a st) := by
  induction ts with
  | nil => rfl
  | cons c t ih =>
    show (Jvm.Cond.and c (allAtoms t)).before a st = _
    rw [Jvm.Cond.before_and, ih, List.all_cons]
def words1 : List Jvm.Cond := Jvm.Cond.code x code maxLocals ret :: tables_1
/-- a 'code' word, met by the world's own term for the bytes: nothing is compared byte by byte -/
theorem code_word {y : MethodName} {bytes : ByteArray} {mx : Nat} {rt : Option FieldType} {a : Array Value} {s : State} {m : MethodId} {meth : Method} {c : Code} (h1 : s.methodNamed? y = some m) (h2 : s.vm.method? m = some meth) (h3 : meth.code = some c) (h4 : c.code = bytes)
    (h5 : (c.maxLocals == mx && c.exceptionTable.isEmpty && decide (c.maxStack ≤ mostOperands) && decide (meth.sig.returnType = rt) && !meth.locks && decide (parseMethodDescriptor y.desc = some meth.sig)) = true) : (Jvm.Cond.code y bytes mx rt).before a s = true := by
  simp only [Bool.and_eq_true, beq_iff_eq, Bool.not_eq_true', decide_eq_true_eq] at h5
  obtain ⟨⟨⟨⟨⟨g1, g2⟩, g3⟩, g4⟩, g5⟩, g6⟩ := h5
  simp [Cond.before, Cond.holds, Cond.value, h1, h2, h3, h4, g1, g2, g3, g4, g5, g6]
def isCode : Jvm.Cond → Bool
  | .code _ _ _ _ => true
  | _ => false
theorem all_split {L : List Jvm.Cond} {P : Jvm.Cond → Bool} (h1 : L.all (fun c => isCode c || P c) = true) (h2 : ∀ c ∈ L.filter isCode, P c = true) : L.all P = true := by
  refine List.all_eq_true.mpr fun c hc => ?_
  have h := List.all_eq_true.mp h1 c hc
  rcases Bool.eq_false_or_eq_true (isCode c) with hi | hi
  · exact h2 c (List.mem_filter.mpr ⟨hc, hi⟩)
  · simpa [hi] using h
set_option maxRecDepth 65536 in
theorem w_c0 : (Jvm.Cond.code x code maxLocals ret).before args0 about1 = true := code_word (m := ⟨1, 2⟩) (meth := k1m2) (c := k1c2) (by decide +kernel) rfl rfl rfl (by decide +kernel)
set_option maxRecDepth 65536 in
theorem w_c1 : (Jvm.Cond.code ({ cls := "com/example/lynceus/lynceus/InputItemIsReadPinLaw", name := "reason", desc := "(I)Lcom/example/lynceus/lynceus/SkipReason;" } : Jvm.MethodName) method_2_code (1 : Nat) (Option.some (Jvm.ClassFile.FieldType.object "com/example/lynceus/lynceus/SkipReason"))).before args0 about1 = true := code_word (m := ⟨1, 1⟩) (meth := k1m1) (c := k1c1) (by decide +kernel) rfl rfl rfl (by decide +kernel)
set_option maxRecDepth 65536 in
theorem w_c2 : (Jvm.Cond.code ({ cls := "java/lang/String", name := "<init>", desc := "([C)V" } : Jvm.MethodName) jdk_42_method_3_code (2 : Nat) (Option.none : Option Jvm.ClassFile.FieldType)).before args0 about1 = true := code_word (m := ⟨7, 1⟩) (meth := k7m1) (c := k7c1) (by decide +kernel) rfl rfl rfl (by decide +kernel)
set_option maxRecDepth 65536 in
theorem w_c3 : (Jvm.Cond.code ({ cls := "java/lang/String", name := "<init>", desc := "([CIILjava/lang/Void;)V" } : Jvm.MethodName) jdk_42_method_149_code (6 : Nat) (Option.none : Option Jvm.ClassFile.FieldType)).before args0 about1 = true := code_word (m := ⟨7, 2⟩) (meth := k7m2) (c := k7c2) (by decide +kernel) rfl rfl rfl (by decide +kernel)
set_option maxRecDepth 65536 in
theorem w_c4 : (Jvm.Cond.code ({ cls := "java/lang/Object", name := "<init>", desc := "()V" } : Jvm.MethodName) object_method_1_code (1 : Nat) (Option.none : Option Jvm.ClassFile.FieldType)).before args0 about1 = true := code_word (m := ⟨0, 0⟩) (meth := k0m0) (c := k0c0) (by decide +kernel) rfl rfl rfl (by decide +kernel)
set_option maxRecDepth 65536 in
theorem w_c5 : (Jvm.Cond.code ({ cls := "java/lang/StringUTF16", name := "compress", desc := "([CII)[B" } : Jvm.MethodName) jdk_52_method_16_code (6 : Nat) (Option.some (Jvm.ClassFile.FieldType.array Jvm.ClassFile.FieldType.byte))).before args0 about1 = true := code_word (m := ⟨8, 2⟩) (meth := k8m2) (c := k8c2) (by decide +kernel) rfl rfl rfl (by decide +kernel)
set_option maxRecDepth 65536 in
theorem w_c6 : (Jvm.Cond.code ({ cls := "java/lang/StringUTF16", name := "compress", desc := "([CI[BII)I" } : Jvm.MethodName) jdk_52_method_21_code (7 : Nat) (Option.some Jvm.ClassFile.FieldType.int)).before args0 about1 = true := code_word (m := ⟨8, 3⟩) (meth := k8m3) (c := k8c3) (by decide +kernel) rfl rfl rfl (by decide +kernel)
set_option maxRecDepth 65536 in
theorem w_c7 : (Jvm.Cond.code ({ cls := "java/lang/StringUTF16", name := "coderFromArrayLen", desc := "([BI)B" } : Jvm.MethodName) jdk_52_method_15_code (2 : Nat) (Option.some Jvm.ClassFile.FieldType.byte)).before args0 about1 = true := code_word (m := ⟨8, 1⟩) (meth := k8m1) (c := k8c1) (by decide +kernel) rfl rfl rfl (by decide +kernel)
set_option maxRecDepth 65536 in
theorem w_c8 : (Jvm.Cond.code ({ cls := "com/example/lynceus/lynceus/InputItem", name := "<init>", desc := "(Ljava/lang/String;Lcom/example/lynceus/lynceus/SkipReason;)V" } : Jvm.MethodName) prog_8_method_1_code (3 : Nat) (Option.none : Option Jvm.ClassFile.FieldType)).before args0 about1 = true := code_word (m := ⟨10, 0⟩) (meth := k10m0) (c := k10c0) (by decide +kernel) rfl rfl rfl (by decide +kernel)
set_option maxRecDepth 65536 in
theorem w_c9 : (Jvm.Cond.code ({ cls := "java/lang/Record", name := "<init>", desc := "()V" } : Jvm.MethodName) jdk_30_method_1_code (1 : Nat) (Option.none : Option Jvm.ClassFile.FieldType)).before args0 about1 = true := code_word (m := ⟨9, 0⟩) (meth := k9m0) (c := k9c0) (by decide +kernel) rfl rfl rfl (by decide +kernel)
set_option maxRecDepth 65536 in
theorem w_c10 : (Jvm.Cond.code ({ cls := "java/util/Objects", name := "requireNonNull", desc := "(Ljava/lang/Object;Ljava/lang/String;)Ljava/lang/Object;" } : Jvm.MethodName) jdk_31_method_11_code (2 : Nat) (Option.some (Jvm.ClassFile.FieldType.object "java/lang/Object"))).before args0 about1 = true := code_word (m := ⟨11, 1⟩) (meth := k11m1) (c := k11c1) (by decide +kernel) rfl rfl rfl (by decide +kernel)
set_option maxRecDepth 65536 in
theorem w_c11 : (Jvm.Cond.code ({ cls := "com/example/lynceus/lynceus/InputItem", name := "isRead", desc := "()Z" } : Jvm.MethodName) prog_8_method_4_code (1 : Nat) (Option.some Jvm.ClassFile.FieldType.boolean)).before args0 about1 = true := code_word (m := ⟨10, 3⟩) (meth := k10m3) (c := k10c3) (by decide +kernel) rfl rfl rfl (by decide +kernel)
set_option maxRecDepth 65536 in
theorem w_c12 : (Jvm.Cond.code ({ cls := "com/example/lynceus/lynceus/InputItem", name := "read", desc := "(Ljava/lang/String;)Lcom/example/lynceus/lynceus/InputItem;" } : Jvm.MethodName) prog_8_method_2_code (1 : Nat) (Option.some (Jvm.ClassFile.FieldType.object "com/example/lynceus/lynceus/InputItem"))).before args0 about1 = true := code_word (m := ⟨10, 1⟩) (meth := k10m1) (c := k10c1) (by decide +kernel) rfl rfl rfl (by decide +kernel)
set_option maxRecDepth 65536 in
theorem w_c13 : (Jvm.Cond.code ({ cls := "com/example/lynceus/lynceus/InputItem", name := "skipped", desc := "(Ljava/lang/String;Lcom/example/lynceus/lynceus/SkipReason;)Lcom/example/lynceus/lynceus/InputItem;" } : Jvm.MethodName) prog_8_method_3_code (2 : Nat) (Option.some (Jvm.ClassFile.FieldType.object "com/example/lynceus/lynceus/InputItem"))).before args0 about1 = true := code_word (m := ⟨10, 2⟩) (meth := k10m2) (c := k10c2) (by decide +kernel) rfl rfl rfl (by decide +kernel)
def codes1 : List Jvm.Cond := [Jvm.Cond.code x code maxLocals ret, Jvm.Cond.code ({ cls := "com/example/lynceus/lynceus/InputItemIsReadPinLaw", name := "reason", desc := "(I)Lcom/example/lynceus/lynceus/SkipReason;" } : Jvm.MethodName) method_2_code (1 : Nat) (Option.some (Jvm.ClassFile.FieldType.object "com/example/lynceus/lynceus/SkipReason")), Jvm.Cond.code ({ cls := "java/lang/String", name := "<init>", desc := "([C)V" } : Jvm.MethodName) jdk_42_method_3_code (2 : Nat) (Option.none : Option Jvm.ClassFile.FieldType), Jvm.Cond.code ({ cls := "java/lang/String", name := "<init>", desc := "([CIILjava/lang/Void;)V" } : Jvm.MethodName) jdk_42_method_149_code (6 : Nat) (Option.none : Option Jvm.ClassFile.FieldType), Jvm.Cond.code ({ cls := "java/lang/Object", name := "<init>", desc := "()V" } : Jvm.MethodName) object_method_1_code (1 : Nat) (Option.none : Option Jvm.ClassFile.FieldType), Jvm.Cond.code ({ cls := "java/lang/StringUTF16", name := "compress", desc := "([CII)[B" } : Jvm.MethodName) jdk_52_method_16_code (6 : Nat) (Option.some (Jvm.ClassFile.FieldType.array Jvm.ClassFile.FieldType.byte)), Jvm.Cond.code ({ cls := "java/lang/StringUTF16", name := "compress", desc := "([CI[BII)I" } : Jvm.MethodName) jdk_52_method_21_code (7 : Nat) (Option.some Jvm.ClassFile.FieldType.int), Jvm.Cond.code ({ cls := "java/lang/StringUTF16", name := "coderFromArrayLen", desc := "([BI)B" } : Jvm.MethodName) jdk_52_method_15_code (2 : Nat) (Option.some Jvm.ClassFile.FieldType.byte), Jvm.Cond.code ({ cls := "com/example/lynceus/lynceus/InputItem", name := "<init>", desc := "(Ljava/lang/String;Lcom/example/lynceus/lynceus/SkipReason;)V" } : Jvm.MethodName) prog_8_method_1_code (3 : Nat) (Option.none : Option Jvm.ClassFile.FieldType), Jvm.Cond.code ({ cls := "java/lang/Record", name := "<init>", desc := "()V" } : Jvm.MethodName) jdk_30_method_1_code (1 : Nat) (Option.none : Option Jvm.ClassFile.FieldType), Jvm.Cond.code ({ cls := "java/util/Objects", name := "requireNonNull", desc := "(Ljava/lang/Object;Ljava/lang/String;)Ljava/lang/Object;" } : Jvm.MethodName) jdk_31_method_11_code (2 : Nat) (Option.some (Jvm.ClassFile.FieldType.object "java/lang/Object")), Jvm.Cond.code ({ cls := "com/example/lynceus/lynceus/InputItem", name := "isRead", desc := "()Z" } : Jvm.MethodName) prog_8_method_4_code (1 : Nat) (Option.some Jvm.ClassFile.FieldType.boolean), Jvm.Cond.code ({ cls := "com/example/lynceus/lynceus/InputItem", name := "read", desc := "(Ljava/lang/String;)Lcom/example/lynceus/lynceus/InputItem;" } : Jvm.MethodName) prog_8_method_2_code (1 : Nat) (Option.some (Jvm.ClassFile.FieldType.object "com/example/lynceus/lynceus/InputItem")), Jvm.Cond.code ({ cls := "com/example/lynceus/lynceus/InputItem", name := "skipped", desc := "(Ljava/lang/String;Lcom/example/lynceus/lynceus/SkipReason;)Lcom/example/lynceus/lynceus/InputItem;" } : Jvm.MethodName) prog_8_method_3_code (2 : Nat) (Option.some (Jvm.ClassFile.FieldType.object "com/example/lynceus/lynceus/InputItem"))]
set_option maxRecDepth 65536 in
theorem codes_eq : words1.filter isCode = codes1 := rfl
theorem w_codes : ∀ c ∈ words1.filter isCode, c.before args0 about1 = true := by
  rw [codes_eq]
  intro c hc
  simp only [codes1, List.mem_cons, List.not_mem_nil, or_false] at hc
  rcases hc with rfl | rfl | rfl | rfl | rfl | rfl | rfl | rfl | rfl | rfl | rfl | rfl | rfl | rfl
  · exact w_c0
  · exact w_c1
  · exact w_c2
  · exact w_c3
  · exact w_c4
  · exact w_c5
  · exact w_c6
  · exact w_c7
  · exact w_c8
  · exact w_c9
  · exact w_c10
  · exact w_c11
  · exact w_c12
  · exact w_c13
set_option maxRecDepth 65536 in
theorem w_t1 : (words1.take 24).all (fun c => isCode c || c.before args0 about1) = true := by decide +kernel
set_option maxRecDepth 65536 in
theorem w_t2 : ((words1.drop 24).take 24).all (fun c => isCode c || c.before args0 about1) = true := by decide +kernel
set_option maxRecDepth 65536 in
theorem w_t3 : (((words1.drop 24).drop 24).take 24).all (fun c => isCode c || c.before args0 about1) = true := by decide +kernel
set_option maxRecDepth 65536 in
theorem w_t4 : (((words1.drop 24).drop 24).drop 24).all (fun c => isCode c || c.before args0 about1) = true := by decide +kernel
theorem w_tables : (allAtoms (Jvm.Cond.code x code maxLocals ret :: tables_1)).before args0 about1 = true := by
  rw [allAtoms_all]
  show words1.all (fun c => c.before args0 about1) = true
  refine all_split ?_ w_codes
  rw [← List.take_append_drop 24 words1, List.all_append, w_t1, ← List.take_append_drop 24 (words1.drop 24), List.all_append, w_t2, ← List.take_append_drop 24 ((words1.drop 24).drop 24), List.all_append, w_t3, w_t4]
  rfl
set_option maxRecDepth 65536 in
theorem w_rest : rest_1_c.before args0 about1 = true := by decide +kernel
set_option maxRecDepth 65536 in
theorem w_case : (Jvm.Cond.and given_1 narrow_1).before args0 about1 = true := by decide +kernel
set_option maxRecDepth 65536 in
theorem w_consts : constsHeld consts_1 about1 := Jvm.Lit.constsHeldB_iff.mp (by decide +kernel)
theorem w_applies : (headSpec (Jvm.Cond.code x code maxLocals ret :: tables_1) room_1).applies x e0.platform about1 = true :=
  (Spec.applies_iff w_frames).mpr ⟨w_running, w_runnable, w_alone, w_named, w_hears, w_ripe, w_room, w_tables⟩
theorem atStart : AtStart classFile x code maxLocals ret World_1 tables_1 room_1 Calls_1 rest_1 Pre_1 launch0 p0 e0 about1 theMethod args0 below0 :=
  ⟨lists_1, trivial, launch0.admits_env _ _ _, launch0.least_env, fairChoices_fair.cas, fairChoices_fair.clock, w_frames, w_args, w_heap, w_applies, ⟨w_consts, trivial⟩, w_rest, w_case⟩
end start1
theorem witness_1 : WitnessClaimed_1 := ⟨start1.p0, start1.e0, start1.about1, start1.theMethod, start1.args0, start1.below0, start1.atStart⟩
end Jvm.Pilot.@@N@@
