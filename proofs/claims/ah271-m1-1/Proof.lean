import JvmDerived
import JvmDerived.Pilot.@@N@@Statement
import JvmDerived.Pilot.@@N@@Code
set_option linter.unusedVariables false
set_option linter.unusedSimpArgs false
namespace Jvm.Pilot.@@N@@
open Jvm Jvm.ClassFile Sem Op Lib Jvm.Free Jvm.Stand Jvm.LawKit Jvm.RoadKit Bundle Jvm.Pilot.@@N@@.Jvm.D
namespace Wd
section Inv
variable {Z : State} {EL : List (String × Nat)} {n0 : Nat} {vm vm1 : Vm} {h h' : Heap} {WL FL : List Addr}
/-- of tables vm and heap h: the constants EL say their text; the start's cells stand; WL: cells of our own making that are no constant's; FL: other cells -/
def Inv (Z : State) (EL : List (String × Nat)) (n0 : Nat) (vm : Vm) (h : Heap) (WL FL : List Addr) : Prop :=
  (∃ a0, EW Z a0 EL) ∧ CHv Z EL vm h ∧ Old Z n0 h ∧ (∀ x ∈ WL, n0 ≤ x ∧ x < h.size ∧ Safe Z EL vm h x) ∧ WL.Nodup ∧ ∀ y ∈ FL, y < h.size ∧ y ∉ WL
theorem Inv.ext (I : Inv Z EL n0 vm h WL FL) (E : Ext h h') : Inv Z EL n0 vm h' WL FL := by
  obtain ⟨i1, i2, i3, i4, i5, i6⟩ := I
  exact ⟨i1, CHv.ext E i2, i3.ext E, fun x hx => ⟨(i4 x hx).1, Nat.lt_of_lt_of_le (i4 x hx).2.1 E.1, Safe.ext E i2 (i4 x hx).2.2⟩, i5, fun y hy => ⟨Nat.lt_of_lt_of_le (i6 y hy).1 E.1, (i6 y hy).2⟩⟩
theorem Inv.keep {ws : List Addr} (I : Inv Z EL n0 vm h WL FL) (K : Keep h h' ws) (hs : ∀ x ∈ ws, x ∈ WL) : Inv Z EL n0 vm h' WL FL := by
  obtain ⟨i1, i2, i3, i4, i5, i6⟩ := I
  have q : ∀ x ∈ ws, Safe Z EL vm h x := fun x hx => (i4 x (hs x hx)).2.2
  exact ⟨i1, CHv.keep K q i2, i3.keep K (fun x hx => (i4 x (hs x hx)).1), fun x hx => ⟨(i4 x hx).1, Nat.lt_of_lt_of_le (i4 x hx).2.1 K.1, Safe.keep K q i2 (i4 x hx).2.2⟩, i5, fun y hy => ⟨Nat.lt_of_lt_of_le (i6 y hy).1 K.1, (i6 y hy).2⟩⟩
theorem Inv.wr {a : Addr} {sl : Nat} {v : Value} (I : Inv Z EL n0 vm h WL FL) (W : Wr h h' a sl v) (ha : a ∈ WL) : Inv Z EL n0 vm h' WL FL :=
  I.keep (Keep.of_wr W) (allS ha all0)
theorem Inv.new (I : Inv Z EL n0 vm h WL FL) (E : Ext h h') (hlt : h.size < h'.size) : Inv Z EL n0 vm h' (h.size :: WL) FL := by
  have J := I.ext E
  obtain ⟨i1, i2, i3, i4, i5, i6⟩ := I
  obtain ⟨j1, j2, j3, j4, j5, j6⟩ := J
  refine ⟨j1, j2, j3, fun x hx => ?_, ?_, fun y hy => ⟨(j6 y hy).1, fun q => ?_⟩⟩
  · rcases List.mem_cons.mp hx with rfl | hx
    · exact ⟨by rw [← i3.1]; exact i3.2.1, hlt, Safe.ext E i2 (Safe.new (Nat.le_refl _))⟩
    · exact j4 x hx
  · exact List.nodup_cons.mpr ⟨fun q => Nat.lt_irrefl _ (i4 _ q).2.1, j5⟩
  · rcases List.mem_cons.mp q with rfl | q
    · exact Nat.lt_irrefl _ (i6 _ hy).1
    · exact (j6 y hy).2 q
/-- another cell comes into sight -/
theorem Inv.adopt {y : Addr} (I : Inv Z EL n0 vm h WL FL) (h1 : y < h.size) (h2 : y ∉ WL) : Inv Z EL n0 vm h WL (y :: FL) := by
  obtain ⟨i1, i2, i3, i4, i5, i6⟩ := I
  refine ⟨i1, i2, i3, i4, i5, fun x hx => ?_⟩
  rcases List.mem_cons.mp hx with rfl | hx
  · exact ⟨h1, h2⟩
  · exact i6 x hx
/-- a cell of ours is given up -/
theorem Inv.drop {A B : List Addr} {t : Addr} (I : Inv Z EL n0 vm h (A ++ t :: B) FL) : Inv Z EL n0 vm h (A ++ B) (t :: FL) := by
  obtain ⟨i1, i2, i3, i4, i5, i6⟩ := I
  have m : ∀ x, x ∈ A ++ B → x ∈ A ++ t :: B := fun x hx => by
    rcases List.mem_append.mp hx with q | q
    · exact List.mem_append_left _ q
    · exact List.mem_append_right _ (List.mem_cons_of_mem _ q)
  have pm : (A ++ t :: B).Perm (t :: (A ++ B)) := List.perm_middle
  have nd := pm.nodup_iff.mp i5
  obtain ⟨n1, n2⟩ := List.nodup_cons.mp nd
  refine ⟨i1, i2, i3, fun x hx => i4 x (m x hx), n2, fun y hy => ?_⟩
  rcases List.mem_cons.mp hy with rfl | hy
  · exact ⟨(i4 _ (List.mem_append_right _ (List.mem_cons_self ..))).2.1, n1⟩
  · exact ⟨(i6 y hy).1, fun q => (i6 y hy).2 (m y q)⟩
/-- other cells are forgotten -/
theorem Inv.fl {FL2 : List Addr} (I : Inv Z EL n0 vm h WL FL) (q : ∀ y ∈ FL2, y ∈ FL) : Inv Z EL n0 vm h WL FL2 := by
  obtain ⟨i1, i2, i3, i4, i5, i6⟩ := I
  exact ⟨i1, i2, i3, i4, i5, fun y hy => i6 y (q y hy)⟩
theorem Inv.ne {i j : Nat} {a b : Addr} (I : Inv Z EL n0 vm h WL FL) (ha : WL[i]? = some a) (hb : WL[j]? = some b) (q : i ≠ j) : a ≠ b := fun e => by
  obtain ⟨i1, i2, i3, i4, i5, i6⟩ := I
  subst e
  obtain ⟨hi, e1⟩ := List.getElem?_eq_some_iff.mp ha
  obtain ⟨hj, e2⟩ := List.getElem?_eq_some_iff.mp hb
  have pw := List.pairwise_iff_getElem.mp i5
  rcases Nat.lt_or_gt_of_ne q with z | z
  · exact pw i j hi hj z (e1.trans e2.symm)
  · exact pw j i hj hi z (e2.trans e1.symm)
theorem Inv.neF {a b : Addr} (I : Inv Z EL n0 vm h WL FL) (ha : a ∈ FL) (hb : b ∈ WL) : a ≠ b := fun e => by
  subst e; exact (I.2.2.2.2.2 _ ha).2 hb
theorem Inv.neT {A B : List Addr} {a b : Addr} (I : Inv Z EL n0 vm h (A ++ B) FL) (ha : a ∈ A) (hb : b ∈ B) : a ≠ b := fun e => by
  subst e; exact (List.nodup_append.mp I.2.2.2.2.1).2.2 a ha a hb rfl
theorem Inv.ge {a : Addr} (I : Inv Z EL n0 vm h WL FL) (ha : a ∈ WL) : n0 ≤ a := (I.2.2.2.1 a ha).1
theorem Inv.lt {a : Addr} (I : Inv Z EL n0 vm h WL FL) (ha : a ∈ WL) : a < h.size := (I.2.2.2.1 a ha).2.1
theorem Inv.old (I : Inv Z EL n0 vm h WL FL) : Old Z n0 h := I.2.2.1
theorem Inv.n0le (I : Inv Z EL n0 vm h WL FL) : n0 ≤ h.size := by have q := I.old; rw [← q.1]; exact q.2.1
end Inv
section Walk
variable {p : Program} {l : Launch} {e : Env} {R : Room} {s : State} {m : MethodId} {args : Array Value} {below : List Frame} {meth : Method} {c : Code} {T T' : State} {cells slots : Nat} {Z : State} {EL : List (String × Nat)} {n0 : Nat} {own : String} {h h' : Heap} {WL FL : List Addr} {a0 : Array Value}
/-- where the walk stands -/
def WS (p : Program) (l : Launch) (e : Env) (R : Room) (s : State) (m : MethodId) (args : Array Value) (below : List Frame) (meth : Method) (c : Code) (Z : State) (EL : List (String × Nat)) (n0 : Nat) (own : String) (T : State) (h : Heap) (WL FL : List Addr) (cells slots : Nat) : Prop :=
  ∃ (vm0 : Vm) (k0 : Nat) (locs : List Loc), Stand p l e R (s.setVm vm0) m args below meth c T locs cells slots ∧ T.heap = h ∧ s.Since vm0 k0 ∧ k0 ≤ h.size ∧ Z.Warmed39 vm0 ∧ vm0.findClass own = some m.cls ∧ Fr n0 locs ∧ Inv Z EL n0 vm0 h WL FL
theorem WS.here (X : WS p l e R s m args below meth c Z EL n0 own T h WL FL cells slots) : At T m c below := by
  obtain ⟨_, _, _, X, -⟩ := X; exact X.here
theorem WS.hZ (X : WS p l e R s m args below meth c Z EL n0 own T h WL FL cells slots) : ∃ vm0, Inv Z EL n0 vm0 h WL FL := by
  obtain ⟨vm0, _, _, _, _, _, _, _, _, _, I⟩ := X; exact ⟨vm0, I⟩
theorem WS.old (X : WS p l e R s m args below meth c Z EL n0 own T h WL FL cells slots) : Old Z n0 h := by obtain ⟨_, I⟩ := X.hZ; exact I.old
theorem WS.n0le (X : WS p l e R s m args below meth c Z EL n0 own T h WL FL cells slots) : n0 ≤ h.size := by obtain ⟨_, I⟩ := X.hZ; exact I.n0le
theorem WS.ge {a : Addr} (X : WS p l e R s m args below meth c Z EL n0 own T h WL FL cells slots) (ha : a ∈ WL) : n0 ≤ a := by obtain ⟨_, I⟩ := X.hZ; exact I.ge ha
theorem WS.ne {i j : Nat} {a b : Addr} (X : WS p l e R s m args below meth c Z EL n0 own T h WL FL cells slots) (ha : WL[i]? = some a) (hb : WL[j]? = some b) (q : i ≠ j) : a ≠ b := by obtain ⟨_, I⟩ := X.hZ; exact I.ne ha hb q
theorem WS.neF {a b : Addr} (X : WS p l e R s m args below meth c Z EL n0 own T h WL FL cells slots) (ha : a ∈ FL) (hb : b ∈ WL) : a ≠ b := by obtain ⟨_, I⟩ := X.hZ; exact I.neF ha hb
theorem WS.neT {A B : List Addr} {a b : Addr} (X : WS p l e R s m args below meth c Z EL n0 own T h (A ++ B) FL cells slots) (ha : a ∈ A) (hb : b ∈ B) : a ≠ b := by obtain ⟨_, I⟩ := X.hZ; exact I.neT ha hb
theorem WS.sta {C n d : String} {v : Value} (X : WS p l e R s m args below meth c Z EL n0 own T h WL FL cells slots) (F : Sta Z Z.heap C n d v) : Sta Z h C n d v := F.ext X.old.2
theorem WS.drop {A B : List Addr} {t : Addr} (X : WS p l e R s m args below meth c Z EL n0 own T h (A ++ t :: B) FL cells slots) : WS p l e R s m args below meth c Z EL n0 own T h (A ++ B) (t :: FL) cells slots := by
  obtain ⟨vm0, k0, locs, X, eT, hS, hk, hZ, hown, N, I⟩ := X; exact ⟨vm0, k0, locs, X, eT, hS, hk, hZ, hown, N, I.drop⟩
theorem WS.adopt {y : Addr} (X : WS p l e R s m args below meth c Z EL n0 own T h WL FL cells slots) (h1 : y < h.size) (h2 : y ∉ WL) : WS p l e R s m args below meth c Z EL n0 own T h WL (y :: FL) cells slots := by
  obtain ⟨vm0, k0, locs, X, eT, hS, hk, hZ, hown, N, I⟩ := X; exact ⟨vm0, k0, locs, X, eT, hS, hk, hZ, hown, N, I.adopt h1 h2⟩
theorem WS.fl {FL2 : List Addr} (X : WS p l e R s m args below meth c Z EL n0 own T h WL FL cells slots) (q : ∀ y ∈ FL2, y ∈ FL) : WS p l e R s m args below meth c Z EL n0 own T h WL FL2 cells slots := by
  obtain ⟨vm0, k0, locs, X, eT, hS, hk, hZ, hown, N, I⟩ := X; exact ⟨vm0, k0, locs, X, eT, hS, hk, hZ, hown, N, I.fl q⟩
theorem WS.mono {cells' slots' : Nat} (X : WS p l e R s m args below meth c Z EL n0 own T h WL FL cells slots) (h1 : cells ≤ cells') (h2 : slots ≤ slots') : WS p l e R s m args below meth c Z EL n0 own T h WL FL cells' slots' := by
  obtain ⟨vm0, k0, locs, X, eT, hS, hk, hZ, hown, N, I⟩ := X; exact ⟨vm0, k0, locs, X.mono h1 h2, eT, hS, hk, hZ, hown, N, I⟩
/-- what is to be shown from here on -/
def Wo (p : Program) (e : Env) (s : State) (below : List Frame) (Z : State) (EL : List (String × Nat)) (n0 : Nat) (WL0 FL0 : List Addr) (rm : Room) (Q : Option Value → Heap → List Addr → List Addr → Prop) (T : State) (f : JFrame) : Prop :=
  ∃ s₂ o, Steps p.tables e below (T.setTop f) s₂ ∧ s₂.status = .running ∧ Ended s₂ below o ∧ ∃ v L WL' FL', o = .returned v ∧ Inv Z EL n0 s₂.vm s₂.heap (WL' ++ WL0) (FL' ++ FL0) ∧ Fr n0 L ∧ Q v s₂.heap WL' FL' ∧ ReturnedEndW s o s₂ L rm.cells rm.slots
variable {WL0 FL0 : List Addr} {rm : Room} {Q : Option Value → Heap → List Addr → List Addr → Prop} {f f' : JFrame} {pc : Nat} {Ls : Array Slot} {st rest : List Value}
theorem Wo.by (k : ∀ t, Steps p.tables e below (T'.setTop f') t → Steps p.tables e below (T.setTop f) t) (o : Wo p e s below Z EL n0 WL0 FL0 rm Q T' f') : Wo p e s below Z EL n0 WL0 FL0 rm Q T f := by
  obtain ⟨s₂, o, h1, r⟩ := o; exact ⟨s₂, o, k _ h1, r⟩
theorem Wo.cast (q : f = f') (o : Wo p e s below Z EL n0 WL0 FL0 rm Q T f') : Wo p e s below Z EL n0 WL0 FL0 rm Q T f := q ▸ o
/-- a method's contract -/
def Ct (l : Launch) (Z : State) (EL : List (String × Nat)) (n0 : Nat) (y : MethodName) (bytes : ByteArray) (maxL : Nat) (ret : Option FieldType) (rm : Room) (as' : Array Value) (h : Heap) (WL FL : List Addr) (Q : Option Value → Heap → List Addr → List Addr → Prop) : Prop :=
  ∀ ws : List Jvm.Cond, MetFree l y (head1 (Jvm.Cond.code y bytes maxL ret :: ws) rm) (fun a U => a = as' ∧ Z.Warmed39 U.vm ∧ U.heap = h ∧ Inv Z EL n0 U.vm h WL FL) (fun _ _ _ _ _ => True)
    (fun _ U o U' => ∃ v L WL' FL', o = .returned v ∧ Inv Z EL n0 U'.vm U'.heap (WL' ++ WL) (FL' ++ FL) ∧ Fr n0 L ∧ Q v U'.heap WL' FL' ∧ ReturnedEndW U o U' L rm.cells rm.slots)
theorem Ct.of {y : MethodName} {bytes : ByteArray} {maxL : Nat} {ret : Option FieldType} {as' : Array Value} (hy : plainFor y = true)
    (body : ∀ p e s m below meth c s₁, p.tables.exec = Jvm.exec → c.code = bytes → c.maxLocals = maxL → meth.name = y.name → meth.sig.returnType = ret → meth.locks = false →
      WS p l e rm s m as' below meth c Z EL n0 y.cls s₁ h WL FL 0 0 → Wo p e s below Z EL n0 WL FL rm Q s₁ (entryFrame m as' maxL)) :
    Ct l Z EL n0 y bytes maxL ret rm as' h WL FL Q := by
  intro ws
  refine MetFree.of_bodySF hy hisR ?_
  intro p e s m args below meth c s₁ Bd hml hP _
  obtain ⟨rfl, hZ, hh, I⟩ := hP
  have e0 : s₁.heap = h := by rw [← hh, Bd.state]; rfl
  obtain ⟨s₂, o, h1, h2, h3, h4⟩ := body p e s m below meth c s₁ Bd.exec Bd.bytes hml (name_of_methodNamed Bd.named Bd.method).1 Bd.returns (BodyLoose.notSynchronized Bd)
    ⟨s.vm, h.size, [], Stand.of_body Bd, e0, (State.WarmedH.refl s).since _, Nat.le_refl _, hZ, findClass_of_methodNamed Bd.named, Fr.nil n0, I⟩
  exact ⟨s₂, o, h1, h2, h3, h4⟩
theorem Ct.mono {y : MethodName} {bytes : ByteArray} {maxL : Nat} {ret : Option FieldType} {as' : Array Value} {Q2 : Option Value → Heap → List Addr → List Addr → Prop} (C : Ct l Z EL n0 y bytes maxL ret rm as' h WL FL Q) (hq : ∀ v h' WL' FL', Q v h' WL' FL' → Q2 v h' WL' FL') : Ct l Z EL n0 y bytes maxL ret rm as' h WL FL Q2 := by
  intro ws p e ha hc hk s m args below hf happ hP hK
  obtain ⟨n, o, h1, h2, h3, v, L, WL', FL', r1, r2, r3, r4, r5⟩ := C ws p e ha hc hk s m args below hf happ hP hK
  exact ⟨n, o, h1, h2, h3, v, L, WL', FL', r1, r2, r3, hq _ _ _ _ r4, r5⟩
/-- the tables at hand -/
theorem WS.invT {vm0 : Vm} {locs : List Loc} (X : Stand p l e R (s.setVm vm0) m args below meth c T locs cells slots) (hZ : Z.Warmed39 vm0) (I : Inv Z EL n0 vm0 h WL FL) : Inv Z EL n0 T.vm h WL FL := by
  obtain ⟨⟨a0, i1⟩, i2, i3, i4, i5, i6⟩ := I
  have A := CHv.at X hZ i1 i2
  exact ⟨⟨a0, i1⟩, A.1, i3, fun x hx => ⟨(i4 x hx).1, (i4 x hx).2.1, A.safe (i4 x hx).2.1 (i4 x hx).2.2⟩, i5, i6⟩
theorem WS.retV {WL' FL' : List Addr} (X : WS p l e R s m args below meth c Z EL n0 own T h (WL' ++ WL0) (FL' ++ FL0) cells slots) (hx : p.tables.exec = Jvm.exec) (hret : meth.sig.returnType = none) (hlk : meth.locks = false) (hd : decode c.code pc = .ok (.return_, 1)) (hc : cells ≤ rm.cells) (hl : slots ≤ rm.slots) (hQ : Q none h WL' FL') :
    Wo p e s below Z EL n0 WL0 FL0 rm Q T (mkF m pc Ls []) := by
  obtain ⟨vm0, k0, locs, X, eT, hS, hk, hZ, hown, N, I⟩ := X
  obtain ⟨fs, hr, hrun, hend, hE⟩ := (X.mono hc hl).leaveW hS (by rw [eT]; exact hk) (v := none) (fun _ => rfl) hlk
  subst eT
  exact ⟨_, _, X.returnOut hx hret hd hr, hrun, hend, none, locs, WL', FL', rfl, (show Inv Z EL n0 T.vm T.heap (WL' ++ WL0) (FL' ++ FL0) from WS.invT X hZ I), N, hQ, hE⟩
theorem WS.retN {WL' FL' : List Addr} {z : Int32} {t : FieldType} (X : WS p l e R s m args below meth c Z EL n0 own T h (WL' ++ WL0) (FL' ++ FL0) cells slots) (hx : p.tables.exec = Jvm.exec) (hret : meth.sig.returnType = some t) (ht : t = .boolean ∨ t = .byte ∨ t = .char ∨ t = .short) (hlk : meth.locks = false) (hd : decode c.code pc = .ok (.ireturn, 1)) (hc : cells ≤ rm.cells) (hl : slots ≤ rm.slots) (hQ : Q (some (.int (nar t z))) h WL' FL') :
    Wo p e s below Z EL n0 WL0 FL0 rm Q T (mkF m pc Ls (.int z :: rest)) := by
  obtain ⟨vm0, k0, locs, X, eT, hS, hk, hZ, hown, N, I⟩ := X
  obtain ⟨fs, hr, hrun, hend, hE⟩ := (X.mono hc hl).leaveW hS (by rw [eT]; exact hk) (v := some (.int (nar t z))) (fun q => by rw [hret] at q; cases q) hlk
  subst eT
  exact ⟨_, _, RoadKit.retN X hx hret ht hd hr, hrun, hend, _, locs, WL', FL', rfl, (show Inv Z EL n0 T.vm T.heap (WL' ++ WL0) (FL' ++ FL0) from WS.invT X hZ I), N, hQ, hE⟩
theorem WS.ret {WL' FL' : List Addr} {w : Value} {t : FieldType} {i : Instr} (X : WS p l e R s m args below meth c Z EL n0 own T h (WL' ++ WL0) (FL' ++ FL0) cells slots) (hx : p.tables.exec = Jvm.exec) (hret : meth.sig.returnType = some t) (hn : narrow t w = w)
    (hi : (i = .ireturn ∧ (t = .int ∨ t = .boolean ∨ t = .byte ∨ t = .char ∨ t = .short) ∧ ∃ z, w = .int z) ∨ (i = .lreturn ∧ t = .long ∧ ∃ z, w = .long z) ∨ (i = .dreturn ∧ t = .double ∧ ∃ z, w = .double z) ∨ (i = .freturn ∧ t = .float ∧ ∃ z, w = .float z) ∨ (i = .areturn ∧ t.isReference = true ∧ w.isRef = true))
    (hlk : meth.locks = false) (hd : decode c.code pc = .ok (i, 1)) (hc : cells ≤ rm.cells) (hl : slots ≤ rm.slots) (hQ : Q (some w) h WL' FL') :
    Wo p e s below Z EL n0 WL0 FL0 rm Q T (mkF m pc Ls (w :: rest)) := by
  obtain ⟨vm0, k0, locs, X, eT, hS, hk, hZ, hown, N, I⟩ := X
  obtain ⟨fs, hr, hrun, hend, hE⟩ := (X.mono hc hl).leaveW hS (by rw [eT]; exact hk) (v := some w) (fun q => by rw [hret] at q; cases q) hlk
  subst eT
  exact ⟨_, _, retOut X hx hret hn hi hd hr, hrun, hend, _, locs, WL', FL', rfl, (show Inv Z EL n0 T.vm T.heap (WL' ++ WL0) (FL' ++ FL0) from WS.invT X hZ I), N, hQ, hE⟩
theorem WS.retA {WL' FL' : List Addr} {w : Value} {t : FieldType} (X : WS p l e R s m args below meth c Z EL n0 own T h (WL' ++ WL0) (FL' ++ FL0) cells slots) (hx : p.tables.exec = Jvm.exec) (hret : meth.sig.returnType = some t) (ht : t.isReference = true) (hw : w.isRef = true) (hlk : meth.locks = false) (hd : decode c.code pc = .ok (.areturn, 1)) (hc : cells ≤ rm.cells) (hl : slots ≤ rm.slots) (hQ : Q (some w) h WL' FL') :
    Wo p e s below Z EL n0 WL0 FL0 rm Q T (mkF m pc Ls (w :: rest)) :=
  X.ret hx hret (by cases t <;> first | (cases ht; done) | (rcases ref_cases hw with rfl | ⟨a, rfl⟩ <;> rfl)) (Or.inr (Or.inr (Or.inr (Or.inr ⟨rfl, ht, hw⟩)))) hlk hd hc hl hQ
theorem WS.retI {WL' FL' : List Addr} {z : Int32} (X : WS p l e R s m args below meth c Z EL n0 own T h (WL' ++ WL0) (FL' ++ FL0) cells slots) (hx : p.tables.exec = Jvm.exec) (hret : meth.sig.returnType = some .int) (hlk : meth.locks = false) (hd : decode c.code pc = .ok (.ireturn, 1)) (hc : cells ≤ rm.cells) (hl : slots ≤ rm.slots) (hQ : Q (some (.int z)) h WL' FL') :
    Wo p e s below Z EL n0 WL0 FL0 rm Q T (mkF m pc Ls (.int z :: rest)) :=
  X.ret hx hret rfl (Or.inl ⟨rfl, Or.inl rfl, z, rfl⟩) hlk hd hc hl hQ
/-- steps that read or write -/
theorem WS.getF (X : WS p l e R s m args below meth c Z EL n0 own T h WL FL cells slots) (hx : p.tables.exec = Jvm.exec) {R0 O n d host : String} {index : Nat} (w : (Jvm.Cond.fieldLink own index R0 n d).before a0 Z = true ∨ (Jvm.Cond.fieldLinkNest own index R0 n d host).before a0 Z = true) (via : Via Z R0 O n d) {a : Addr} {v : Value} (F : Fld Z h a O n d v)
    (hd : decode c.code pc = .ok (.getfield index, 3)) (k : ∀ T', WS p l e R s m args below meth c Z EL n0 own T' h WL FL cells slots → Wo p e s below Z EL n0 WL0 FL0 rm Q T' (mkF m (pc + 3) Ls (v :: rest))) :
    Wo p e s below Z EL n0 WL0 FL0 rm Q T (mkF m pc Ls (.ref a :: rest)) := by
  obtain ⟨vm0, k0, locs, X, eT, hS, hk, hZ, hown, N, I⟩ := X
  obtain ⟨T', X', eT', st⟩ := RoadKit.getF X hx hZ hown w via eT F (g := mkF m pc Ls (.ref a :: rest)) rfl rfl hd
  exact Wo.by st (k T' ⟨vm0, k0, locs, X', eT', hS, hk, hZ, hown, N, I⟩)
theorem WS.getS (X : WS p l e R s m args below meth c Z EL n0 own T h WL FL cells slots) (hx : p.tables.exec = Jvm.exec) {R0 O n d : String} {index : Nat} (w : (Jvm.Cond.fieldLink own index R0 n d).before a0 Z = true) (via : Via Z R0 O n d) {v : Value} (F : Sta Z Z.heap O n d v)
    (hd : decode c.code pc = .ok (.getstatic index, 3)) (k : ∀ T', WS p l e R s m args below meth c Z EL n0 own T' h WL FL cells slots → Wo p e s below Z EL n0 WL0 FL0 rm Q T' (mkF m (pc + 3) Ls (v :: st))) :
    Wo p e s below Z EL n0 WL0 FL0 rm Q T (mkF m pc Ls st) := by
  have F' := X.sta F
  obtain ⟨vm0, k0, locs, X, eT, hS, hk, hZ, hown, N, I⟩ := X
  obtain ⟨T', X', eT', st⟩ := RoadKit.getS (host := "") X hx hZ hown w via eT F' (g := mkF m pc Ls st) rfl hd
  exact Wo.by st (k T' ⟨vm0, k0, locs, X', eT', hS, hk, hZ, hown, N, I⟩)
theorem WS.putF (X : WS p l e R s m args below meth c Z EL n0 own T h WL FL cells slots) (hx : p.tables.exec = Jvm.exec) {R0 O n d host C : String} {index kk : Nat} {ty : FieldType} (w : (Jvm.Cond.fieldLink own index R0 n d).before a0 Z = true ∨ (Jvm.Cond.fieldLinkNest own index R0 n d host).before a0 Z = true) (via : Via Z R0 O n d) {a : Addr} {v old : Value} (F : Fld Z h a O n d old) (E : Exa Z h a C)
    (L : (Jvm.Cond.lays C O n d).before a0 Z = true ∨ ((Jvm.Cond.laysFinal C O n d).before a0 Z = true ∧ own = O ∧ meth.name = "<init>")) (wi : (Jvm.Cond.instantiable C kk).before a0 Z = true) (hty : parseFieldDescriptor d = some ty) (hn : narrow ty v = v) (hf : fits ty v = true) (ha : a ∈ WL)
    (hd : decode c.code pc = .ok (.putfield index, 3)) (k : ∀ T' h', WS p l e R s m args below meth c Z EL n0 own T' h' WL FL cells slots → Wr h h' a (Jvm.RoadKit.slotOf Z O n d) v → Fld Z h' a O n d v → Wo p e s below Z EL n0 WL0 FL0 rm Q T' (mkF m (pc + 3) Ls rest)) :
    Wo p e s below Z EL n0 WL0 FL0 rm Q T (mkF m pc Ls (v :: .ref a :: rest)) := by
  obtain ⟨vm0, k0, locs, X, eT, hS, hk, hZ, hown, N, I⟩ := X
  obtain ⟨T', h', X', eT', W, st⟩ := RoadKit.putF X hx hZ hown w via eT F E L wi hty hn hf (g := mkF m pc Ls (v :: .ref a :: rest)) rfl rfl hd
  exact Wo.by st (k T' h' ⟨vm0, k0, _, X', eT', hS, by rw [W.size]; exact hk, hZ, hown, Fr.snoc X' N (I.ge ha), I.wr W ha⟩ W (F.same W))
theorem WS.newO (X : WS p l e R s m args below meth c Z EL n0 own T h WL FL cells slots) (hx : p.tables.exec = Jvm.exec) {C : String} {index n : Nat} (w : (Jvm.Cond.classLink own index C).before a0 Z = true) (wi : (Jvm.Cond.instantiable C n).before a0 Z = true) (wz : (Jvm.Cond.initialized C).before a0 Z = true)
    (hd : decode c.code pc = .ok (.new index, 3)) (hc : cells + 1 ≤ R.cells) (hl : slots + n ≤ R.slots)
    (k : ∀ T' h' a, WS p l e R s m args below meth c Z EL n0 own T' h' (a :: WL) FL (cells + 1) (slots + n) → Ext h h' → h.size ≤ a → Exa Z h' a C → (∀ {O nm d : String} {ty : FieldType}, Laid Z a0 C O nm d → parseFieldDescriptor d = some ty → Fld Z h' a O nm d (defaultValue ty)) → Wo p e s below Z EL n0 WL0 FL0 rm Q T' (mkF m (pc + 3) Ls (.ref a :: st))) :
    Wo p e s below Z EL n0 WL0 FL0 rm Q T (mkF m pc Ls st) := by
  obtain ⟨vm0, k0, locs, X, eT, hS, hk, hZ, hown, N, I⟩ := X
  obtain ⟨T', h', X', eT', E, A, D, -, st⟩ := RoadKit.newO X hx hZ hown w wi wz eT (g := mkF m pc Ls st) rfl hd hc hl
  exact Wo.by st (k T' h' h.size ⟨vm0, k0, _, X', eT', hS, Nat.le_trans hk E.1, hZ, hown, N, I.new E A.lt⟩ E (Nat.le_refl _) A D)
theorem WS.newP (X : WS p l e R s m args below meth c Z EL n0 own T h WL FL cells slots) (hx : p.tables.exec = Jvm.exec) {aty : ArrayType} (w : (Jvm.Cond.arrayClass (newarray.typeOf aty)).before a0 Z = true) {n : Int32} (hd : decode c.code pc = .ok (.newarray aty, 2))
    (hn : ¬ n < 0) {cap : Nat} (hcap : n.toNatClampNeg ≤ cap) (hb : cap * 8 ≤ 536870912) (hc : cells + 1 ≤ R.cells) (hl : slots + cap ≤ R.slots)
    (k : ∀ T' h' a ka, WS p l e R s m args below meth c Z EL n0 own T' h' (a :: WL) FL (cells + 1) (slots + cap) → Ext h h' → h.size ≤ a → Arv Z h' a ka (newarray.typeOf aty) n [] (defaultValue (newarray.typeOf aty)) → Wo p e s below Z EL n0 WL0 FL0 rm Q T' (mkF m (pc + 2) Ls (.ref a :: rest))) :
    Wo p e s below Z EL n0 WL0 FL0 rm Q T (mkF m pc Ls (.int n :: rest)) := by
  obtain ⟨vm0, k0, locs, X, eT, hS, hk, hZ, hown, N, I⟩ := X
  obtain ⟨T', h', cA, X', eT', E, A, st⟩ := RoadKit.newP X hx hZ w eT (g := mkF m pc Ls (.int n :: rest)) rfl hd rfl hn hcap hb hc hl
  exact Wo.by st (k T' h' h.size cA ⟨vm0, k0, _, X', eT', hS, Nat.le_trans hk E.1, hZ, hown, N, I.new E A.lt⟩ E (Nat.le_refl _) (Arv.new A hn))
theorem WS.stC (X : WS p l e R s m args below meth c Z EL n0 own T h WL FL cells slots) (hx : p.tables.exec = Jvm.exec) {a : Addr} {ka : ClassId} {N : Int32} {vs : List Value} {dv : Value} (A : Arv Z h a ka .char N vs dv) {j x : Int32} {i : Nat} (hj : ¬ j < 0 ∧ j < N) (hi : j.toNatClampNeg = i) (hl : i < vs.length) (ha : a ∈ WL)
    (hd : decode c.code pc = .ok (.castore, 1)) (k : ∀ T' h', WS p l e R s m args below meth c Z EL n0 own T' h' WL FL cells slots → Wr h h' a j.toNatClampNeg (.int (nar .char x)) → Arv Z h' a ka .char N (vs.set i (.int (nar .char x))) dv → Wo p e s below Z EL n0 WL0 FL0 rm Q T' (mkF m (pc + 1) Ls rest)) :
    Wo p e s below Z EL n0 WL0 FL0 rm Q T (mkF m pc Ls (.int x :: .int j :: .ref a :: rest)) := by
  obtain ⟨vm0, k0, locs, X, eT, hS, hk, hZ, hown, N, I⟩ := X
  obtain ⟨cl, A1, A2, A3, A4, A5, A6⟩ := A
  obtain ⟨T', h', X', eT', W, st⟩ := RoadKit.stC X hx hZ eT A1 (inb_of A3 hj) (g := mkF m pc Ls (.int x :: .int j :: .ref a :: rest)) rfl rfl hd
  exact Wo.by st (k T' h' ⟨vm0, k0, _, X', eT', hS, by rw [W.size]; exact hk, hZ, hown, Fr.snoc X' N (I.ge ha), I.wr W ha⟩ W (Arv.set A1 A2 A3 A4 A5 A6 (fits_nar_char x) W i hi hl))
theorem WS.stB (X : WS p l e R s m args below meth c Z EL n0 own T h WL FL cells slots) (hx : p.tables.exec = Jvm.exec) {a : Addr} {ka : ClassId} {N : Int32} {vs : List Value} {dv : Value} (A : Arv Z h a ka .byte N vs dv) {j x : Int32} {i : Nat} (hj : ¬ j < 0 ∧ j < N) (hi : j.toNatClampNeg = i) (hl : i < vs.length) (ha : a ∈ WL)
    (hd : decode c.code pc = .ok (.bastore, 1)) (k : ∀ T' h', WS p l e R s m args below meth c Z EL n0 own T' h' WL FL cells slots → Wr h h' a j.toNatClampNeg (.int (nar .byte x)) → Arv Z h' a ka .byte N (vs.set i (.int (nar .byte x))) dv → Wo p e s below Z EL n0 WL0 FL0 rm Q T' (mkF m (pc + 1) Ls rest)) :
    Wo p e s below Z EL n0 WL0 FL0 rm Q T (mkF m pc Ls (.int x :: .int j :: .ref a :: rest)) := by
  obtain ⟨vm0, k0, locs, X, eT, hS, hk, hZ, hown, N, I⟩ := X
  obtain ⟨cl, A1, A2, A3, A4, A5, A6⟩ := A
  obtain ⟨T', h', X', eT', W, st⟩ := RoadKit.stB X hx hZ eT A1 (inb_of A3 hj) (g := mkF m pc Ls (.int x :: .int j :: .ref a :: rest)) rfl rfl hd
  exact Wo.by st (k T' h' ⟨vm0, k0, _, X', eT', hS, by rw [W.size]; exact hk, hZ, hown, Fr.snoc X' N (I.ge ha), I.wr W ha⟩ W (Arv.set A1 A2 A3 A4 A5 A6 (fits_nar_byte x) W i hi hl))
theorem WS.initO (X : WS p l e R s m args below meth c Z EL n0 own T h WL FL cells slots) (hx : p.tables.exec = Jvm.exec) {idx : Nat} (w1 : (Jvm.Cond.methodLink own idx Lib.objectInit).before a0 Z = true) (w2 : (Jvm.Cond.instanceMethod Lib.objectInit).before a0 Z = true)
    (w3 : (Jvm.Cond.code Lib.objectInit ⟨#[0xb1]⟩ 1 none).before a0 Z = true) (hsize : Ls.size = c.maxLocals) {a : Addr} (hd : decode c.code pc = .ok (.invokespecial idx, 3))
    (hf : 1 ≤ R.frames) {W : Nat} (hW : (rest.map fun v => v.category).sum ≤ W) (hl : W + 12 ≤ R.locals)
    (k : ∀ T', WS p l e R s m args below meth c Z EL n0 own T' h WL FL cells slots → Wo p e s below Z EL n0 WL0 FL0 rm Q T' (mkF m (pc + 3) Ls rest)) :
    Wo p e s below Z EL n0 WL0 FL0 rm Q T (mkF m pc Ls (.ref a :: rest)) := by
  obtain ⟨vm0, k0, locs, X, eT, hS, hk, hZ, hown, N, I⟩ := X
  obtain ⟨T', X', eT', st⟩ := RoadKit.initO X hx hZ hown w1 w2 w3 eT (g := mkF m pc Ls (.ref a :: rest)) rfl hsize rfl hd hf (W := W) (by show 2 * 0 + _ ≤ _; omega) hl
  exact Wo.by st (k T' ⟨vm0, k0, _, X', eT', hS, hk, hZ, hown, N, I⟩)
theorem cat_ref {v : Value} (hv : v.isRef = true) : v.category = 1 := by rcases ref_cases hv with rfl | ⟨a, rfl⟩ <;> rfl
theorem nar_ref {v : Value} {t : FieldType} (ht : t.isReference = true) (hv : v.isRef = true) : narrow t v = v := by cases t <;> first | (cases ht; done) | (rcases ref_cases hv with rfl | ⟨a, rfl⟩ <;> rfl)
theorem fit_ref {v : Value} {t : FieldType} (ht : t.isReference = true) (hv : v.isRef = true) : fits t v = true := by cases t <;> first | (cases ht; done) | (rcases ref_cases hv with rfl | ⟨a, rfl⟩ <;> rfl)
theorem WS.acmp (X : WS p l e R s m args below meth c Z EL n0 own T h WL FL cells slots) (hx : p.tables.exec = Jvm.exec) {cd : ACond} {x y : Value} (h1 : x.isRef = true) (h2 : y.isRef = true) {o : Int} {pc' : Nat} {same : Bool}
    (hd : decode c.code pc = .ok (.if_acmp cd o, 3)) (hq : decide (x = y) = same) (ho : 0 ≤ (pc : Int) + o) (hp : pc' = if acV cd same = true then ((pc : Int) + o).toNat else pc + 3)
    (k : Wo p e s below Z EL n0 WL0 FL0 rm Q T (mkF m pc' Ls rest)) : Wo p e s below Z EL n0 WL0 FL0 rm Q T (mkF m pc Ls (y :: x :: rest)) := by
  obtain ⟨vm0, k0, locs, X, eT, hS, hk, hZ, hown, N, I⟩ := X
  exact Wo.by (fun t q => RoadKit.acmp (g := mkF m pc Ls (y :: x :: rest)) X hx rfl h1 h2 (pc0 := pc) rfl hd rfl hq ho hp q) k
theorem WS.alen (X : WS p l e R s m args below meth c Z EL n0 own T h WL FL cells slots) (hx : p.tables.exec = Jvm.exec) {a : Addr} {ka : ClassId} {ty : FieldType} {N : Int32} {vs : List Value} {dv : Value} (A : Arv Z h a ka ty N vs dv) (hd : decode c.code pc = .ok (.arraylength, 1))
    (k : Wo p e s below Z EL n0 WL0 FL0 rm Q T (mkF m (pc + 1) Ls (.int N :: rest))) : Wo p e s below Z EL n0 WL0 FL0 rm Q T (mkF m pc Ls (.ref a :: rest)) := by
  obtain ⟨vm0, k0, locs, X, eT, hS, hk, hZ, hown, N, I⟩ := X
  obtain ⟨cl, A1, A2, A3, A4, -, -⟩ := A
  refine Wo.by (fun t q => X.arraylength hx (by rw [eT]; exact A1.1) (State.isArrayOf_alike hZ.alike A1.2.1) (g := mkF m pc Ls (.ref a :: rest)) rfl rfl hd t ?_) k
  rw [len_of A3 A4]; exact q
theorem WS.cld (X : WS p l e R s m args below meth c Z EL n0 own T h WL FL cells slots) (hx : p.tables.exec = Jvm.exec) {a : Addr} {ka : ClassId} {N : Int32} {vs : List Value} {dv : Value} (A : Arv Z h a ka .char N vs dv) {j x : Int32} (hj : ¬ j < 0 ∧ j < N) (hv : vs.getD j.toNatClampNeg dv = .int x) (hd : decode c.code pc = .ok (.caload, 1))
    (k : Wo p e s below Z EL n0 WL0 FL0 rm Q T (mkF m (pc + 1) Ls (.int x :: rest))) : Wo p e s below Z EL n0 WL0 FL0 rm Q T (mkF m pc Ls (.int j :: .ref a :: rest)) := by
  obtain ⟨vm0, k0, locs, X, eT, hS, hk, hZ, hown, N, I⟩ := X
  obtain ⟨cl, A1, A2, A3, A4, A5, -⟩ := A
  exact Wo.by (fun t q => X.caload hx (by rw [eT]; exact A1.1) (State.isArrayOf_alike hZ.alike A1.2.1) A1.2.2 (inb_of A3 hj) (A5.at (inb_of A3 hj) hv) (g := mkF m pc Ls (.int j :: .ref a :: rest)) rfl rfl hd t q) k
theorem WS.bld (X : WS p l e R s m args below meth c Z EL n0 own T h WL FL cells slots) (hx : p.tables.exec = Jvm.exec) {a : Addr} {ka : ClassId} {N : Int32} {vs : List Value} {dv : Value} (A : Arv Z h a ka .byte N vs dv) {j x : Int32} (hj : ¬ j < 0 ∧ j < N) (hv : vs.getD j.toNatClampNeg dv = .int x) (hd : decode c.code pc = .ok (.baload, 1))
    (k : Wo p e s below Z EL n0 WL0 FL0 rm Q T (mkF m (pc + 1) Ls (.int x :: rest))) : Wo p e s below Z EL n0 WL0 FL0 rm Q T (mkF m pc Ls (.int j :: .ref a :: rest)) := by
  obtain ⟨vm0, k0, locs, X, eT, hS, hk, hZ, hown, N, I⟩ := X
  obtain ⟨cl, A1, A2, A3, A4, A5, -⟩ := A
  exact Wo.by (fun t q => X.baloadBytes hx (by rw [eT]; exact A1.1) (State.isArrayOf_alike hZ.alike A1.2.1) A1.2.2 (inb_of A3 hj) (A5.at (inb_of A3 hj) hv) (g := mkF m pc Ls (.int j :: .ref a :: rest)) rfl rfl hd t q) k
theorem WS.castY (X : WS p l e R s m args below meth c Z EL n0 own T h WL FL cells slots) (hx : p.tables.exec = Jvm.exec) {C : String} {index : Nat} (w : (Jvm.Cond.classLink own index C).before a0 Z = true) {a : Addr} (F : Ins Z h a C true) (hd : decode c.code pc = .ok (.checkcast index, 3))
    (k : ∀ T', WS p l e R s m args below meth c Z EL n0 own T' h WL FL cells slots → Wo p e s below Z EL n0 WL0 FL0 rm Q T' (mkF m (pc + 3) Ls (.ref a :: rest))) : Wo p e s below Z EL n0 WL0 FL0 rm Q T (mkF m pc Ls (.ref a :: rest)) := by
  obtain ⟨vm0, k0, locs, X, eT, hS, hk, hZ, hown, N, I⟩ := X
  obtain ⟨T', X', eT', st⟩ := RoadKit.castY X hx hZ hown w eT F (g := mkF m pc Ls (.ref a :: rest)) rfl rfl hd
  exact Wo.by st (k T' ⟨vm0, k0, _, X', eT', hS, hk, hZ, hown, N, I⟩)
theorem WS.instY (X : WS p l e R s m args below meth c Z EL n0 own T h WL FL cells slots) (hx : p.tables.exec = Jvm.exec) {C : String} {index : Nat} (w : (Jvm.Cond.classLink own index C).before a0 Z = true) {a : Addr} (F : Ins Z h a C true) (hd : decode c.code pc = .ok (.instanceof index, 3))
    (k : ∀ T', WS p l e R s m args below meth c Z EL n0 own T' h WL FL cells slots → Wo p e s below Z EL n0 WL0 FL0 rm Q T' (mkF m (pc + 3) Ls (.int 1 :: rest))) : Wo p e s below Z EL n0 WL0 FL0 rm Q T (mkF m pc Ls (.ref a :: rest)) := by
  obtain ⟨vm0, k0, locs, X, eT, hS, hk, hZ, hown, N, I⟩ := X
  obtain ⟨T', X', eT', st⟩ := RoadKit.instY X hx hZ hown w eT F (g := mkF m pc Ls (.ref a :: rest)) rfl rfl hd
  exact Wo.by st (k T' ⟨vm0, k0, _, X', eT', hS, hk, hZ, hown, N, I⟩)
theorem WS.castN (X : WS p l e R s m args below meth c Z EL n0 own T h WL FL cells slots) (hx : p.tables.exec = Jvm.exec) {index : Nat} (hd : decode c.code pc = .ok (.checkcast index, 3))
    (k : Wo p e s below Z EL n0 WL0 FL0 rm Q T (mkF m (pc + 3) Ls (.null :: rest))) : Wo p e s below Z EL n0 WL0 FL0 rm Q T (mkF m pc Ls (.null :: rest)) := by
  obtain ⟨vm0, k0, locs, X, eT, hS, hk, hZ, hown, N, I⟩ := X
  exact Wo.by (X.checkcastNull hx (g := mkF m pc Ls (.null :: rest)) rfl rfl hd) k
theorem WS.ldcI (X : WS p l e R s m args below meth c Z EL n0 own T h WL FL cells slots) (hx : p.tables.exec = Jvm.exec) {index : Nat} {v : Int32} (w : (Jvm.Cond.constant own index v).before a0 Z = true) (hd : decode c.code pc = .ok (.ldc index, 2))
    (k : Wo p e s below Z EL n0 WL0 FL0 rm Q T (mkF m (pc + 2) Ls (.int v :: st))) : Wo p e s below Z EL n0 WL0 FL0 rm Q T (mkF m pc Ls st) := by
  obtain ⟨vm0, k0, locs, X, eT, hS, hk, hZ, hown, N, I⟩ := X
  exact Wo.by (X.ldcInt hx hown (mv hZ w) (g := mkF m pc Ls st) rfl hd) k
theorem WS.cpA (X : WS p l e R s m args below meth c Z EL n0 own T h WL FL cells slots) (hx : p.tables.exec = Jvm.exec) {index : Nat} (w1 : (Jvm.Cond.methodLink own index Jvm.Stand.acN).before a0 Z = true) (w2 : (Jvm.Cond.native Jvm.Stand.acN).before a0 Z = true) (w3 : (Jvm.Cond.static Jvm.Stand.acN).before a0 Z = true) (w4 : (Jvm.Cond.initialized "java/lang/System").before a0 Z = true)
    {a b : Addr} {ka kb : ClassId} {ty ty' : FieldType} {z z' sp dp nn : Int32} {vs vd us vr : List Value} {dv dd : Value} (A : Arv Z h a ka ty z vs dv) (B : Arv Z h b kb ty' z' vd dd) (hty : (ty = ty' ∧ refKind ty = false) ∨ (refKind ty = true ∧ refKind ty' = true ∧ StoL Z h b us))
    (h1 : ¬ sp < 0) (h2 : ¬ dp < 0) (h3 : ¬ nn < 0) (h4 : sp.toNatClampNeg + nn.toNatClampNeg ≤ z.toNatClampNeg) (h5 : dp.toNatClampNeg + nn.toNatClampNeg ≤ z'.toNatClampNeg)
    (hus : us = (List.range nn.toNatClampNeg).map fun i => vs.getD (sp.toNatClampNeg + i) dv) (hl : dp.toNatClampNeg + nn.toNatClampNeg ≤ vd.length) (hr : vd.take dp.toNatClampNeg ++ us ++ vd.drop (dp.toNatClampNeg + nn.toNatClampNeg) = vr) (hb : b ∈ WL)
    (hsize : Ls.size = c.maxLocals) (hd : decode c.code pc = .ok (.invokestatic index, 3)) (hf : 1 ≤ R.frames) {W : Nat} (hW : (rest.map fun v => v.category).sum ≤ W) (hlo : W + 18 ≤ R.locals)
    (k : ∀ T' h', WS p l e R s m args below meth c Z EL n0 own T' h' WL FL cells slots → Keep h h' [b] → Arv Z h' b kb ty' z' vr dd → Wo p e s below Z EL n0 WL0 FL0 rm Q T' (mkF m (pc + 3) Ls rest)) :
    Wo p e s below Z EL n0 WL0 FL0 rm Q T (mkF m pc Ls (.int nn :: .int dp :: .ref b :: .int sp :: .ref a :: rest)) := by
  obtain ⟨vm0, k0, locs, X, eT, hS, hk, hZ, hown, N, I⟩ := X
  obtain ⟨T', h', L, X', eT', N', K, V, st⟩ := RoadKit.cpA X hx hZ hown w1 w2 w3 w4 eT A B hty h1 h2 h3 h4 h5 hus hl N (I.ge hb) (g := mkF m pc Ls (.int nn :: .int dp :: .ref b :: .int sp :: .ref a :: rest)) rfl hsize rfl hd hf (W := W) (by show 2 * 0 + _ ≤ _; omega) (by rw [show nativeFrameWords "java/lang/System" "arraycopy" 5 = 7 by decide]; omega)
  subst hr
  exact Wo.by st (k T' h' ⟨vm0, k0, _, X', eT', hS, Nat.le_trans hk K.1, hZ, hown, N', I.keep K (allS hb all0)⟩ K V)
/-- a String constant, read -/
theorem WS.ldc (X : WS p l e R s m args below meth c Z EL n0 own T h WL FL cells slots) (hx : p.tables.exec = Jvm.exec) {index : Nat} {text : String} (w : (Jvm.Cond.stringLink own index text).before a0 Z = true) (wS : ∀ a ∈ Bundle.stringAtoms, a.before a0 Z = true) (hmem : (own, index) ∈ EL)
    {vs : List Value} {z : Int32} (ht : (∀ c ∈ text.toList, c.toNat < 256) ∧ text.toList.map (fun c => Value.int (Jvm.Lit.byteI c.toNat.toUInt16)) = vs) (hz : ¬ z < 0) (hl : z.toNatClampNeg = vs.length)
    (hd : decode c.code pc = .ok (.ldc index, 2)) {n : Nat} (hn : 4 * text.toList.length ≤ n) (hbig : n ≤ 536870912) (hc : cells + 2 ≤ R.cells) (hl' : slots + (n + 4) ≤ R.slots)
    (k : ∀ T' h' a b kb, WS p l e R s m args below meth c Z EL n0 own T' h' WL (a :: b :: FL) (cells + 2) (slots + (n + 4)) → Ext h h' → Exa Z h' a "java/lang/String" → Fld Z h' a "java/lang/String" "coder" "B" (.int 0) → Fld Z h' a "java/lang/String" "value" "[B" (.ref b) → Arv Z h' b kb .byte z vs (.int 0) → Wo p e s below Z EL n0 WL0 FL0 rm Q T' (mkF m (pc + 2) Ls (.ref a :: st))) :
    Wo p e s below Z EL n0 WL0 FL0 rm Q T (mkF m pc Ls st) := by
  obtain ⟨vm0, k0, locs, X, eT, hS, hk, hZ, hown, N, ⟨a1, i1⟩, i2, i3, i4, i5, i6⟩ := X
  obtain ⟨a, T', h', k1, b, kb, X', eT', E, hS', hk', hZ', hown', A, C, V, B, la, lb, hC, -, hne, st⟩ := ldcCH X hx hZ hown w wS eT hS hk i1 hmem i2 ht hz hl (g := mkF m pc Ls st) rfl hd hn hbig hc hl'
  have S : ∀ x ∈ WL, Safe Z EL T'.vm h' x := fun x hx => hC.safe (i4 x hx).2.1 (i4 x hx).2.2
  refine Wo.by st (k T' h' a b kb ⟨T'.vm, k1, _, X', eT', hS', hk', hZ', hown', N, ⟨a1, i1⟩, hC.1, i3.ext E, fun x hx => ⟨(i4 x hx).1, Nat.lt_of_lt_of_le (i4 x hx).2.1 E.1, S x hx⟩, i5, fun y hy => ?_⟩ E A C V B)
  rcases List.mem_cons.mp hy with rfl | hy
  · exact ⟨la, fun q => (hne _ (S _ q)).1 rfl⟩
  · rcases List.mem_cons.mp hy with rfl | hy
    · exact ⟨lb, fun q => (hne _ (S _ q)).2 rfl⟩
    · exact ⟨Nat.lt_of_lt_of_le (i6 y hy).1 E.1, (i6 y hy).2⟩
/-- a String constant that nobody reads -/
theorem WS.ldcO (X : WS p l e R s m args below meth c Z EL n0 own T h WL FL cells slots) (hx : p.tables.exec = Jvm.exec) {index : Nat} {text : String} (w : (Jvm.Cond.stringLink own index text).before a0 Z = true) (wS : ∀ a ∈ Bundle.stringAtoms, a.before a0 Z = true)
    (hd : decode c.code pc = .ok (.ldc index, 2)) {n : Nat} (hn : 4 * text.toList.length ≤ n) (hbig : n ≤ 536870912) (hc : cells + 2 ≤ R.cells) (hl' : slots + (n + 4) ≤ R.slots)
    (k : ∀ T' h' a, WS p l e R s m args below meth c Z EL n0 own T' h' WL FL (cells + 2) (slots + (n + 4)) → Ext h h' → Wo p e s below Z EL n0 WL0 FL0 rm Q T' (mkF m (pc + 2) Ls (.ref a :: st))) :
    Wo p e s below Z EL n0 WL0 FL0 rm Q T (mkF m pc Ls st) := by
  obtain ⟨vm0, k0, locs, X, eT, hS, hk, hZ, hown, N, ⟨a1, i1⟩, i2, i3, i4, i5, i6⟩ := X
  obtain ⟨a, T', h', k1, X', eT', E, hS', hk', hZ', hown', hC, -, st⟩ := ldcOH X hx hZ hown w wS eT hS hk i1 i2 (g := mkF m pc Ls st) rfl hd hn hbig hc hl'
  exact Wo.by st (k T' h' a ⟨T'.vm, k1, _, X', eT', hS', hk', hZ', hown', N, ⟨a1, i1⟩, hC.1, i3.ext E, fun x hx => ⟨(i4 x hx).1, Nat.lt_of_lt_of_le (i4 x hx).2.1 E.1, hC.safe (i4 x hx).2.1 (i4 x hx).2.2⟩, i5, fun y hy => ⟨Nat.lt_of_lt_of_le (i6 y hy).1 E.1, (i6 y hy).2⟩⟩ E)
/-- who pays a call -/
def Pay (l : Launch) (R : Room) (p : Program) (e : Env) (below : List Frame) (s : State) (args : Array Value) (Z : State) (EL : List (String × Nat)) (n0 : Nat) (y : MethodName) (len W : Nat) (as' : Array Value) (h : Heap) (WL FL : List Addr) (k n : Nat) (Q : Option Value → Heap → List Addr → List Addr → Prop) : Prop :=
  ∀ vm0, Z.Warmed39 vm0 → Inv Z EL n0 vm0 h WL FL → BackS l R p e below (s.setVm vm0) args y len W (fun A a => a = as' ∧ A.U.heap = h ∧ A.cells + k ≤ R.cells ∧ A.slots + n ≤ R.slots)
    (fun A _ v B => ∃ L WL' FL', Q v B.U.heap WL' FL' ∧ Fr n0 L ∧ B.locs = A.locs ++ L ∧ B.cells = A.cells + k ∧ B.slots = A.slots + n ∧ Inv Z EL n0 B.U.vm B.U.heap (WL' ++ WL) (FL' ++ FL))
theorem Ct.pay {y : MethodName} {bytes : ByteArray} {maxL : Nat} {ret : Option FieldType} {rm : Room} {as' : Array Value} {len W : Nat} {Q : Option Value → Heap → List Addr → List Addr → Prop} (C : Ct l Z EL n0 y bytes maxL ret rm as' h WL FL Q)
    (wc : (Jvm.Cond.code y bytes maxL ret).before a0 Z = true) (wz : (Jvm.Cond.initialized y.cls).before a0 Z = true) (hf : rm.frames + 1 ≤ R.frames) (hl : W + (maxL + 11) + rm.locals ≤ R.locals) :
    Pay l R p e below s args Z EL n0 y len W as' h WL FL rm.cells rm.slots Q := fun vm0 hZ I =>
  BackS.of_freeW (bytes := bytes) (maxL := maxL) (ret := ret) (E := fun _ first o t L k n => k = rm.cells ∧ n = rm.slots ∧ ∃ v WL' FL', o = .returned v ∧ Q v t.heap WL' FL' ∧ Fr n0 L ∧ Inv Z EL n0 t.vm t.heap (WL' ++ WL) (FL' ++ FL)) (C []) hf hl
    (fun m meth c A a Y hp => have hU : Z.Warmed39 A.U.vm := wtrans (s := s.setVm vm0) hZ Y.warmed
      ⟨by show (Jvm.Cond.and _ .tt).before a A.U = true; rw [Cond.before_and, mv hU wc]; rfl, mv hU wc, mv hU wz, hp.2.2.1, hp.2.2.2⟩)
    (fun m meth c A a g mk Y hp => ⟨hp.1, wtrans (s := s.setVm vm0) hZ Y.warmed, hp.2.1, (show Inv Z EL n0 A.U.vm h WL FL from WS.invT Y hZ I)⟩) (fun _ _ _ _ _ _ _ _ _ => trivial)
    (fun _ _ _ _ ⟨v, L, WL', FL', h1, h2, h3, h4, h5⟩ => ⟨L, _, _, h5, rfl, rfl, v, WL', FL', h1, h4, h3, h2⟩)
    (fun m meth c A a g mk v t L k n Y hp _ _ ⟨e1, e2, v', WL', FL', e3, e4, e5, e6⟩ => by
      cases e3; subst e1 e2
      exact ⟨L, WL', FL', e4, e5, rfl, rfl, rfl, e6⟩)
/-- a law of the narrow shape pays too -/
theorem Pay.ofN {y : MethodName} {as' : Array Value} {len W k n : Nat} {Qn : Option Value → Heap → List Loc → Prop} {Q : Option Value → Heap → List Addr → List Addr → Prop}
    (B : ∀ vm0, Z.Warmed39 (s.setVm vm0).vm → Back l R p e below (s.setVm vm0) args y len W (fun A a => a = as' ∧ A.U.heap = h ∧ A.cells + k ≤ R.cells ∧ A.slots + n ≤ R.slots) (fun A _ v B => ∃ L, Qn v B.U.heap L ∧ B.locs = A.locs ++ L ∧ B.cells = A.cells + k ∧ B.slots = A.slots + n))
    (hq : ∀ v h' L, Qn v h' L → Fr n0 L ∧ ∃ ws FL', Keep h h' ws ∧ (∀ x ∈ ws, x ∈ WL) ∧ (∀ y ∈ FL', h.size ≤ y ∧ y < h'.size) ∧ Q v h' [] FL') :
    Pay l R p e below s args Z EL n0 y len W as' h WL FL k n Q := fun vm0 hZ I => by
  intro m meth c A g ig mk a X hg hsize hdg hW hn hp
  obtain ⟨v, B, X', ⟨L, q1, q2, q3, q4⟩, st⟩ := B vm0 hZ m meth c A g ig mk a X hg hsize hdg hW hn hp
  obtain ⟨N, ws, FL', K, hws, hF, q⟩ := hq _ _ _ q1
  refine ⟨v, B, X'.retabled X'.warmed.wide, X'.warmed.since _, by rw [hp.2.1]; exact K.1, ⟨L, [], FL', q, N, q2, q3, q4, ?_⟩, st⟩
  obtain ⟨i1, i2, i3, i4, i5, i6⟩ := WS.invT X' hZ (I.keep K hws)
  refine ⟨i1, i2, i3, i4, i5, fun y hy => ?_⟩
  rcases List.mem_append.mp hy with z | z
  · exact ⟨(hF y z).2, fun w => Nat.lt_irrefl _ (Nat.lt_of_lt_of_le (I.lt w) (hF y z).1)⟩
  · exact i6 y z
/-- behind a call -/
theorem WS.back {vm0 : Vm} {k0 : Nat} {locs : List Loc} {B : Pt} {k n : Nat} {L : List Loc} {WL' FL' : List Addr} (hS : s.Since vm0 k0) (hk : k0 ≤ T.heap.size) (hZ : Z.Warmed39 vm0) (hown : vm0.findClass own = some m.cls) (N : Fr n0 locs) (X' : Stand p l e R ((s.setVm vm0).setVm B.U.vm) m args below meth c B.U B.locs B.cells B.slots)
    (hS' : (s.setVm vm0).Since B.U.vm B.U.heap.size) (hgr : T.heap.size ≤ B.U.heap.size) (N' : Fr n0 L) (q2 : B.locs = locs ++ L) (q3 : B.cells = cells + k) (q4 : B.slots = slots + n) (I' : Inv Z EL n0 B.U.vm B.U.heap (WL' ++ WL) (FL' ++ FL)) :
    WS p l e R s m args below meth c Z EL n0 own B.U B.U.heap (WL' ++ WL) (FL' ++ FL) (cells + k) (slots + n) := by
  obtain ⟨U, Lo, ck, sl⟩ := B
  dsimp only [Pt.U, Pt.locs, Pt.cells, Pt.slots] at *
  subst q2 q3 q4
  exact ⟨U.vm, U.heap.size, _, X', rfl, hS.trans hS' (Nat.le_trans hk hgr), Nat.le_refl _, State.Warmed39.trans (t := s.setVm vm0) hZ hS'.1, by rw [hS'.1.alike.findClass]; exact hown, N.app N', I'⟩
variable {index : Nat} {y z : MethodName} {bytes : ByteArray} {maxL : Nat} {ret : Option FieldType} {W k n : Nat} {as' : Array Value} {Qc : Option Value → Heap → List Addr → List Addr → Prop} {argsL : List Value}
theorem WS.callS (X : WS p l e R s m args below meth c Z EL n0 own T h WL FL cells slots) (hx : p.tables.exec = Jvm.exec) (w1 : (Jvm.Cond.methodLink own index y).before a0 Z = true) (w2 : (Jvm.Cond.static y).before a0 Z = true) (w3 : (Jvm.Cond.initialized y.cls).before a0 Z = true) (w4 : (Jvm.Cond.code y bytes maxL ret).before a0 Z = true) (hy : y.cls ≠ "java/lang/invoke/MethodHandle" ∧ y.cls ≠ "java/lang/invoke/VarHandle")
    (hP : Pay l R p e below s args Z EL n0 y 3 W as' h WL FL k n Qc) (hsize : Ls.size = c.maxLocals) (hlen : ∀ sig, parseMethodDescriptor y.desc = some sig → argsL.length = sig.parameters.length) (hst : st = argsL.reverse ++ rest) (has : argsL.toArray = as') (hW : (rest.map fun v => v.category).sum ≤ W)
    (hd : decode c.code pc = .ok (.invokestatic index, 3)) (hc : cells + k ≤ R.cells) (hl : slots + n ≤ R.slots)
    (kk : ∀ T' h' v WL' FL', WS p l e R s m args below meth c Z EL n0 own T' h' (WL' ++ WL) (FL' ++ FL) (cells + k) (slots + n) → Qc v h' WL' FL' → Wo p e s below Z EL n0 WL0 FL0 rm Q T' (mkF m (pc + 3) Ls (v.toList ++ rest))) :
    Wo p e s below Z EL n0 WL0 FL0 rm Q T (mkF m pc Ls st) := by
  obtain ⟨vm0, k0, locs, X, eT, hS, hk, hZ, hown, N, I⟩ := X
  obtain ⟨v, vm₁, B, -, X', hS', hgr, ⟨L, WL', FL', q, N', q2, q3, q4, I'⟩, stp⟩ := callSS X hx hown (mv hZ w1) (mv hZ w2) (mv hZ w3) (mv hZ w4) hy (hP vm0 hZ I) (g := mkF m pc Ls st) rfl hsize hlen hst (by show 2 * 0 + _ ≤ _; omega) hd (fun _ _ => ⟨has, eT, hc, hl⟩)
  exact Wo.by (fun t r => stp.trans r) (kk B.U _ v WL' FL' (WS.back hS (by rw [eT]; exact hk) hZ hown N X' hS' hgr N' q2 q3 q4 I') q)
theorem WS.callC (X : WS p l e R s m args below meth c Z EL n0 own T h WL FL cells slots) (hx : p.tables.exec = Jvm.exec) (hi : y.name = "<init>") (w1 : (Jvm.Cond.methodLink own index y).before a0 Z = true) (w2 : (Jvm.Cond.instanceMethod y).before a0 Z = true) (w4 : (Jvm.Cond.code y bytes maxL none).before a0 Z = true) (hy : y.cls ≠ "java/lang/invoke/MethodHandle" ∧ y.cls ≠ "java/lang/invoke/VarHandle")
    {a : Addr} (hP : Pay l R p e below s args Z EL n0 y 3 W as' h WL FL k n Qc) (hsize : Ls.size = c.maxLocals) (hlen : ∀ sig, parseMethodDescriptor y.desc = some sig → argsL.length = sig.parameters.length) (hst : st = argsL.reverse ++ .ref a :: rest) (has : (Value.ref a :: argsL).toArray = as') (hW : (rest.map fun v => v.category).sum ≤ W)
    (hd : decode c.code pc = .ok (.invokespecial index, 3)) (hc : cells + k ≤ R.cells) (hl : slots + n ≤ R.slots)
    (kk : ∀ T' h' v WL' FL', WS p l e R s m args below meth c Z EL n0 own T' h' (WL' ++ WL) (FL' ++ FL) (cells + k) (slots + n) → Qc v h' WL' FL' → Wo p e s below Z EL n0 WL0 FL0 rm Q T' (mkF m (pc + 3) Ls (v.toList ++ rest))) :
    Wo p e s below Z EL n0 WL0 FL0 rm Q T (mkF m pc Ls st) := by
  obtain ⟨vm0, k0, locs, X, eT, hS, hk, hZ, hown, N, I⟩ := X
  obtain ⟨v, vm₁, B, -, X', hS', hgr, ⟨L, WL', FL', q, N', q2, q3, q4, I'⟩, stp⟩ := X.specialBackS hx hi hown (mv hZ w1) (mv hZ w2) (mv hZ w4) hy (hP vm0 hZ I) (g := mkF m pc Ls st) rfl hsize (Steps.refl _) hlen hst (by show 2 * 0 + _ ≤ _; omega) hd (fun _ _ => ⟨has, eT, hc, hl⟩)
  exact Wo.by (fun t r => stp.trans r) (kk B.U _ v WL' FL' (WS.back hS (by rw [eT]; exact hk) hZ hown N X' hS' hgr N' q2 q3 q4 I') q)
theorem WS.callV {C : String} (X : WS p l e R s m args below meth c Z EL n0 own T h WL FL cells slots) (hx : p.tables.exec = Jvm.exec) (w1 : (Jvm.Cond.methodLink own index y).before a0 Z = true) (w2 : (Jvm.Cond.declares y).before a0 Z = true) (w3 : (Jvm.Cond.selects C y z).before a0 Z = true) (w4 : (Jvm.Cond.instanceMethod z).before a0 Z = true) (hf : ∀ vm0, Z.Warmed39 vm0 → NotFace (s.setVm vm0) y) (hy : y.cls ≠ "java/lang/invoke/MethodHandle" ∧ y.cls ≠ "java/lang/invoke/VarHandle")
    {a : Addr} (E : Exa Z h a C) (hP : Pay l R p e below s args Z EL n0 z 3 W as' h WL FL k n Qc) (hsize : Ls.size = c.maxLocals) (hlen : ∀ sig, parseMethodDescriptor y.desc = some sig → argsL.length = sig.parameters.length) (hst : st = argsL.reverse ++ .ref a :: rest) (has : (Value.ref a :: argsL).toArray = as') (hW : (rest.map fun v => v.category).sum ≤ W)
    (hd : decode c.code pc = .ok (.invokevirtual index, 3)) (hc : cells + k ≤ R.cells) (hl : slots + n ≤ R.slots)
    (kk : ∀ T' h' v WL' FL', WS p l e R s m args below meth c Z EL n0 own T' h' (WL' ++ WL) (FL' ++ FL) (cells + k) (slots + n) → Qc v h' WL' FL' → Wo p e s below Z EL n0 WL0 FL0 rm Q T' (mkF m (pc + 3) Ls (v.toList ++ rest))) :
    Wo p e s below Z EL n0 WL0 FL0 rm Q T (mkF m pc Ls st) := by
  obtain ⟨vm0, k0, locs, X, eT, hS, hk, hZ, hown, N, I⟩ := X
  obtain ⟨cB, kB, q0, q1, q5⟩ := isOf (s := s.setVm vm0) hZ eT E
  obtain ⟨v, vm₁, B, -, X', hS', hgr, ⟨L, WL', FL', q, N', q2, q3, q4, I'⟩, stp⟩ := X.virtualBackS hx hown (mv hZ w1) (mv hZ w2) (hf vm0 hZ) (mv hZ w3) (mv hZ w4) hy (hP vm0 hZ I) q0 q5 (g := mkF m pc Ls st) rfl hsize (Steps.refl _) hlen hst (by show 2 * 0 + _ ≤ _; omega) hd (fun _ _ => ⟨has, eT, hc, hl⟩)
  exact Wo.by (fun t r => stp.trans r) (kk B.U _ v WL' FL' (WS.back hS (by rw [eT]; exact hk) hZ hown N X' hS' hgr N' q2 q3 q4 I') q)
theorem WS.callI {C : String} {count : Nat} (X : WS p l e R s m args below meth c Z EL n0 own T h WL FL cells slots) (hx : p.tables.exec = Jvm.exec) (w1 : (Jvm.Cond.methodLink own index y).before a0 Z = true) (w2 : (Jvm.Cond.declares y).before a0 Z = true) (w2' : (Jvm.Cond.interfaceMethod y.cls y.cls y.name y.desc).before a0 Z = true) (w3 : (Jvm.Cond.selects C y z).before a0 Z = true) (w4 : (Jvm.Cond.instanceMethod z).before a0 Z = true)
    (w5 : (Jvm.Cond.publicMethod z).before a0 Z = true) (w6 : (Jvm.Cond.unhidden C y.name y.desc).before a0 Z = true) (w7 : (Jvm.Cond.castable C y.cls).before a0 Z = true) (hy : y.cls ≠ "java/lang/invoke/MethodHandle" ∧ y.cls ≠ "java/lang/invoke/VarHandle")
    {a : Addr} (E : Exa Z h a C) (hP : Pay l R p e below s args Z EL n0 z 5 W as' h WL FL k n Qc) (hsize : Ls.size = c.maxLocals) (hlen : ∀ sig, parseMethodDescriptor y.desc = some sig → argsL.length = sig.parameters.length) (hst : st = argsL.reverse ++ .ref a :: rest) (has : (Value.ref a :: argsL).toArray = as') (hW : (rest.map fun v => v.category).sum ≤ W)
    (hd : decode c.code pc = .ok (.invokeinterface index count, 5)) (hc : cells + k ≤ R.cells) (hl : slots + n ≤ R.slots)
    (kk : ∀ T' h' v WL' FL', WS p l e R s m args below meth c Z EL n0 own T' h' (WL' ++ WL) (FL' ++ FL) (cells + k) (slots + n) → Qc v h' WL' FL' → Wo p e s below Z EL n0 WL0 FL0 rm Q T' (mkF m (pc + 5) Ls (v.toList ++ rest))) :
    Wo p e s below Z EL n0 WL0 FL0 rm Q T (mkF m pc Ls st) := by
  obtain ⟨vm0, k0, locs, X, eT, hS, hk, hZ, hown, N, I⟩ := X
  obtain ⟨cB, kB, q0, q1, q5⟩ := isOf (s := s.setVm vm0) hZ eT E
  obtain ⟨v, vm₁, B, -, X', hS', hgr, ⟨L, WL', FL', q, N', q2, q3, q4, I'⟩, stp⟩ := X.interfaceBackS hx hown (mv hZ w1) (mv hZ w2) (mv hZ w2' (by simp [Cond.onTables, Cond.keepsFace, Cond.keeps, Cond.steady, Cond.faceAtom]; exact hy)) (mv hZ w3) (mv hZ w4) (mv hZ w5) (mv hZ w6) (mv hZ w7) hy (hP vm0 hZ I) q0 q1 q5 (g := mkF m pc Ls st) rfl hsize (Steps.refl _) hlen hst (by show 2 * 0 + _ ≤ _; omega) hd (fun _ _ => ⟨has, eT, hc, hl⟩)
  exact Wo.by (fun t r => stp.trans r) (kk B.U _ v WL' FL' (WS.back hS (by rw [eT]; exact hk) hZ hown N X' hS' hgr N' q2 q3 q4 I') q)
theorem nf {vm0 : Vm} {C : String} (hZ : Z.Warmed39 vm0) (w : (Jvm.Cond.selects C y y).before a0 Z = true) : NotFace (s.setVm vm0) y := notFace_of_selects (args := #[]) (mv (s := s.setVm vm0) hZ w)
end Walk
end Wd
end Jvm.Pilot.@@N@@
/- laws to paste: Road.backV (cut by pick.py; bodies as the Statement names them) -/
namespace Jvm.Pilot.@@N@@
namespace StrChars
open Jvm Sem ClassFile Op Lib Jvm.Stand Jvm.Free.XT Jvm.Free.ALB Jvm.Free.JM Jvm.Free
open Jvm.Lib.Cold (StaticIs)
/-- a char array whose places are chars -/
def Ch (a : Addr) (A : Cell) (U : State) : Prop := Arr .char a A U ∧ Typed .char A
theorem Ch.mv {a : Addr} {A : Cell} {U U' : State} (h : Ch a A U) (hal : U.vm.Alike U'.vm) (hh : U'.heap = U.heap) : Ch a A U' := ⟨h.1.mv hal hh, h.2⟩
theorem Ch.keep {a : Addr} {A : Cell} {U U' : State} (h : Ch a A U) (hal : U.vm.Alike U'.vm) (hk : U'.heap[a]? = some A) : Ch a A U' := ⟨h.1.keep hal hk, h.2⟩
/-- what place i of a char[]'s cell holds -/
def cv (A : Cell) (i : Nat) : Int32 := match A.slots[i]? with | some (.int x) => x | _ => 0
theorem Ch.get {a : Addr} {A : Cell} {U : State} (h : Ch a A U) {i : Nat} (hi : i < A.slots.size) : A.slots[i]? = some (.int (cv A i)) := by
  have e := Array.getElem?_eq_getElem hi
  have f := h.2 i _ e
  unfold cv; rw [e]
  generalize A.slots[i] = v at f
  cases v <;> simp [fits] at f ⊢
/-- the byte that i2b leaves of a char -/
def lo8 (x : Int32) : Int32 := x.toInt8.toInt32
theorem fits_lo8 (y : Int32) : fits .byte (.int (lo8 y)) = true := by
  have h1 := y.toInt8.le_toInt
  have h2 := y.toInt8.toInt_lt
  simp only [lo8, fits, Bool.and_eq_true, decide_eq_true_eq, Int32.le_iff_toInt_le, Int8.toInt_toInt32, show (-128 : Int32).toInt = -128 from by decide, show (127 : Int32).toInt = 127 from by decide]
  omega
/-- A' is A but that each place j of lo .. hi - 1 holds f j -/
def Laid (A A' : Cell) (lo hi : Nat) (f : Nat → Value) : Prop := A'.cls = A.cls ∧ A'.vm = A.vm ∧ A'.slots.size = A.slots.size ∧ ∀ i, A'.slots[i]? = if lo ≤ i ∧ i < hi then some (f i) else A.slots[i]?
theorem Laid.zero (A : Cell) (lo : Nat) (f : Nat → Value) : Laid A A lo (lo + 0) f := ⟨rfl, rfl, rfl, fun i => by rw [if_neg (by omega)]⟩
theorem Laid.step {A Ak : Cell} {lo k : Nat} {f : Nat → Value} {v : Value} (h : Laid A Ak lo k f) (hlo : lo ≤ k) (hk : k < Ak.slots.size) (hv : v = f k) : Laid A (Ak.setSlot k v) lo (k + 1) f := by
  refine ⟨h.1, h.2.1, by simpa [Cell.setSlot] using h.2.2.1, fun i => ?_⟩
  by_cases e : k = i
  · subst e; rw [Cell.slots_setSlot_self v hk, if_pos (by omega), hv]
  · rw [Cell.slots_setSlot_ne v e, h.2.2.2 i]
    by_cases q : lo ≤ i ∧ i < k
    · rw [if_pos q, if_pos (by omega)]
    · rw [if_neg q, if_neg (by omega)]
def U16 : String := "java/lang/StringUTF16"
namespace Cmp5
def yN : MethodName := ⟨"java/lang/StringUTF16", "compress", "([CI[BII)I"⟩
abbrev yB : ByteArray := jdk_52_method_21_code
theorem d0 : decode yB 0 = .ok (.iconst 0, 1) := by decide +kernel
theorem d1 : decode yB 1 = .ok (.istore 5, 2) := by decide +kernel
theorem d3 : decode yB 3 = .ok (.iload 5, 2) := by decide +kernel
theorem d5 : decode yB 5 = .ok (.iload 4, 2) := by decide +kernel
theorem d7 : decode yB 7 = .ok (.if_icmp (.ge) 37, 3) := by decide +kernel
theorem d10 : decode yB 10 = .ok (.aload_n 0, 1) := by decide +kernel
theorem d11 : decode yB 11 = .ok (.iload_n 1, 1) := by decide +kernel
theorem d12 : decode yB 12 = .ok (.caload, 1) := by decide +kernel
theorem d13 : decode yB 13 = .ok (.istore 6, 2) := by decide +kernel
theorem d15 : decode yB 15 = .ok (.iload 6, 2) := by decide +kernel
theorem d17 : decode yB 17 = .ok (.sipush 255, 3) := by decide +kernel
theorem d20 : decode yB 20 = .ok (.if_icmp (.le) 6, 3) := by decide +kernel
theorem d26 : decode yB 26 = .ok (.aload_n 2, 1) := by decide +kernel
theorem d27 : decode yB 27 = .ok (.iload_n 3, 1) := by decide +kernel
theorem d28 : decode yB 28 = .ok (.iload 6, 2) := by decide +kernel
theorem d30 : decode yB 30 = .ok (.i2b, 1) := by decide +kernel
theorem d31 : decode yB 31 = .ok (.bastore, 1) := by decide +kernel
theorem d32 : decode yB 32 = .ok (.iinc 1 1, 3) := by decide +kernel
theorem d35 : decode yB 35 = .ok (.iinc 3 1, 3) := by decide +kernel
theorem d38 : decode yB 38 = .ok (.iinc 5 1, 3) := by decide +kernel
theorem d41 : decode yB 41 = .ok (.goto (-38), 3) := by decide +kernel
theorem d44 : decode yB 44 = .ok (.iload 4, 2) := by decide +kernel
theorem d46 : decode yB 46 = .ok (.ireturn, 1) := by decide +kernel
def site : List Cond := []
def tab : Cond := tabOf yN yB 7 (some .int) site
def P (b : Addr) (A : Cell) (d : Addr) (B : Cell) (o q len : Nat) (args : Array Value) (s : State) : Prop := args = #[.ref b, .int (Int32.ofNat o), .ref d, .int (Int32.ofNat q), .int (Int32.ofNat len)] ∧ Ch b A s ∧ Arr .byte d B s ∧ b ≠ d ∧ o + len ≤ A.slots.size ∧ q + len ≤ B.slots.size ∧ ∀ i, i < len → ¬ 255 < cv A (o + i)
def E (b : Addr) (A : Cell) (d : Addr) (B : Cell) (o q len : Nat) (r : Option Value) (s u : State) : Prop := r = some (.int (Int32.ofNat len)) ∧ ∃ B', Put d B' s u ∧ Laid B B' q (q + len) (fun j => Value.int (lo8 (cv A (o + (j - q)))))
/-- no char of the range above 255: len; the places written hold each char's low byte -/
theorem law (l : Launch) (b : Addr) (A : Cell) (d : Addr) (B : Cell) (o q len : Nat) : Law l yN 5 5 0 0 yB 7 (some .int) site (P b A d B o q len) (E b A d B o q len) (copyLocs d q len) 0 0 := by
  refine Law.of_walk (plainFor_of_name (by decide +kernel)) (by decide +kernel) (by decide +kernel) (by decide) (fun _ _ h => by rw [h.1]; rfl) (fun _ U U' hal hh h => ⟨h.1, h.2.1.mv hal hh, h.2.2.1.mv hal hh, h.2.2.2⟩) (fun r U U' V V' h1 hal h2 h => ⟨h.1, h.2.elim fun B' q => ⟨B', q.1.mv h1 h2, q.2⟩⟩) ?_
  intro p e s m args below meth c s₁ X0 hexec hbytes hml hret hlk hnm hown hh0 W hP
  obtain ⟨rfl, hA, hB, hne, l1, l2, hp⟩ := hP
  have c1 : Steps p.tables e below (s₁.setTop (entryFrame m #[.ref b, .int (Int32.ofNat o), .ref d, .int (Int32.ofNat q), .int (Int32.ofNat len)] 7)) (s₁.setTop (mkF m 0 #[.val (.ref b), .val (.int (Int32.ofNat o)), .val (.ref d), .val (.int (Int32.ofNat q)), .val (.int (Int32.ofNat len)), .unset, .unset] [])) := entry rfl
  have hA0 := hA.1.mv X0.warmed.alike hh0
  have hB0 := hB.mv X0.warmed.alike hh0
  have a31 := hA.1.2.2.2
  have c2 : Steps p.tables e below (s₁.setTop (entryFrame m #[.ref b, .int (Int32.ofNat o), .ref d, .int (Int32.ofNat q), .int (Int32.ofNat len)] 7)) (s₁.setTop (mkF m 3 #[.val (.ref b), .val (.int (Int32.ofNat o)), .val (.ref d), .val (.int (Int32.ofNat q)), .val (.int (Int32.ofNat len)), .val (.int 0), .unset] [])) := c1.trans (by
    refine iconstV X0.here hexec rfl 0 (hb hbytes d0) (by decide) ?_
    refine XS.istore X0.here hexec rfl (hb hbytes d1) rfl rfl ?_
    exact Steps.refl _)
  have loop : ∀ (r i : Nat), i + r = len → ∀ (z : Slot), (z = .unset ∨ ∃ w, z = .val w ∧ w.category = 1) → ∀ (Tl : State) (Bk : Cell), Stand p l e { frames := 0, locals := 0, cells := 0, slots := 0 } s m #[.ref b, .int (Int32.ofNat o), .ref d, .int (Int32.ofNat q), .int (Int32.ofNat len)] below meth c Tl ([] ++ copyLocs d q i) 0 0 → Put d Bk s₁ Tl → Laid B Bk q (q + i) (fun j => Value.int (lo8 (cv A (o + (j - q))))) →
      Steps p.tables e below (s₁.setTop (entryFrame m #[.ref b, .int (Int32.ofNat o), .ref d, .int (Int32.ofNat q), .int (Int32.ofNat len)] 7)) (Tl.setTop (mkF m 3 #[.val (.ref b), .val (.int (Int32.ofNat (o + i))), .val (.ref d), .val (.int (Int32.ofNat (q + i))), .val (.int (Int32.ofNat len)), .val (.int (Int32.ofNat i)), z] [])) → ∃ (T' : State) (B' : Cell) (z' : Slot), Stand p l e { frames := 0, locals := 0, cells := 0, slots := 0 } s m #[.ref b, .int (Int32.ofNat o), .ref d, .int (Int32.ofNat q), .int (Int32.ofNat len)] below meth c T' ([] ++ copyLocs d q len) 0 0 ∧ Put d B' s₁ T' ∧ Laid B B' q (q + len) (fun j => Value.int (lo8 (cv A (o + (j - q))))) ∧
      Steps p.tables e below (s₁.setTop (entryFrame m #[.ref b, .int (Int32.ofNat o), .ref d, .int (Int32.ofNat q), .int (Int32.ofNat len)] 7)) (T'.setTop (mkF m 3 #[.val (.ref b), .val (.int (Int32.ofNat (o + len))), .val (.ref d), .val (.int (Int32.ofNat (q + len))), .val (.int (Int32.ofNat len)), .val (.int (Int32.ofNat len)), z'] [])) := by
    intro r
    induction r with
    | zero =>
      intro i hi z hz Tl Bk Xl pl fl cl
      have hil : i = len := by omega
      rw [hil] at Xl fl cl
      exact ⟨Tl, Bk, z, Xl, pl, fl, cl⟩
    | succ r ih =>
      intro i hi z hz Tl Bk Xl pl fl cl
      have all := X0.warmed.alike.symm.trans Xl.warmed.alike
      have hAl := hA0.keep all (pl.other hne hA0.1)
      have hBk := hB0.like all pl.1 fl.1 fl.2.1 fl.2.2.1
      have hlt : q + i < Bk.slots.size := by rw [fl.2.2.1]; omega
      have c3 : Steps p.tables e below (s₁.setTop (entryFrame m #[.ref b, .int (Int32.ofNat o), .ref d, .int (Int32.ofNat q), .int (Int32.ofNat len)] 7)) (Tl.setTop (mkF m 12 #[.val (.ref b), .val (.int (Int32.ofNat (o + i))), .val (.ref d), .val (.int (Int32.ofNat (q + i))), .val (.int (Int32.ofNat len)), .val (.int (Int32.ofNat i)), z] [.int (Int32.ofNat (o + i)), .ref b])) := cl.trans (by
        refine XS.iload Xl.here hexec rfl (hb hbytes d3) rfl ?_
        refine XS.iload Xl.here hexec rfl (hb hbytes d5) rfl ?_
        refine XS.icmpNo Xl.here hexec rfl (hb hbytes d7) rfl (ii_ge_f (lt32 (by omega) (by omega))) ?_
        refine XS.aloadN Xl.here hexec rfl (hb hbytes d10) rfl rfl ?_
        refine XS.iloadN Xl.here hexec rfl (hb hbytes d11) rfl ?_
        exact Steps.refl _)
      have c4 : Steps p.tables e below (s₁.setTop (entryFrame m #[.ref b, .int (Int32.ofNat o), .ref d, .int (Int32.ofNat q), .int (Int32.ofNat len)] 7)) (Tl.setTop (mkF m 13 #[.val (.ref b), .val (.int (Int32.ofNat (o + i))), .val (.ref d), .val (.int (Int32.ofNat (q + i))), .val (.int (Int32.ofNat len)), .val (.int (Int32.ofNat i)), z] [.int (cv A (o + i))])) := c3.trans (by
        refine Xl.aget hexec hAl rfl (hA.get (i := o + i) (by omega)) rfl rfl (hb hbytes d12) ?_
        exact Steps.refl _)
      have c5 : Steps p.tables e below (s₁.setTop (entryFrame m #[.ref b, .int (Int32.ofNat o), .ref d, .int (Int32.ofNat q), .int (Int32.ofNat len)] 7)) (Tl.setTop (mkF m 15 #[.val (.ref b), .val (.int (Int32.ofNat (o + i))), .val (.ref d), .val (.int (Int32.ofNat (q + i))), .val (.int (Int32.ofNat len)), .val (.int (Int32.ofNat i)), .val (.int (cv A (o + i)))] [])) := c4.trans (by
        refine XS.istoreS Xl.here hexec rfl (hb hbytes d13) rfl rfl hz ?_
        exact Steps.refl _)
      have c6 : Steps p.tables e below (s₁.setTop (entryFrame m #[.ref b, .int (Int32.ofNat o), .ref d, .int (Int32.ofNat q), .int (Int32.ofNat len)] 7)) (Tl.setTop (mkF m 31 #[.val (.ref b), .val (.int (Int32.ofNat (o + i))), .val (.ref d), .val (.int (Int32.ofNat (q + i))), .val (.int (Int32.ofNat len)), .val (.int (Int32.ofNat i)), .val (.int (cv A (o + i)))] [.int (lo8 (cv A (o + i))), .int (Int32.ofNat (q + i)), .ref d])) := c5.trans (by
        refine XS.iload Xl.here hexec rfl (hb hbytes d15) rfl ?_
        refine sipushV Xl.here hexec rfl 255 (hb hbytes d17) (by decide) ?_
        refine XS.icmpYes Xl.here hexec rfl (pc0 := 20) rfl (hb hbytes d20) rfl (ii_le_t (hp i (by omega))) (by decide) rfl ?_
        refine XS.aloadN Xl.here hexec rfl (hb hbytes d26) rfl rfl ?_
        refine XS.iloadN Xl.here hexec rfl (hb hbytes d27) rfl ?_
        refine XS.iload Xl.here hexec rfl (hb hbytes d28) rfl ?_
        refine i2b Xl.here hexec rfl (hb hbytes d30) rfl ?_
        exact Steps.refl _)
      obtain ⟨T7, X7, p7, st7⟩ := Xl.aput hexec hBk rfl hlt rfl (fits_lo8 (cv A (o + i))) (g := (mkF m 31 #[.val (.ref b), .val (.int (Int32.ofNat (o + i))), .val (.ref d), .val (.int (Int32.ofNat (q + i))), .val (.int (Int32.ofNat len)), .val (.int (Int32.ofNat i)), .val (.int (cv A (o + i)))] [.int (lo8 (cv A (o + i))), .int (Int32.ofNat (q + i)), .ref d])) rfl (rest := []) rfl (hb hbytes d31)
      have c8 : Steps p.tables e below (s₁.setTop (entryFrame m #[.ref b, .int (Int32.ofNat o), .ref d, .int (Int32.ofNat q), .int (Int32.ofNat len)] 7)) (T7.setTop (mkF m 32 #[.val (.ref b), .val (.int (Int32.ofNat (o + i))), .val (.ref d), .val (.int (Int32.ofNat (q + i))), .val (.int (Int32.ofNat len)), .val (.int (Int32.ofNat i)), .val (.int (cv A (o + i)))] [])) := c6.trans (st7 _ (Steps.refl _))
      have c9 : Steps p.tables e below (s₁.setTop (entryFrame m #[.ref b, .int (Int32.ofNat o), .ref d, .int (Int32.ofNat q), .int (Int32.ofNat len)] 7)) (T7.setTop (mkF m 3 #[.val (.ref b), .val (.int (Int32.ofNat (o + i) + 1)), .val (.ref d), .val (.int (Int32.ofNat (q + i) + 1)), .val (.int (Int32.ofNat len)), .val (.int (Int32.ofNat i + 1)), .val (.int (cv A (o + i)))] [])) := c8.trans (by
        refine iincV X7.here hexec rfl 1 (hb hbytes d32) (by decide) rfl rfl ?_
        refine iincV X7.here hexec rfl 1 (hb hbytes d35) (by decide) rfl rfl ?_
        refine iincV X7.here hexec rfl 1 (hb hbytes d38) (by decide) rfl rfl ?_
        refine XS.goto X7.here hexec rfl (pc0 := 41) rfl (hb hbytes d41) (by decide) rfl ?_
        exact Steps.refl _)
      have c10 : Steps p.tables e below (s₁.setTop (entryFrame m #[.ref b, .int (Int32.ofNat o), .ref d, .int (Int32.ofNat q), .int (Int32.ofNat len)] 7)) (T7.setTop (mkF m 3 #[.val (.ref b), .val (.int (Int32.ofNat (o + (i + 1)))), .val (.ref d), .val (.int (Int32.ofNat (q + (i + 1)))), .val (.int (Int32.ofNat len)), .val (.int (Int32.ofNat (i + 1))), .val (.int (cv A (o + i)))] [])) := by
        have := c9
        rw [succ32, succ32, succ32] at this
        exact this
      exact ih (i + 1) (by omega) _ (Or.inr ⟨_, rfl, rfl⟩) T7 _ (by rw [copyLocs_step, ← List.append_assoc]; exact X7) (pl.trans p7) (fl.step (by omega) hlt (by simp)) c10
  obtain ⟨T9, B9, z9, X9, p9, f9, g9⟩ := loop len 0 (by omega) .unset (Or.inl rfl) s₁ B (by simpa [copyLocs] using X0) ⟨hB0.1, fun _ _ => rfl, rfl⟩ (Laid.zero _ _ _) c2
  have c11 : Steps p.tables e below (s₁.setTop (entryFrame m #[.ref b, .int (Int32.ofNat o), .ref d, .int (Int32.ofNat q), .int (Int32.ofNat len)] 7)) (T9.setTop (mkF m 46 #[.val (.ref b), .val (.int (Int32.ofNat (o + len))), .val (.ref d), .val (.int (Int32.ofNat (q + len))), .val (.int (Int32.ofNat len)), .val (.int (Int32.ofNat len)), z9] [.int (Int32.ofNat len)])) := g9.trans (by
    refine XS.iload X9.here hexec rfl (hb hbytes d3) rfl ?_
    refine XS.iload X9.here hexec rfl (hb hbytes d5) rfl ?_
    refine XS.icmpYes X9.here hexec rfl (pc0 := 7) rfl (hb hbytes d7) rfl (ii_ge_t (nlt32 (by omega) (Nat.le_refl _))) (by decide) rfl ?_
    refine XS.iload X9.here hexec rfl (hb hbytes d44) rfl ?_
    exact Steps.refl _)
  exact ⟨T9, some (.int (Int32.ofNat len)), _, _, _, X9, by simp, rfl, rfl, (fun h => by cases h), ⟨rfl, B9, p9.from hh0, f9⟩, fun fs hl => c11.trans (X9.ireturnOut hexec hret rfl (Or.inl rfl) (hb hbytes d46) hl)⟩
end Cmp5
namespace Cmp3
def yN : MethodName := ⟨"java/lang/StringUTF16", "compress", "([CII)[B"⟩
abbrev yB : ByteArray := jdk_52_method_16_code
theorem d0 : decode yB 0 = .ok (.iload_n 2, 1) := by decide +kernel
theorem d1 : decode yB 1 = .ok (.newarray .byte, 2) := by decide +kernel
theorem d3 : decode yB 3 = .ok (.astore_n 3, 1) := by decide +kernel
theorem d4 : decode yB 4 = .ok (.aload_n 0, 1) := by decide +kernel
theorem d5 : decode yB 5 = .ok (.iload_n 1, 1) := by decide +kernel
theorem d6 : decode yB 6 = .ok (.aload_n 3, 1) := by decide +kernel
theorem d7 : decode yB 7 = .ok (.iconst 0, 1) := by decide +kernel
theorem d8 : decode yB 8 = .ok (.iload_n 2, 1) := by decide +kernel
theorem d9 : decode yB 9 = .ok (.invokestatic 115, 3) := by decide +kernel
theorem d12 : decode yB 12 = .ok (.istore 4, 2) := by decide +kernel
theorem d14 : decode yB 14 = .ok (.iload 4, 2) := by decide +kernel
theorem d16 : decode yB 16 = .ok (.iload_n 2, 1) := by decide +kernel
theorem d17 : decode yB 17 = .ok (.if_icmp (.eq) 40, 3) := by decide +kernel
theorem d57 : decode yB 57 = .ok (.aload_n 3, 1) := by decide +kernel
theorem d58 : decode yB 58 = .ok (.areturn, 1) := by decide +kernel
def site : List Cond := [.arrayClass .byte, Cmp5.tab] ++ staticW U16 115 Cmp5.yN
def tab : Cond := tabOf yN yB 6 (some (.array .byte)) site
def P (b : Addr) (A : Cell) (o len : Nat) (args : Array Value) (s : State) : Prop := args = #[.ref b, .int (Int32.ofNat o), .int (Int32.ofNat len)] ∧ Ch b A s ∧ o + len ≤ A.slots.size ∧ len ≤ 536870912 ∧ ∀ i, i < len → ¬ 255 < cv A (o + i)
def E (b : Addr) (A : Cell) (o len : Nat) (r : Option Value) (s u : State) : Prop := NewArr .byte "[B" len (fun j => .int (lo8 (cv A (o + j)))) r s u ∧ u.heap.size = s.heap.size + 1
/-- no char of the range above 255: a new byte[] of their low bytes -/
theorem law (l : Launch) (b : Addr) (A : Cell) (o len : Nat) : Law l yN 3 3 1 18 yB 6 (some (.array .byte)) site (P b A o len) (E b A o len) [] 1 len := by
  refine Law.of_walk (plainFor_of_name (by decide +kernel)) (by decide +kernel) (by decide +kernel) (by decide) (fun _ _ h => by rw [h.1]; rfl) (fun _ U U' hal hh h => ⟨h.1, h.2.1.mv hal hh, h.2.2⟩) (fun r U U' V V' h1 hal h2 h => ⟨NewArr.mv r U U' V V' h1 hal h2 h.1, by rw [h1, h2]; exact h.2⟩) ?_
  intro p e s m args below meth c s₁ X0 hexec hbytes hml hret hlk hnm hown hh0 W hP
  obtain ⟨rfl, hA, l1, l2, hp⟩ := hP
  have a31 := hA.1.2.2.2
  have c1 : Steps p.tables e below (s₁.setTop (entryFrame m #[.ref b, .int (Int32.ofNat o), .int (Int32.ofNat len)] 6)) (s₁.setTop (mkF m 0 #[.val (.ref b), .val (.int (Int32.ofNat o)), .val (.int (Int32.ofNat len)), .unset, .unset, .unset] [])) := entry rfl
  have c2 : Steps p.tables e below (s₁.setTop (entryFrame m #[.ref b, .int (Int32.ofNat o), .int (Int32.ofNat len)] 6)) (s₁.setTop (mkF m 1 #[.val (.ref b), .val (.int (Int32.ofNat o)), .val (.int (Int32.ofNat len)), .unset, .unset, .unset] [.int (Int32.ofNat len)])) := c1.trans (by
    refine XS.iloadN X0.here hexec rfl (hb hbytes d0) rfl ?_
    exact Steps.refl _)
  obtain ⟨T3, B3, X3, ba3, bs3, bv3, bh3, bf3, st3⟩ := X0.anew hexec (atype := .byte) (wk W (.arrayClass .byte)) rfl (by show len * 1 ≤ _; omega) (by omega) (g := (mkF m 1 #[.val (.ref b), .val (.int (Int32.ofNat o)), .val (.int (Int32.ofNat len)), .unset, .unset, .unset] [.int (Int32.ofNat len)])) rfl (hb hbytes d1) (rest := []) rfl (Nat.le_refl _) (by show 0 + len ≤ len; omega)
  rw [hh0] at ba3 st3
  have kp3 : XT.Kept s T3 := (XT.Kept.of_eq hh0).push bh3
  have hA3 := hA.keep X3.warmed.alike (kp3 _ _ hA.1.1)
  have hne : b ≠ s.heap.size := hA.1.ne
  have c4 : Steps p.tables e below (s₁.setTop (entryFrame m #[.ref b, .int (Int32.ofNat o), .int (Int32.ofNat len)] 6)) (T3.setTop (mkF m 3 #[.val (.ref b), .val (.int (Int32.ofNat o)), .val (.int (Int32.ofNat len)), .unset, .unset, .unset] [.ref s.heap.size])) := c2.trans (st3 _ (Steps.refl _))
  have c5 : Steps p.tables e below (s₁.setTop (entryFrame m #[.ref b, .int (Int32.ofNat o), .int (Int32.ofNat len)] 6)) (T3.setTop (mkF m 9 #[.val (.ref b), .val (.int (Int32.ofNat o)), .val (.int (Int32.ofNat len)), .val (.ref s.heap.size), .unset, .unset] [.int (Int32.ofNat len), .int 0, .ref s.heap.size, .int (Int32.ofNat o), .ref b])) := c4.trans (by
    refine XS.astoreN X3.here hexec rfl (hb hbytes d3) rfl rfl rfl ?_
    refine XS.aloadN X3.here hexec rfl (hb hbytes d4) rfl rfl ?_
    refine XS.iloadN X3.here hexec rfl (hb hbytes d5) rfl ?_
    refine XS.aloadN X3.here hexec rfl (hb hbytes d6) rfl rfl ?_
    refine iconstV X3.here hexec rfl 0 (hb hbytes d7) (by decide) ?_
    refine XS.iloadN X3.here hexec rfl (hb hbytes d8) rfl ?_
    exact Steps.refl _)
  obtain ⟨v6, T6, X6, E6, g6⟩ := X3.callS hexec (Cmp5.law l b A s.heap.size B3 o 0 len) hown (wks W (staticW U16 115 Cmp5.yN)) (wk W Cmp5.tab) (W := 0) (Nat.le_of_ble_eq_true rfl) (Nat.le_of_ble_eq_true rfl) (Nat.le_refl _) (by show 0 + len + 0 ≤ len; omega) (g := (mkF m 9 #[.val (.ref b), .val (.int (Int32.ofNat o)), .val (.int (Int32.ofNat len)), .val (.ref s.heap.size), .unset, .unset] [.int (Int32.ofNat len), .int (Int32.ofNat 0), .ref s.heap.size, .int (Int32.ofNat o), .ref b])) rfl (by rw [hml]; rfl) c5 (argsL := [.ref b, .int (Int32.ofNat o), .ref s.heap.size, .int (Int32.ofNat 0), .int (Int32.ofNat len)]) (rest := []) rfl rfl (by show 2 * 0 + 0 ≤ _; decide) (hb hbytes d9) (⟨rfl, hA3, ba3, hne, l1, by rw [bs3]; simp, hp⟩)
  obtain ⟨rfl, B6, p6, f6⟩ := E6
  have c7 : Steps p.tables e below (s₁.setTop (entryFrame m #[.ref b, .int (Int32.ofNat o), .int (Int32.ofNat len)] 6)) (T6.setTop (mkF m 12 #[.val (.ref b), .val (.int (Int32.ofNat o)), .val (.int (Int32.ofNat len)), .val (.ref s.heap.size), .unset, .unset] [.int (Int32.ofNat len)])) := g6
  have c8 : Steps p.tables e below (s₁.setTop (entryFrame m #[.ref b, .int (Int32.ofNat o), .int (Int32.ofNat len)] 6)) (T6.setTop (mkF m 58 #[.val (.ref b), .val (.int (Int32.ofNat o)), .val (.int (Int32.ofNat len)), .val (.ref s.heap.size), .val (.int (Int32.ofNat len)), .unset] [.ref s.heap.size])) := c7.trans (by
    refine XS.istore X6.here hexec rfl (hb hbytes d12) rfl rfl ?_
    refine XS.iload X6.here hexec rfl (hb hbytes d14) rfl ?_
    refine XS.iloadN X6.here hexec rfl (hb hbytes d16) rfl ?_
    refine XS.icmpYes X6.here hexec rfl (pc0 := 17) rfl (hb hbytes d17) rfl (ii_eq_t rfl) (by decide) rfl ?_
    refine XS.aloadN X6.here hexec rfl (hb hbytes d57) rfl rfl ?_
    exact Steps.refl _)
  have X8 := X6.wide (L' := []) (cells' := 1) (slots' := len) (fun x hx hlt => by
    simp only [List.nil_append, copyLocs, List.mem_map, List.mem_range] at hx
    obtain ⟨i, -, rfl⟩ := hx
    exact absurd hlt (Nat.lt_irrefl _)) (Nat.le_refl _) (by omega)
  exact ⟨T6, some (.ref s.heap.size), _, _, _, X8, rfl, rfl, rfl, (fun h => by cases h), ⟨⟨rfl, B6, ba3.like (X3.warmed.alike.symm.trans X6.warmed.alike) p6.1 f6.1 f6.2.1 f6.2.2.1, f6.2.1.trans bv3, by rw [X6.warmed.alike.findClass, f6.1]; exact bf3, by rw [f6.2.2.1, bs3]; simp, fun j hj => by rw [f6.2.2.2 j, if_pos (by omega)]; rfl, kp3.put p6 (Nat.le_refl _)⟩, by rw [p6.2.2, bh3, hh0]; simp⟩, fun fs hl => c8.trans (X8.areturnOut hexec rfl hret rfl (hb hbytes d58) hl)⟩
end Cmp3
namespace CodL
def yN : MethodName := ⟨"java/lang/StringUTF16", "coderFromArrayLen", "([BI)B"⟩
abbrev yB : ByteArray := jdk_52_method_15_code
theorem d0 : decode yB 0 = .ok (.iload_n 1, 1) := by decide +kernel
theorem d1 : decode yB 1 = .ok (.aload_n 0, 1) := by decide +kernel
theorem d2 : decode yB 2 = .ok (.arraylength, 1) := by decide +kernel
theorem d3 : decode yB 3 = .ok (.isub, 1) := by decide +kernel
theorem d4 : decode yB 4 = .ok (.bipush 31, 2) := by decide +kernel
theorem d6 : decode yB 6 = .ok (.iushr, 1) := by decide +kernel
theorem d7 : decode yB 7 = .ok (.i2b, 1) := by decide +kernel
theorem d8 : decode yB 8 = .ok (.ireturn, 1) := by decide +kernel
def site : List Cond := []
def tab : Cond := tabOf yN yB 2 (some .byte) site
def P (d : Addr) (B : Cell) (args : Array Value) (s : State) : Prop := args = #[.ref d, .int (Int32.ofNat B.slots.size)] ∧ Arr .byte d B s
def E (r : Option Value) (s u : State) : Prop := XT.PureE (some (.int 0)) r s u
/-- an array as long as the number of chars: LATIN1 -/
theorem law (l : Launch) (d : Addr) (B : Cell) : Law l yN 2 2 0 0 yB 2 (some .byte) site (P d B) E [] 0 0 := by
  refine Law.of_walk (plainFor_of_name (by decide +kernel)) (by decide +kernel) (by decide +kernel) (by decide) (fun _ _ h => by rw [h.1]; rfl) (fun _ U U' hal hh h => ⟨h.1, h.2.mv hal hh⟩) (fun r U U' V V' h1 hal h2 h => XT.PureE.mv r U U' V V' h1 hal h2 h) ?_
  intro p e s m args below meth c s₁ X0 hexec hbytes hml hret hlk hnm hown hh0 W hP
  obtain ⟨rfl, hB⟩ := hP
  have hB0 := hB.mv X0.warmed.alike hh0
  have c1 : Steps p.tables e below (s₁.setTop (entryFrame m #[.ref d, .int (Int32.ofNat B.slots.size)] 2)) (s₁.setTop (mkF m 0 #[.val (.ref d), .val (.int (Int32.ofNat B.slots.size))] [])) := entry rfl
  have c2 : Steps p.tables e below (s₁.setTop (entryFrame m #[.ref d, .int (Int32.ofNat B.slots.size)] 2)) (s₁.setTop (mkF m 2 #[.val (.ref d), .val (.int (Int32.ofNat B.slots.size))] [.ref d, .int (Int32.ofNat B.slots.size)])) := c1.trans (by
    refine XS.iloadN X0.here hexec rfl (hb hbytes d0) rfl ?_
    refine XS.aloadN X0.here hexec rfl (hb hbytes d1) rfl rfl ?_
    exact Steps.refl _)
  have c3 : Steps p.tables e below (s₁.setTop (entryFrame m #[.ref d, .int (Int32.ofNat B.slots.size)] 2)) (s₁.setTop (mkF m 8 #[.val (.ref d), .val (.int (Int32.ofNat B.slots.size))] [.int (lo8 (ushr (Int32.ofNat B.slots.size - Int32.ofNat B.slots.size) 31))])) := c2.trans (by
    refine X0.alen hexec hB0 rfl rfl (hb hbytes d2) ?_
    refine XS.isub X0.here hexec rfl (hb hbytes d3) rfl ?_
    refine bipushV X0.here hexec rfl 31 (hb hbytes d4) (by decide) ?_
    refine iushr X0.here hexec rfl (hb hbytes d6) rfl ?_
    refine i2b X0.here hexec rfl (hb hbytes d7) rfl ?_
    exact Steps.refl _)
  have e0 : lo8 (ushr (Int32.ofNat B.slots.size - Int32.ofNat B.slots.size) 31) = 0 := by rw [Int32.sub_self]; decide
  rw [e0] at c3
  exact ⟨s₁, some (.int 0), _, _, _, X0, rfl, rfl, rfl, (fun h => by cases h), ⟨rfl, hh0⟩, fun fs hl => c3.trans (X0.ireturnOut hexec hret rfl (Or.inr (Or.inr (Or.inl rfl))) (hb hbytes d8) hl)⟩
end CodL
/-- the String at a is Latin-1 over a new byte[] (the heap's one new cell): the low bytes of the len chars of A from o on; every cell but a is kept -/
def Got (a : Addr) (D : Cell) (fV fC : Field) (A : Cell) (o len : Nat) (r : Option Value) (s u : State) : Prop := r = none ∧ ∃ D' V : Cell, Blank "java/lang/String" a D' u ∧ Same D D' [fV.slot, fC.slot] ∧ D'.slots[fV.slot]? = some (.ref s.heap.size) ∧ D'.slots[fC.slot]? = some (.int 0) ∧ Arr .byte s.heap.size V u ∧ V.vm = .none ∧ u.vm.findClass "[B" = some V.cls ∧ V.slots.size = len ∧ (∀ j, j < len → V.slots[j]? = some (.int (lo8 (cv A (o + j))))) ∧ (∀ (y : Addr) (c : Cell), y ≠ a → s.heap[y]? = some c → u.heap[y]? = some c) ∧ u.heap.size = s.heap.size + 1
theorem Got.mv {a : Addr} {D A : Cell} {fV fC : Field} {o len : Nat} : ∀ r (U U' V V' : State), U'.heap = U.heap → V.vm.Alike V'.vm → V'.heap = V.heap → Got a D fV fC A o len r U V → Got a D fV fC A o len r U' V' :=
  fun r U U' V V' h1 hal h2 ⟨e0, D', X, a1, a2, a3, a4, a5, a6, a7, a8, a9, a10, a11⟩ => ⟨e0, D', X, a1.mv hal h2, a2, by rw [h1]; exact a3, a4, by rw [h1]; exact a5.mv hal h2, a6, by rw [hal.findClass]; exact a7, a8, a9, by rw [h1, h2]; exact a10, by rw [h1, h2]; exact a11⟩
namespace New4
def yN : MethodName := ⟨"java/lang/String", "<init>", "([CIILjava/lang/Void;)V"⟩
abbrev yB : ByteArray := jdk_42_method_149_code
theorem d0 : decode yB 0 = .ok (.aload_n 0, 1) := by decide +kernel
theorem d1 : decode yB 1 = .ok (.invokespecial 1, 3) := by decide +kernel
theorem d4 : decode yB 4 = .ok (.iload_n 3, 1) := by decide +kernel
theorem d5 : decode yB 5 = .ok (.ifCond (.ne) 22, 3) := by decide +kernel
theorem d27 : decode yB 27 = .ok (.getstatic 38, 3) := by decide +kernel
theorem d30 : decode yB 30 = .ok (.ifCond (.eq) 28, 3) := by decide +kernel
theorem d33 : decode yB 33 = .ok (.aload_n 1, 1) := by decide +kernel
theorem d34 : decode yB 34 = .ok (.iload_n 2, 1) := by decide +kernel
theorem d35 : decode yB 35 = .ok (.iload_n 3, 1) := by decide +kernel
theorem d36 : decode yB 36 = .ok (.invokestatic 177, 3) := by decide +kernel
theorem d39 : decode yB 39 = .ok (.astore 5, 2) := by decide +kernel
theorem d41 : decode yB 41 = .ok (.aload_n 0, 1) := by decide +kernel
theorem d42 : decode yB 42 = .ok (.aload 5, 2) := by decide +kernel
theorem d44 : decode yB 44 = .ok (.iload_n 3, 1) := by decide +kernel
theorem d45 : decode yB 45 = .ok (.invokestatic 47, 3) := by decide +kernel
theorem d48 : decode yB 48 = .ok (.putfield 15, 3) := by decide +kernel
theorem d51 : decode yB 51 = .ok (.aload_n 0, 1) := by decide +kernel
theorem d52 : decode yB 52 = .ok (.aload 5, 2) := by decide +kernel
theorem d54 : decode yB 54 = .ok (.putfield 9, 3) := by decide +kernel
theorem d57 : decode yB 57 = .ok (.return_, 1) := by decide +kernel
def site : List Cond := [.fieldLink "java/lang/String" 38 "java/lang/String" "COMPACT_STRINGS" "Z", Cmp3.tab, CodL.tab, .laysFinal "java/lang/String" "java/lang/String" "value" "[B", .fieldLink "java/lang/String" 9 "java/lang/String" "value" "[B", .laysFinal "java/lang/String" "java/lang/String" "coder" "B", .fieldLink "java/lang/String" 15 "java/lang/String" "coder" "B"] ++ objW "java/lang/String" 1 ++ staticW "java/lang/String" 177 Cmp3.yN ++ staticW "java/lang/String" 47 CodL.yN
def tab : Cond := tabOf yN yB 6 none site
def P (a : Addr) (D : Cell) (fV fC : Field) (b : Addr) (A : Cell) (z : Int32) (o len : Nat) (args : Array Value) (s : State) : Prop := args = #[.ref a, .ref b, .int (Int32.ofNat o), .int (Int32.ofNat len), .null] ∧ Blank "java/lang/String" a D s ∧ Found "java/lang/String" "value" "[B" fV s ∧ Found "java/lang/String" "coder" "B" fC s ∧ Ch b A s ∧ StaticIs s "java/lang/String" "COMPACT_STRINGS" "Z" (.int z) ∧ ¬ z = 0 ∧ 0 < len ∧ o + len ≤ A.slots.size ∧ len ≤ 536870912 ∧ ∀ i, i < len → ¬ 255 < cv A (o + i)
def E (a : Addr) (D : Cell) (fV fC : Field) (A : Cell) (o len : Nat) (r : Option Value) (s u : State) : Prop := Got a D fV fC A o len r s u
/-- len > 0, no char of the range above 255: a Latin-1 String of their low bytes -/
theorem law (l : Launch) (a : Addr) (D : Cell) (fV fC : Field) (b : Addr) (A : Cell) (z : Int32) (o len : Nat) : Law l yN 5 4 2 35 yB 6 none site (P a D fV fC b A z o len) (E a D fV fC A o len) [⟨a, fC.slot⟩, ⟨a, fV.slot⟩] 1 len := by
  refine Law.of_walk (plainFor_of_name (by decide +kernel)) (by decide +kernel) (by decide +kernel) (by decide) (fun _ _ h => by rw [h.1]; rfl) (fun _ U U' hal hh h => ⟨h.1, h.2.1.mv hal hh, h.2.2.1.al hal, h.2.2.2.1.al hal, h.2.2.2.2.1.mv hal hh, h.2.2.2.2.2.1.there hal hh, h.2.2.2.2.2.2⟩) (fun r U U' V V' h1 hal h2 h => Got.mv r U U' V V' h1 hal h2 h) ?_
  intro p e s m args below meth c s₁ X0 hexec hbytes hml hret hlk hnm hown hh0 W hP
  obtain ⟨rfl, hB, f1, f2, hA, s1, hz, l0, l1, l2, hp⟩ := hP
  have a31 := hA.1.2.2.2
  have c1 : Steps p.tables e below (s₁.setTop (entryFrame m #[.ref a, .ref b, .int (Int32.ofNat o), .int (Int32.ofNat len), .null] 6)) (s₁.setTop (mkF m 0 #[.val (.ref a), .val (.ref b), .val (.int (Int32.ofNat o)), .val (.int (Int32.ofNat len)), .val .null, .unset] [])) := entry rfl
  have c2 : Steps p.tables e below (s₁.setTop (entryFrame m #[.ref a, .ref b, .int (Int32.ofNat o), .int (Int32.ofNat len), .null] 6)) (s₁.setTop (mkF m 1 #[.val (.ref a), .val (.ref b), .val (.int (Int32.ofNat o)), .val (.int (Int32.ofNat len)), .val .null, .unset] [.ref a])) := c1.trans (by
    refine XS.aloadN X0.here hexec rfl (hb hbytes d0) rfl rfl ?_
    exact Steps.refl _)
  obtain ⟨T3, X3, q3, st3⟩ := X0.oinit hexec hown (wks W (objW "java/lang/String" 1)) (g := (mkF m 1 #[.val (.ref a), .val (.ref b), .val (.int (Int32.ofNat o)), .val (.int (Int32.ofNat len)), .val .null, .unset] [.ref a])) rfl (by rw [hml]; rfl) (rest := []) rfl (hb hbytes d1) (W := 0) (by show 2 * 0 + 0 ≤ _; decide) (Nat.le_of_ble_eq_true rfl) (Nat.le_of_ble_eq_true rfl)
  have hh3 := q3.trans hh0
  have c4 : Steps p.tables e below (s₁.setTop (entryFrame m #[.ref a, .ref b, .int (Int32.ofNat o), .int (Int32.ofNat len), .null] 6)) (T3.setTop (mkF m 27 #[.val (.ref a), .val (.ref b), .val (.int (Int32.ofNat o)), .val (.int (Int32.ofNat len)), .val .null, .unset] [])) := (c2.trans (st3 _ (Steps.refl _))).trans (by
    refine XS.iloadN X3.here hexec rfl (hb hbytes d4) rfl ?_
    refine XS.ifYes X3.here hexec rfl (pc0 := 5) rfl (hb hbytes d5) rfl (i0_ne_t (nz32 (by omega) l0)) (by decide) rfl ?_
    exact Steps.refl _)
  obtain ⟨T5, X5, q5, st5⟩ := X3.sget hexec hown (wk W (.fieldLink "java/lang/String" 38 "java/lang/String" "COMPACT_STRINGS" "Z")) s1 (fun _ _ h => by rw [hh3]; exact h) (g := (mkF m 27 #[.val (.ref a), .val (.ref b), .val (.int (Int32.ofNat o)), .val (.int (Int32.ofNat len)), .val .null, .unset] [])) rfl (hb hbytes d27)
  have hh5 := q5.trans hh3
  have c6 : Steps p.tables e below (s₁.setTop (entryFrame m #[.ref a, .ref b, .int (Int32.ofNat o), .int (Int32.ofNat len), .null] 6)) (T5.setTop (mkF m 30 #[.val (.ref a), .val (.ref b), .val (.int (Int32.ofNat o)), .val (.int (Int32.ofNat len)), .val .null, .unset] [.int z])) := c4.trans (st5 _ (Steps.refl _))
  have c7 : Steps p.tables e below (s₁.setTop (entryFrame m #[.ref a, .ref b, .int (Int32.ofNat o), .int (Int32.ofNat len), .null] 6)) (T5.setTop (mkF m 36 #[.val (.ref a), .val (.ref b), .val (.int (Int32.ofNat o)), .val (.int (Int32.ofNat len)), .val .null, .unset] [.int (Int32.ofNat len), .int (Int32.ofNat o), .ref b])) := c6.trans (by
    refine XS.ifNo X5.here hexec rfl (hb hbytes d30) rfl (i0_eq_f hz) ?_
    refine XS.aloadN X5.here hexec rfl (hb hbytes d33) rfl rfl ?_
    refine XS.iloadN X5.here hexec rfl (hb hbytes d34) rfl ?_
    refine XS.iloadN X5.here hexec rfl (hb hbytes d35) rfl ?_
    exact Steps.refl _)
  obtain ⟨v8, T8, X8, E8, g8⟩ := X5.callS hexec (Cmp3.law l b A o len) hown (wks W (staticW "java/lang/String" 177 Cmp3.yN)) (wk W Cmp3.tab) (W := 0) (Nat.le_of_ble_eq_true rfl) (Nat.le_of_ble_eq_true rfl) (Nat.le_refl _) (by show 0 + len ≤ len; omega) (g := (mkF m 36 #[.val (.ref a), .val (.ref b), .val (.int (Int32.ofNat o)), .val (.int (Int32.ofNat len)), .val .null, .unset] [.int (Int32.ofNat len), .int (Int32.ofNat o), .ref b])) rfl (by rw [hml]; rfl) c7 (argsL := [.ref b, .int (Int32.ofNat o), .int (Int32.ofNat len)]) (rest := []) rfl rfl (by show 2 * 0 + 0 ≤ _; decide) (hb hbytes d36) (⟨rfl, hA.mv X5.warmed.alike hh5, l1, l2, hp⟩)
  obtain ⟨e8, z8⟩ := E8
  obtain ⟨rfl, N, n1, n2, n3, n4, n5, n6⟩ := NewArr.mv _ T5 s _ _ hh5.symm (Vm.Alike.refl _) rfl e8
  rw [hh5] at z8
  have hB1 := hB.keep X8.warmed.alike (n6 _ _ hB.1)
  have hne : s.heap.size ≠ a := (Nat.ne_of_lt (Array.getElem?_eq_some_iff.mp hB.1).1).symm
  have c9 : Steps p.tables e below (s₁.setTop (entryFrame m #[.ref a, .ref b, .int (Int32.ofNat o), .int (Int32.ofNat len), .null] 6)) (T8.setTop (mkF m 39 #[.val (.ref a), .val (.ref b), .val (.int (Int32.ofNat o)), .val (.int (Int32.ofNat len)), .val .null, .unset] [.ref s.heap.size])) := g8
  have c10 : Steps p.tables e below (s₁.setTop (entryFrame m #[.ref a, .ref b, .int (Int32.ofNat o), .int (Int32.ofNat len), .null] 6)) (T8.setTop (mkF m 45 #[.val (.ref a), .val (.ref b), .val (.int (Int32.ofNat o)), .val (.int (Int32.ofNat len)), .val .null, .val (.ref s.heap.size)] [.int (Int32.ofNat N.slots.size), .ref s.heap.size, .ref a])) := by
    have hc : Steps p.tables e below (s₁.setTop (entryFrame m #[.ref a, .ref b, .int (Int32.ofNat o), .int (Int32.ofNat len), .null] 6)) (T8.setTop (mkF m 45 #[.val (.ref a), .val (.ref b), .val (.int (Int32.ofNat o)), .val (.int (Int32.ofNat len)), .val .null, .val (.ref s.heap.size)] [.int (Int32.ofNat len), .ref s.heap.size, .ref a])) := c9.trans (by
      refine XS.astore X8.here hexec rfl (hb hbytes d39) rfl rfl rfl ?_
      refine XS.aloadN X8.here hexec rfl (hb hbytes d41) rfl rfl ?_
      refine XS.aload X8.here hexec rfl (hb hbytes d42) rfl rfl ?_
      refine XS.iloadN X8.here hexec rfl (hb hbytes d44) rfl ?_
      exact Steps.refl _)
    rw [n4]; exact hc
  obtain ⟨v11, T11, X11, E11, g11⟩ := X8.callS hexec (CodL.law l s.heap.size N) hown (wks W (staticW "java/lang/String" 47 CodL.yN)) (wk W CodL.tab) (W := 1) (Nat.le_of_ble_eq_true rfl) (Nat.le_of_ble_eq_true rfl) (Nat.le_refl _) (by show 0 + len + 0 ≤ len; omega) (g := (mkF m 45 #[.val (.ref a), .val (.ref b), .val (.int (Int32.ofNat o)), .val (.int (Int32.ofNat len)), .val .null, .val (.ref s.heap.size)] [.int (Int32.ofNat N.slots.size), .ref s.heap.size, .ref a])) rfl (by rw [hml]; rfl) c10 (argsL := [.ref s.heap.size, .int (Int32.ofNat N.slots.size)]) (rest := [.ref a]) rfl rfl (by show 2 * 0 + (1 + 0) ≤ _; decide) (hb hbytes d45) (⟨rfl, n1⟩)
  obtain ⟨rfl, q11⟩ := E11
  have hB11 := hB1.mv (X8.warmed.alike.symm.trans X11.warmed.alike) q11
  have c12 : Steps p.tables e below (s₁.setTop (entryFrame m #[.ref a, .ref b, .int (Int32.ofNat o), .int (Int32.ofNat len), .null] 6)) (T11.setTop (mkF m 48 #[.val (.ref a), .val (.ref b), .val (.int (Int32.ofNat o)), .val (.int (Int32.ofNat len)), .val .null, .val (.ref s.heap.size)] [.int 0, .ref a])) := g11
  obtain ⟨T13, X13, p13, bl13, sl13, st13⟩ := X11.finit hexec hown (wk W (.fieldLink "java/lang/String" 15 "java/lang/String" "coder" "B")) (Or.inr ⟨_, (wk W (.laysFinal "java/lang/String" "java/lang/String" "coder" "B"))⟩) (Or.inl ⟨rfl, hnm⟩) f2 (Or.inl rfl) hB11 (t := .byte) (by decide +kernel) rfl (g := (mkF m 48 #[.val (.ref a), .val (.ref b), .val (.int (Int32.ofNat o)), .val (.int (Int32.ofNat len)), .val .null, .val (.ref s.heap.size)] [.int 0, .ref a])) rfl (rest := []) rfl (hb hbytes d48)
  have c14 : Steps p.tables e below (s₁.setTop (entryFrame m #[.ref a, .ref b, .int (Int32.ofNat o), .int (Int32.ofNat len), .null] 6)) (T13.setTop (mkF m 54 #[.val (.ref a), .val (.ref b), .val (.int (Int32.ofNat o)), .val (.int (Int32.ofNat len)), .val .null, .val (.ref s.heap.size)] [.ref s.heap.size, .ref a])) := (c12.trans (st13 _ (Steps.refl _))).trans (by
    refine XS.aloadN X13.here hexec rfl (hb hbytes d51) rfl rfl ?_
    refine XS.aload X13.here hexec rfl (hb hbytes d52) rfl rfl ?_
    exact Steps.refl _)
  obtain ⟨T15, X15, p15, bl15, sl15, st15⟩ := X13.finit hexec hown (wk W (.fieldLink "java/lang/String" 9 "java/lang/String" "value" "[B")) (Or.inr ⟨_, (wk W (.laysFinal "java/lang/String" "java/lang/String" "value" "[B"))⟩) (Or.inl ⟨rfl, hnm⟩) f1 (Or.inl rfl) bl13 (t := (.array .byte)) (by decide +kernel) rfl (g := (mkF m 54 #[.val (.ref a), .val (.ref b), .val (.int (Int32.ofNat o)), .val (.int (Int32.ofNat len)), .val .null, .val (.ref s.heap.size)] [.ref s.heap.size, .ref a])) rfl (rest := []) rfl (hb hbytes d54)
  have c16 : Steps p.tables e below (s₁.setTop (entryFrame m #[.ref a, .ref b, .int (Int32.ofNat o), .int (Int32.ofNat len), .null] 6)) (T15.setTop (mkF m 57 #[.val (.ref a), .val (.ref b), .val (.int (Int32.ofNat o)), .val (.int (Int32.ofNat len)), .val .null, .val (.ref s.heap.size)] [])) := c14.trans (st15 _ (Steps.refl _))
  have ap := apart (Or.inr ⟨_, (wk W (.laysFinal "java/lang/String" "java/lang/String" "value" "[B"))⟩) (Or.inr ⟨_, (wk W (.laysFinal "java/lang/String" "java/lang/String" "coder" "B"))⟩) f1 f2 (t₁ := .array .byte) (t₂ := .byte) (by decide +kernel) (by decide +kernel) (by decide)
  have al := X8.warmed.alike.symm.trans X15.warmed.alike
  have n7 : T11.heap[s.heap.size]? = some N := by rw [q11]; exact n1.1
  exact ⟨T15, none, _, _, _, X15, by simp, rfl, by omega, (fun _ => rfl), ⟨rfl, _, N, bl15, ((Same.refl D _).set _ (by simp)).set _ (by simp), sl15, (Cell.slots_setSlot_ne _ ap).trans sl13, n1.keep al (p15.other hne (p13.other hne n7)), n2, by rw [al.findClass]; exact n3, n4, n5, fun y c h1 h2 => p15.other h1 (p13.other h1 (by rw [q11]; exact n6 y c h2)), by rw [p15.2.2, p13.2.2, q11]; exact z8⟩, fun fs hl => c16.trans (X15.returnOut hexec hret (hb hbytes d57) hl)⟩
end New4
namespace New1
def yN : MethodName := ⟨"java/lang/String", "<init>", "([C)V"⟩
abbrev yB : ByteArray := jdk_42_method_3_code
theorem d0 : decode yB 0 = .ok (.aload_n 0, 1) := by decide +kernel
theorem d1 : decode yB 1 = .ok (.aload_n 1, 1) := by decide +kernel
theorem d2 : decode yB 2 = .ok (.iconst 0, 1) := by decide +kernel
theorem d3 : decode yB 3 = .ok (.aload_n 1, 1) := by decide +kernel
theorem d4 : decode yB 4 = .ok (.arraylength, 1) := by decide +kernel
theorem d5 : decode yB 5 = .ok (.aconst_null, 1) := by decide +kernel
theorem d6 : decode yB 6 = .ok (.invokespecial 27, 3) := by decide +kernel
theorem d9 : decode yB 9 = .ok (.return_, 1) := by decide +kernel
def site : List Cond := [New4.tab] ++ initW "java/lang/String" 27 New4.yN
def tab : Cond := tabOf yN yB 2 none site
def P (a : Addr) (D : Cell) (fV fC : Field) (b : Addr) (A : Cell) (z : Int32) (args : Array Value) (s : State) : Prop := args = #[.ref a, .ref b] ∧ Blank "java/lang/String" a D s ∧ Found "java/lang/String" "value" "[B" fV s ∧ Found "java/lang/String" "coder" "B" fC s ∧ Ch b A s ∧ StaticIs s "java/lang/String" "COMPACT_STRINGS" "Z" (.int z) ∧ ¬ z = 0 ∧ 0 < A.slots.size ∧ A.slots.size ≤ 536870912 ∧ ∀ i, i < A.slots.size → ¬ 255 < cv A i
def E (a : Addr) (D : Cell) (fV fC : Field) (A : Cell) (r : Option Value) (s u : State) : Prop := Got a D fV fC A 0 A.slots.size r s u
/-- new String(chars), not empty, no char above 255: a Latin-1 String of their low bytes -/
theorem law (l : Launch) (a : Addr) (D : Cell) (fV fC : Field) (b : Addr) (A : Cell) (z : Int32) : Law l yN 2 1 3 52 yB 2 none site (P a D fV fC b A z) (E a D fV fC A) [⟨a, fC.slot⟩, ⟨a, fV.slot⟩] 1 A.slots.size := by
  refine Law.of_walk (plainFor_of_name (by decide +kernel)) (by decide +kernel) (by decide +kernel) (by decide) (fun _ _ h => by rw [h.1]; rfl) (fun _ U U' hal hh h => ⟨h.1, h.2.1.mv hal hh, h.2.2.1.al hal, h.2.2.2.1.al hal, h.2.2.2.2.1.mv hal hh, h.2.2.2.2.2.1.there hal hh, h.2.2.2.2.2.2⟩) (fun r U U' V V' h1 hal h2 h => Got.mv r U U' V V' h1 hal h2 h) ?_
  intro p e s m args below meth c s₁ X0 hexec hbytes hml hret hlk hnm hown hh0 W hP
  obtain ⟨rfl, hB, f1, f2, hA, s1, hz, l0, l2, hp⟩ := hP
  have c1 : Steps p.tables e below (s₁.setTop (entryFrame m #[.ref a, .ref b] 2)) (s₁.setTop (mkF m 0 #[.val (.ref a), .val (.ref b)] [])) := entry rfl
  have c2 : Steps p.tables e below (s₁.setTop (entryFrame m #[.ref a, .ref b] 2)) (s₁.setTop (mkF m 6 #[.val (.ref a), .val (.ref b)] [.null, .int (Int32.ofNat A.slots.size), .int 0, .ref b, .ref a])) := c1.trans (by
    refine XS.aloadN X0.here hexec rfl (hb hbytes d0) rfl rfl ?_
    refine XS.aloadN X0.here hexec rfl (hb hbytes d1) rfl rfl ?_
    refine iconstV X0.here hexec rfl 0 (hb hbytes d2) (by decide) ?_
    refine XS.aloadN X0.here hexec rfl (hb hbytes d3) rfl rfl ?_
    refine X0.alen hexec (hA.1.mv X0.warmed.alike hh0) rfl rfl (hb hbytes d4) ?_
    refine XS.aconstNull X0.here hexec rfl (hb hbytes d5) ?_
    exact Steps.refl _)
  obtain ⟨v3, T3, X3, E3, g3⟩ := X0.callN hexec (New4.law l a D fV fC b A z 0 A.slots.size) rfl hown (wks W (initW "java/lang/String" 27 New4.yN)) (W New4.tab (by simp only [site, List.mem_cons, List.mem_append, true_or, or_true])) (W := 0) (Nat.le_of_ble_eq_true rfl) (Nat.le_of_ble_eq_true rfl) (Nat.le_refl _) (by show 0 + A.slots.size ≤ A.slots.size; omega) (g := (mkF m 6 #[.val (.ref a), .val (.ref b)] [.null, .int (Int32.ofNat A.slots.size), .int (Int32.ofNat 0), .ref b, .ref a])) rfl (by rw [hml]; rfl) c2 (argsL := [.ref b, .int (Int32.ofNat 0), .int (Int32.ofNat A.slots.size), .null]) (rest := []) rfl rfl (by show 2 * 0 + 0 ≤ _; decide) (hb hbytes d6) (⟨rfl, hB.mv X0.warmed.alike hh0, f1.al X0.warmed.alike, f2.al X0.warmed.alike, hA.mv X0.warmed.alike hh0, s1.there X0.warmed.alike hh0, hz, l0, by omega, l2, fun i hi => by rw [Nat.zero_add]; exact hp i hi⟩)
  have e0 := Got.mv _ s₁ s _ _ hh0.symm (Vm.Alike.refl _) rfl E3
  obtain rfl := e0.1
  have c4 : Steps p.tables e below (s₁.setTop (entryFrame m #[.ref a, .ref b] 2)) (T3.setTop (mkF m 9 #[.val (.ref a), .val (.ref b)] [])) := g3
  exact ⟨T3, none, _, _, _, X3, by simp, rfl, by omega, (fun _ => rfl), e0, fun fs hl => c4.trans (X3.returnOut hexec hret (hb hbytes d9) hl)⟩
theorem pays {l : Launch} {R : Room} {p : Program} {e : Env} {below : List Frame} {s : State} {sargs : Array Value} {len W : Nat} (a : Addr) (D : Cell) (fV fC : Field) (b : Addr) (A : Cell) (z : Int32) (htab : tab.before sargs s = true) (hfr : 4 ≤ R.frames) (hlo : W + 65 ≤ R.locals) :
    Back l R p e below s sargs yN len W (fun A₁ a₁ => A₁.cells + 1 ≤ R.cells ∧ A₁.slots + A.slots.size ≤ R.slots ∧ P a D fV fC b A z a₁ A₁.U) (fun A₁ _ v₁ B₁ => E a D fV fC A v₁ A₁.U B₁.U ∧ B₁.locs = A₁.locs ++ [⟨a, fC.slot⟩, ⟨a, fV.slot⟩] ∧ B₁.cells = A₁.cells + 1 ∧ B₁.slots = A₁.slots + A.slots.size) :=
  (law l a D fV fC b A z).pays htab hfr (by omega)
end New1
end StrChars
namespace StrChars.Road
open Jvm Sem ClassFile Op Lib Jvm.Stand Jvm.Free Jvm.Free.XT
open Jvm.Lib.Cold (StaticIs)
abbrev ST : String := "java/lang/String"
/-- every table word that New1's law asks, flat -/
abbrev words : List Jvm.Cond := [.code New1.yN New1.yB 2 none, .initialized ST, .methodLink ST 27 New4.yN, .instanceMethod New4.yN,
  .code New4.yN New4.yB 6 none, .fieldLink ST 38 ST "COMPACT_STRINGS" "Z", .laysFinal ST ST "value" "[B", .fieldLink ST 9 ST "value" "[B", .laysFinal ST ST "coder" "B", .fieldLink ST 15 ST "coder" "B",
  .methodLink ST 1 Lib.objectInit, .instanceMethod Lib.objectInit, .code Lib.objectInit ⟨#[0xb1]⟩ 1 none, .methodLink ST 177 Cmp3.yN, .static Cmp3.yN, .methodLink ST 47 CodL.yN, .static CodL.yN,
  .code Cmp3.yN Cmp3.yB 6 (some (.array .byte)), .initialized U16, .arrayClass .byte, .methodLink U16 115 Cmp5.yN, .static Cmp5.yN, .code Cmp5.yN Cmp5.yB 7 (some .int), .code CodL.yN CodL.yB 2 (some .byte)]
theorem tab_of {a : Array Value} {s : State} (h : ∀ w ∈ words, w.before a s = true) : New1.tab.before a s = true := by
  have h5 : Cmp5.tab.before a s = true := unparts (wk h (.code Cmp5.yN Cmp5.yB 7 (some .int))) (wks h (.initialized Cmp5.yN.cls :: Cmp5.site))
  have hc : CodL.tab.before a s = true := unparts (wk h (.code CodL.yN CodL.yB 2 (some .byte))) (wks h (.initialized CodL.yN.cls :: CodL.site))
  have q5 : ∀ w ∈ Cmp5.tab :: words, w.before a s = true := fun w hw => (List.mem_cons.mp hw).elim (fun e => e ▸ h5) (h w)
  have h3 : Cmp3.tab.before a s = true := unparts (wk q5 (.code Cmp3.yN Cmp3.yB 6 (some (.array .byte)))) (wks q5 (.initialized Cmp3.yN.cls :: Cmp3.site))
  have q3 : ∀ w ∈ Cmp3.tab :: CodL.tab :: words, w.before a s = true := fun w hw => (List.mem_cons.mp hw).elim (fun e => e ▸ h3) fun hw => (List.mem_cons.mp hw).elim (fun e => e ▸ hc) (h w)
  have h4 : New4.tab.before a s = true := unparts (wk q3 (.code New4.yN New4.yB 6 none)) (wks q3 (.initialized New4.yN.cls :: New4.site))
  have q4 : ∀ w ∈ New4.tab :: words, w.before a s = true := fun w hw => (List.mem_cons.mp hw).elim (fun e => e ▸ h4) (h w)
  exact unparts (wk q4 (.code New1.yN New1.yB 2 none)) (wks q4 (.initialized New1.yN.cls :: New1.site))
/-- the words ride from the start Z to the walk's own state -/
theorem moved {Z s : State} {a0 args : Array Value} (hZ : Z.Warmed39 s.vm) (hw : ∀ d ∈ words, d.before a0 Z = true) : ∀ d ∈ words, d.before args s = true := fun d hd => by
  have q := hw d hd
  have t : ∀ d ∈ words, d = .arrayClass .byte ∨ (d.onTables && d.keepsFace) = true := by decide +kernel
  rcases t d hd with rfl | t
  · exact RoadKit.mvA hZ q
  · exact RoadKit.mv hZ q t
/-- WHAT COMES BACK, over the tables of the start Z: h the heap at the call, h' behind it -/
def Q (Z : State) (x : Addr) (A : Cell) (h : Heap) (v : Option Value) (h' : Heap) (L : List Loc) : Prop := v = none ∧ (∀ y ∈ L, y.base = x) ∧ RoadKit.Keep h h' [x] ∧ h'.size = h.size + 1 ∧ RoadKit.Exa Z h' x ST ∧ RoadKit.Fld Z h' x ST "value" "[B" (.ref h.size) ∧ RoadKit.Fld Z h' x ST "coder" "B" (.int 0) ∧
  (∃ V : Cell, RoadKit.Arr Z h' h.size V .byte ∧ V.vm = .none ∧ Z.vm.findClass "[B" = some V.cls ∧ V.slots.size = A.slots.size ∧ ∀ j, j < A.slots.size → V.slots[j]? = some (.int (lo8 (cv A j)))) ∧
  ∀ (O n d : String) (w : Value), RoadKit.Fld Z h x O n d w → RoadKit.slotOf Z O n d ≠ RoadKit.slotOf Z ST "value" "[B" → RoadKit.slotOf Z O n d ≠ RoadKit.slotOf Z ST "coder" "B" → RoadKit.Fld Z h' x O n d w
/-- **new String(chars) AT A CALL, IN THE ROAD'S FORM**: for specialBack behind newO: x the fresh String, b the char[] with the cell A -/
theorem back {p : Program} {l : Launch} {e : Env} {R : Room} {s : State} {args : Array Value} {below : List Frame} {len W : Nat} {Z : State} {a0 : Array Value} {h : Heap} (hZ : Z.Warmed39 s.vm) (hw : ∀ d ∈ words, d.before a0 Z = true) {kI : Nat} (wi : (Jvm.Cond.instantiable ST kI).before a0 Z = true)
    {x b : Addr} {A : Cell} {z : Int32} {v0 c0 : Value} (E : RoadKit.Exa Z h x ST) (V : RoadKit.Fld Z h x ST "value" "[B" v0) (C : RoadKit.Fld Z h x ST "coder" "B" c0) (K : RoadKit.Arr Z h b A .char) (hty : Typed .char A) (S : RoadKit.Sta Z h ST "COMPACT_STRINGS" "Z" (.int z)) (hz : ¬ z = 0)
    (l0 : 0 < A.slots.size) (l2 : A.slots.size ≤ 536870912) (hp : ∀ i, i < A.slots.size → ¬ 255 < cv A i) (hfr : 4 ≤ R.frames) (hlo : W + 65 ≤ R.locals) :
    Back l R p e below s args New1.yN len W (fun P a => a = #[.ref x, .ref b] ∧ P.U.heap = h ∧ P.cells + 1 ≤ R.cells ∧ P.slots + A.slots.size ≤ R.slots)
      (fun P _ v B => ∃ L, Q Z x A h v B.U.heap L ∧ B.locs = P.locs ++ L ∧ B.cells = P.cells + 1 ∧ B.slots = P.slots + A.slots.size) := by
  intro m meth c P g ig mk a X hg hsize hdg hW hn hp'
  obtain ⟨rfl, rfl, r1, r2⟩ := hp'
  have al : Z.vm.Alike P.U.vm := hZ.alike.trans X.warmed.alike
  obtain ⟨D, cfV, kV, iV, fV, hD, gV, stV, knV, obV, asV, slV⟩ := id V
  obtain ⟨D', cfC, kC, iC, fC, hD', gC, stC, -, -, asC, slC⟩ := id C
  cases hD.symm.trans hD'
  obtain ⟨D2, kD, e1, e2, e3, e4, e5⟩ := id E
  cases hD.symm.trans e1
  obtain ⟨c2, k2, i1, i2, i3, -⟩ := Cond.instantiable_spec wi
  cases e2.symm.trans i1
  cases e3.symm.trans i2
  obtain ⟨kU, u1, u2⟩ := al.2.2 _ _ e3
  have hB : Blank ST x D P.U := ⟨hD, ⟨knV, fun q hq => by rw [hq] at obV; cases obV⟩, by rw [al.findClass]; exact e2, kU, u1, by rw [u2]; exact i3, by rw [u2]; exact e5 i3⟩
  have F1 : Found ST "value" "[B" fV P.U := ⟨SBG.found_only al ⟨cfV, kV, iV, gV⟩, stV⟩
  have F2 : Found ST "coder" "B" fC P.U := ⟨SBG.found_only al ⟨cfC, kC, iC, gC⟩, stC⟩
  have hA : Ch b A P.U := ⟨⟨K.1, State.isArrayOf_alike al K.2.1, K.2.2, by omega⟩, hty⟩
  have hS : StaticIs P.U ST "COMPACT_STRINGS" "Z" (.int z) := by
    obtain ⟨cfS, iS, kS, fS, st, cS, t1, t2, t3, t4, t5, t6, t7⟩ := S
    exact StaticIs.there (s := { Z with heap := P.U.heap }) ⟨cfS, iS, kS, fS, st, cS, t1, t2, t3, t4, t5, (fun q => by rw [q] at t6; cases t6), t7⟩ al rfl
  obtain ⟨v, B, X', ⟨⟨hv, E', V', q1, q2, q3, q4, q5, q6, q7, q8, q9, q10, q11⟩, hl, hc, hs⟩, st⟩ := New1.pays x D fV fC b A z (tab_of (moved hZ hw)) hfr hlo m meth c P g ig mk _ X hg hsize hdg hW hn ⟨r1, r2, rfl, hB, F1, F2, hA, hS, hz, l0, l2, hp⟩
  have al' : Z.vm.Alike B.U.vm := hZ.alike.trans X'.warmed.alike
  have hsz : E'.slots.size = D.slots.size := by
    obtain ⟨-, -, -, kB, w1, w2, w3⟩ := q1
    obtain ⟨kB', y1, y2⟩ := al'.2.2 _ _ e3
    rw [q2.2.1] at w1
    cases w1.symm.trans y1
    rw [w3, e5 i3, y2]
  refine ⟨v, B, X', ⟨_, ⟨hv, ?_, ⟨by omega, fun y cy hy hn' => q10 y cy (by simpa using hn') hy, fun y cy hy => ?_⟩, q11, ⟨E', _, q1.1, by rw [q2.2.1]; exact e2, by rw [q2.2.1]; exact e3, by rw [q2.1]; exact obV, fun _ => by rw [hsz]; exact e5 i3⟩,
    ⟨E', cfV, kV, iV, fV, q1.1, gV, stV, by rw [q2.1]; exact knV, by rw [q2.1]; exact obV, by rw [q2.2.1]; exact asV, q3⟩, ⟨E', cfC, kC, iC, fC, q1.1, gC, stC, by rw [q2.1]; exact knV, by rw [q2.1]; exact obV, by rw [q2.2.1]; exact asC, q4⟩,
    ⟨V', ⟨q5.1, State.isArrayOf_alike al'.symm q5.2.1, q5.2.2.1⟩, q6, by rw [← al'.findClass]; exact q7, q8, fun j hj => by have := q9 j hj; rwa [Nat.zero_add] at this⟩, fun O n d w F n1 n2 => ?_⟩, hl, hc, hs⟩, st⟩
  · intro y hy
    simp only [List.mem_cons, List.not_mem_nil, or_false] at hy
    rcases hy with rfl | rfl <;> rfl
  · by_cases q : y = x
    · subst q
      cases hD.symm.trans hy
      exact ⟨E', q1.1, q2.2.1, q2.1, hsz⟩
    · exact ⟨cy, q10 y cy q hy, rfl, rfl, rfl⟩
  · obtain ⟨D3, cf, k, i, f, g1, g2, g3, g4, g5, g6, g7⟩ := F
    cases hD.symm.trans g1
    simp only [RoadKit.slotOf, g2, gV, gC, Option.map_some, Option.getD_some] at n1 n2
    exact ⟨E', cf, k, i, f, q1.1, g2, g3, by rw [q2.1]; exact g4, by rw [q2.1]; exact g5, by rw [q2.2.1]; exact g6, by rw [q2.2.2 f.slot (by simp [n1, n2])]; exact g7⟩
end StrChars.Road
namespace StrChars.Road
open Jvm Sem ClassFile Op Lib Jvm.Stand Jvm.Free Jvm.Free.XT
/-- WHAT COMES BACK, the byte[] as a list of values -/
def QA (Z : State) (x : Addr) (zn : Int32) (cs : List Int32) (h : Heap) (v : Option Value) (h' : Heap) (L : List Loc) : Prop := v = none ∧ (∀ y ∈ L, y.base = x) ∧ RoadKit.Keep h h' [x] ∧ h'.size = h.size + 1 ∧ RoadKit.Exa Z h' x ST ∧ RoadKit.Fld Z h' x ST "value" "[B" (.ref h.size) ∧ RoadKit.Fld Z h' x ST "coder" "B" (.int 0) ∧
  (∃ kb, Z.vm.findClass "[B" = some kb ∧ RoadKit.Arv Z h' h.size kb .byte zn (cs.map fun c => .int (lo8 c)) (.int 0)) ∧
  ∀ (O n d : String) (w : Value), RoadKit.Fld Z h x O n d w → RoadKit.slotOf Z O n d ≠ RoadKit.slotOf Z ST "value" "[B" → RoadKit.slotOf Z O n d ≠ RoadKit.slotOf Z ST "coder" "B" → RoadKit.Fld Z h' x O n d w
/-- **new String(chars) AT A CALL, THE ARRAYS AS LISTS**: the char[] at b holds cs, not empty, no char above 255 -/
theorem backArv {p : Program} {l : Launch} {e : Env} {R : Room} {s : State} {args : Array Value} {below : List Frame} {len W : Nat} {Z : State} {a0 : Array Value} {h : Heap} (hZ : Z.Warmed39 s.vm) (hw : ∀ d ∈ words, d.before a0 Z = true) {kI : Nat} (wi : (Jvm.Cond.instantiable ST kI).before a0 Z = true)
    {x b : Addr} {k : ClassId} {zn z : Int32} {cs : List Int32} {dv v0 c0 : Value} (E : RoadKit.Exa Z h x ST) (V : RoadKit.Fld Z h x ST "value" "[B" v0) (C : RoadKit.Fld Z h x ST "coder" "B" c0) (K : RoadKit.Arv Z h b k .char zn (cs.map Value.int) dv) (S : RoadKit.Sta Z h ST "COMPACT_STRINGS" "Z" (.int z)) (hz : ¬ z = 0)
    (hlen : zn.toNatClampNeg = cs.length) (h0 : 0 < cs.length) (hbig : cs.length ≤ 536870912) (hall : ∀ c ∈ cs, ¬ 255 < c) (hfr : 4 ≤ R.frames) (hlo : W + 65 ≤ R.locals) :
    Back l R p e below s args New1.yN len W (fun P a => a = #[.ref x, .ref b] ∧ P.U.heap = h ∧ P.cells + 1 ≤ R.cells ∧ P.slots + cs.length ≤ R.slots)
      (fun P _ v B => ∃ L, QA Z x zn cs h v B.U.heap L ∧ B.locs = P.locs ++ L ∧ B.cells = P.cells + 1 ∧ B.slots = P.slots + cs.length) := by
  obtain ⟨A, K1, K2, K3, K4, K5, K6⟩ := K
  have e : A.slots.size = cs.length := K3.trans hlen
  have hat : ∀ (i : Nat) (hi : i < cs.length), A.slots[i]? = some (.int cs[i]) := fun i hi => by rw [K5 i (by omega)]; simp [List.getD_eq_getElem?_getD, hi]
  have hcv : ∀ (i : Nat) (hi : i < cs.length), cv A i = cs[i] := fun i hi => by unfold cv; rw [hat i hi]
  have hty : Typed .char A := fun i v hv => by
    have hi : i < A.slots.size := (Array.getElem?_eq_some_iff.mp hv).1
    have q := K5 i hi
    rw [hv] at q
    rw [Option.some.inj q]
    exact K6 i hi
  refine Back.mono (back hZ hw wi E V C K1 hty S hz (by omega) (by omega) (fun i hi => by rw [hcv i (by omega)]; exact hall _ (List.getElem_mem _)) hfr hlo) (fun P a hp => ⟨hp.1, hp.2.1, hp.2.2.1, by rw [e]; exact hp.2.2.2⟩) (fun P a v B hp hq => ?_)
  obtain ⟨L, ⟨q1, q2, q3, q4, q5, q6, q7, ⟨V', v1, v2, v3, v4, v5⟩, q9⟩, hl, hc, hs⟩ := hq
  refine ⟨L, ⟨q1, q2, q3, q4, q5, q6, q7, ⟨V'.cls, v3, V', v1, rfl, by rw [v4, e, hlen], K4, fun i hi => ?_, fun i hi => ?_⟩, q9⟩, hl, hc, by rw [hs, e]⟩
  · have hi' : i < cs.length := by omega
    rw [v5 i (by omega), hcv i hi']; simp [List.getD_eq_getElem?_getD, hi']
  · have hi' : i < cs.length := by omega
    simp only [List.getD_eq_getElem?_getD, List.getElem?_map, List.getElem?_eq_getElem hi', Option.map_some, Option.getD_some]
    exact fits_lo8 _
end StrChars.Road
namespace StrChars.Road
open Jvm Sem ClassFile Op Lib Jvm.Stand Jvm.Free Jvm.Free.XT
/-- WHAT COMES BACK, in the writer's own shape -/
def QV (Z : State) (x : Addr) (N : Int32) (bs : List Int32) (h : Heap) (n0 : Nat) (v : Option Value) (h' : Heap) (L : List Loc) : Prop := v = none ∧ RoadKit.Fr n0 L ∧ RoadKit.Keep h h' [x] ∧ RoadKit.Exa Z h' x ST ∧ RoadKit.Fld Z h' x ST "coder" "B" (.int 0) ∧
  ∃ (t : Addr) (kb : ClassId), n0 ≤ t ∧ h.size ≤ t ∧ ¬ t = x ∧ RoadKit.Fld Z h' x ST "value" "[B" (.ref t) ∧ RoadKit.Arv Z h' t kb .byte N (bs.map Value.int) (.int 0)
/-- **new String(chars) AT A CALL, FOR THE WRITER**: a char[] of n known ints, each 0 to 255 -/
theorem backV {p : Program} {l : Launch} {e : Env} {R : Room} {s : State} {args : Array Value} {below : List Frame} {len W : Nat} {Z : State} {a0 : Array Value} {h : Heap} (hZ : Z.Warmed39 s.vm) (hw : ∀ d ∈ words, d.before a0 Z = true) {kI : Nat} (wi : (Jvm.Cond.instantiable ST kI).before a0 Z = true)
    {x b : Addr} {kC : ClassId} {cs bs : List Int32} {d v0 c0 : Value} {z N : Int32} {n n0 : Nat} (hx0 : n0 ≤ x) (hh0 : n0 ≤ h.size) (E : RoadKit.Exa Z h x ST) (V : RoadKit.Fld Z h x ST "value" "[B" v0) (C : RoadKit.Fld Z h x ST "coder" "B" c0) (K : RoadKit.Arv Z h b kC .char N (cs.map Value.int) d) (S : RoadKit.Sta Z h ST "COMPACT_STRINGS" "Z" (.int z)) (hz : ¬ z = 0)
    (hn : cs.length = n) (hN : N = Int32.ofNat n) (l0 : 0 < n) (l2 : n ≤ 4000) (hp : ∀ c ∈ cs, ¬ c < 0 ∧ ¬ (255 : Int32) < c) (hb : bs = cs.map (fun c => c.toInt8.toInt32)) (hfr : 4 ≤ R.frames) (hlo : W + 65 ≤ R.locals) :
    Back l R p e below s args (⟨"java/lang/String", "<init>", "([C)V"⟩ : MethodName) len W (fun P a => a = #[.ref x, .ref b] ∧ P.U.heap = h ∧ P.cells + 1 ≤ R.cells ∧ P.slots + n ≤ R.slots)
      (fun P _ v B => ∃ L, QV Z x N bs h n0 v B.U.heap L ∧ B.locs = P.locs ++ L ∧ B.cells = P.cells + 1 ∧ B.slots = P.slots + n) := by
  subst hn hN hb
  refine Back.mono (backArv hZ hw wi E V C K S hz (n32 (by omega)) l0 (by omega) (fun c hc => (hp c hc).2) hfr hlo) (fun P a hp => hp) (fun P a v B hp hq => ?_)
  obtain ⟨L, ⟨q1, q2, q3, q4, q5, q6, q7, ⟨kb, v1, v2⟩, q9⟩, hl, hc, hs⟩ := hq
  exact ⟨L, ⟨q1, fun y hy => by rw [q2 y hy]; exact hx0, q3, q5, q7, h.size, kb, hh0, Nat.le_refl _, Nat.ne_of_gt E.lt, q6, by rw [List.map_map]; exact v2⟩, hl, hc, hs⟩
end StrChars.Road
end Jvm.Pilot.@@N@@
namespace Jvm.Pilot.@@N@@
open Jvm Jvm.ClassFile Sem Op Lib Jvm.Free Jvm.Stand Jvm.LawKit Jvm.RoadKit Bundle Jvm.Pilot.@@N@@.Jvm.D
namespace Wd
section Strs
variable {p : Program} {l : Launch} {e : Env} {R : Room} {s : State} {args : Array Value} {below : List Frame} {Z : State} {EL : List (String × Nat)} {n0 : Nat} {h h' : Heap} {WL FL : List Addr} {a0 : Array Value} {len W : Nat} {x t : Addr} {cs : List Int32}
abbrev lat (cs : List Int32) : List Value := (cs.map fun c => c.toInt8.toInt32).map Value.int
/-- x is a String of the chars cs, each at most 255; t its bytes -/
def StrL (Z : State) (h : Heap) (x t : Addr) (cs : List Int32) : Prop :=
  Exa Z h x "java/lang/String" ∧ Fld Z h x "java/lang/String" "value" "[B" (.ref t) ∧ Fld Z h x "java/lang/String" "coder" "B" (.int 0) ∧ (∃ kb, Arv Z h t kb .byte (Int32.ofNat cs.length) (lat cs) (.int 0)) ∧ (∀ c ∈ cs, ¬ c < 0 ∧ ¬ (255 : Int32) < c) ∧ cs.length ≤ 4000
theorem StrL.ext (S : StrL Z h x t cs) (E : Ext h h') : StrL Z h' x t cs := by
  obtain ⟨s1, s2, s3, ⟨kb, s4⟩, s5⟩ := S; exact ⟨s1.ext E, s2.ext E, s3.ext E, ⟨kb, s4.ext E⟩, s5⟩
theorem StrL.keep {ws : List Addr} (S : StrL Z h x t cs) (K : Keep h h' ws) (h1 : x ∉ ws) (h2 : t ∉ ws) : StrL Z h' x t cs := by
  obtain ⟨s1, s2, s3, ⟨kb, s4⟩, s5⟩ := S; exact ⟨s1.keep K, s2.keep K h1, s3.keep K h1, ⟨kb, s4.keep K h2⟩, s5⟩
theorem StrL.wr {a : Addr} {sl : Nat} {v : Value} (S : StrL Z h x t cs) (W : Wr h h' a sl v) (h1 : x ≠ a) (h2 : t ≠ a) : StrL Z h' x t cs := by
  obtain ⟨s1, s2, s3, ⟨kb, s4⟩, s5⟩ := S; exact ⟨s1.wr W, s2.other W (Or.inl h1), s3.other W (Or.inl h1), ⟨kb, s4.other W h2⟩, s5⟩
/-- what new String(chars) leaves -/
def QNew (Z : State) (x : Addr) (cs : List Int32) (h : Heap) (v : Option Value) (h' : Heap) (WL' FL' : List Addr) : Prop := ∃ t : Addr, v = none ∧ WL' = [] ∧ FL' = [t] ∧ Keep h h' [x] ∧ StrL Z h' x t cs
theorem pay_new (hw : ∀ d ∈ StrChars.Road.words, d.before a0 Z = true) {kI : Nat} (wi : (Jvm.Cond.instantiable "java/lang/String" kI).before a0 Z = true) {b : Addr} {kC : ClassId} {d v0 c0 : Value} {z N : Int32} {n : Nat} (ge : n0 ≤ x) (ge' : n0 ≤ h.size) (hx : x ∈ WL) (E : Exa Z h x "java/lang/String") (V : Fld Z h x "java/lang/String" "value" "[B" v0) (C : Fld Z h x "java/lang/String" "coder" "B" c0) (A : Arv Z h b kC .char N (cs.map Value.int) d) (S : Sta Z h "java/lang/String" "COMPACT_STRINGS" "Z" (.int z)) (hz : ¬ z = 0)
    (hn : cs.length = n) (hN : N = Int32.ofNat n) (l0 : 0 < n) (l2 : n ≤ 4000) (hp : ∀ c ∈ cs, ¬ c < 0 ∧ ¬ (255 : Int32) < c) (hfr : 4 ≤ R.frames) (hlo : W + 65 ≤ R.locals) :
    Pay l R p e below s args Z EL n0 (⟨"java/lang/String", "<init>", "([C)V"⟩ : MethodName) len W #[.ref x, .ref b] h WL FL 1 n (QNew Z x cs h) :=
  Pay.ofN (fun vm0 hZ => StrChars.Road.backV (n0 := n0) hZ hw wi ge ge' E V C A S hz hn hN l0 l2 hp rfl hfr hlo) (fun v h' L ⟨q1, q2, q3, q4, q5, t, kb, q6, q7, q8, q9, q10⟩ => by
    refine ⟨q2, [x], [t], q3, allS hx all0, allS ⟨q7, q10.lt⟩ all0, t, q1, rfl, rfl, q3, q4, q9, q5, ⟨kb, ?_⟩, hp, by omega⟩
    rw [hN] at q10; rw [hn]; exact q10)
end Strs
end Wd
end Jvm.Pilot.@@N@@
namespace Jvm.Pilot.@@N@@
open Jvm Jvm.ClassFile Sem Op Lib Jvm.Free Jvm.Stand Jvm.LawKit Jvm.RoadKit Bundle Jvm.Pilot.@@N@@.Jvm.D Wd
theorem nlt {a b : Nat} (h : Nat.ble (a + 1) b = true) : a < b := Nat.le_of_ble_eq_true h
theorem nle {a b : Nat} (h : Nat.ble a b = true) : a ≤ b := Nat.le_of_ble_eq_true h
theorem fc0 {P : Int32 → Prop} : ∀ c ∈ ([] : List Int32), P c := fun _ q => nomatch q
theorem fcS {P : Int32 → Prop} {y : Int32} {L : List Int32} (q : P y) (r : ∀ c ∈ L, P c) : ∀ c ∈ y :: L, P c := fun c z => (List.mem_cons.mp z).elim (fun u => u ▸ q) (r c)
theorem msk {x m : Int32} {k : Nat} (hk : k ≤ 31) (hm : m.toBitVec.toNat = 2 ^ k - 1) : (x &&& m).toInt = x.toInt % (2 ^ k : Nat) := c_mask x m k hk hm
theorem rng255 (x : Int32) : ¬ (x &&& 255) < 0 ∧ ¬ (255 : Int32) < (x &&& 255) := by
  have h := c_mask x 255 8 (by decide) (by decide)
  rw [Int32.lt_iff_toInt_lt, Int32.lt_iff_toInt_lt, h]
  have e1 : (255 : Int32).toInt = 255 := rfl
  have e2 : (0 : Int32).toInt = 0 := rfl
  have e3 : ((2 ^ 8 : Nat) : Int) = 256 := rfl
  rw [e1, e2, e3]
  omega
theorem nar255 (x : Int32) : nar .char (x &&& 255) = x &&& 255 := i2c_mask x
theorem and3 (x : Int32) : x &&& 3 = 0 ∨ x &&& 3 = 1 ∨ x &&& 3 = 2 ∨ x &&& 3 = 3 := by
  have h := c_mask x 3 2 (by decide) (by decide)
  have e3 : ((2 ^ 2 : Nat) : Int) = 4 := rfl
  rw [e3] at h
  have : (x &&& 3).toInt = 0 ∨ (x &&& 3).toInt = 1 ∨ (x &&& 3).toInt = 2 ∨ (x &&& 3).toInt = 3 := by omega
  rcases this with q | q | q | q
  · exact Or.inl (Int32.toInt_inj.mp q)
  · exact Or.inr (Or.inl (Int32.toInt_inj.mp q))
  · exact Or.inr (Or.inr (Or.inl (Int32.toInt_inj.mp q)))
  · exact Or.inr (Or.inr (Or.inr (Int32.toInt_inj.mp q)))
def EL1 : List (String × Nat) := consts_1
def Cx (a0 : Array Value) (Z : State) (G1 : Int32) (eo : Addr) : Prop := (∀ d ∈ tables_1, d.before a0 Z = true) ∧ (Sta Z Z.heap "java/lang/String" "COMPACT_STRINGS" "Z" (.int G1)) ∧ (¬ G1 = (0 : Int32)) ∧ (Sta Z Z.heap "java/util/Optional" "EMPTY" "Ljava/util/Optional;" (.ref eo)) ∧ (Exa Z Z.heap eo "java/util/Optional") ∧ (Fld Z Z.heap eo "java/util/Optional" "value" "Ljava/lang/Object;" .null)
theorem w0 {Z : State} {a0 : Array Value} {G1 : Int32} {eo : Addr} (cx : Cx a0 Z G1 eo) : (Jvm.Cond.methodLink "com/example/need_to_know/needtoknow/admin/AdminNoticeRefusalPinLaw" (12 : Nat) ({ cls := "com/example/need_to_know/needtoknow/admin/AdminNoticeRefusalPinLaw", name := "draw", desc := "(IIII)Ljava/lang/String;" } : Jvm.MethodName)).before a0 Z = true := cx.1 _ (List.mem_of_getElem? (i := 0) rfl)
theorem w1 {Z : State} {a0 : Array Value} {G1 : Int32} {eo : Addr} (cx : Cx a0 Z G1 eo) : (Jvm.Cond.static ({ cls := "com/example/need_to_know/needtoknow/admin/AdminNoticeRefusalPinLaw", name := "draw", desc := "(IIII)Ljava/lang/String;" } : Jvm.MethodName)).before a0 Z = true := cx.1 _ (List.mem_of_getElem? (i := 1) rfl)
theorem w2 {Z : State} {a0 : Array Value} {G1 : Int32} {eo : Addr} (cx : Cx a0 Z G1 eo) : (Jvm.Cond.initialized "com/example/need_to_know/needtoknow/admin/AdminNoticeRefusalPinLaw").before a0 Z = true := cx.1 _ (List.mem_of_getElem? (i := 2) rfl)
theorem w3 {Z : State} {a0 : Array Value} {G1 : Int32} {eo : Addr} (cx : Cx a0 Z G1 eo) : (Jvm.Cond.code ({ cls := "com/example/need_to_know/needtoknow/admin/AdminNoticeRefusalPinLaw", name := "draw", desc := "(IIII)Ljava/lang/String;" } : Jvm.MethodName) method_2_code (8 : Nat) (Option.some (Jvm.ClassFile.FieldType.object "java/lang/String"))).before a0 Z = true := cx.1 _ (List.mem_of_getElem? (i := 3) rfl)
theorem w4 {Z : State} {a0 : Array Value} {G1 : Int32} {eo : Addr} (cx : Cx a0 Z G1 eo) : (Jvm.Cond.classLink "com/example/need_to_know/needtoknow/admin/AdminNoticeRefusalPinLaw" (7 : Nat) "java/lang/String").before a0 Z = true := cx.1 _ (List.mem_of_getElem? (i := 4) rfl)
theorem w5 {Z : State} {a0 : Array Value} {G1 : Int32} {eo : Addr} (cx : Cx a0 Z G1 eo) : (Jvm.Cond.instantiable "java/lang/String" (4 : Nat)).before a0 Z = true := cx.1 _ (List.mem_of_getElem? (i := 5) rfl)
theorem w6 {Z : State} {a0 : Array Value} {G1 : Int32} {eo : Addr} (cx : Cx a0 Z G1 eo) : (Jvm.Cond.initialized "java/lang/String").before a0 Z = true := cx.1 _ (List.mem_of_getElem? (i := 6) rfl)
theorem w7 {Z : State} {a0 : Array Value} {G1 : Int32} {eo : Addr} (cx : Cx a0 Z G1 eo) : (Jvm.Cond.arrayClass Jvm.ClassFile.FieldType.char).before a0 Z = true := cx.1 _ (List.mem_of_getElem? (i := 7) rfl)
theorem w8 {Z : State} {a0 : Array Value} {G1 : Int32} {eo : Addr} (cx : Cx a0 Z G1 eo) : (Jvm.Cond.methodLink "com/example/need_to_know/needtoknow/admin/AdminNoticeRefusalPinLaw" (9 : Nat) ({ cls := "java/lang/String", name := "<init>", desc := "([C)V" } : Jvm.MethodName)).before a0 Z = true := cx.1 _ (List.mem_of_getElem? (i := 8) rfl)
theorem w9 {Z : State} {a0 : Array Value} {G1 : Int32} {eo : Addr} (cx : Cx a0 Z G1 eo) : (Jvm.Cond.instanceMethod ({ cls := "java/lang/String", name := "<init>", desc := "([C)V" } : Jvm.MethodName)).before a0 Z = true := cx.1 _ (List.mem_of_getElem? (i := 9) rfl)
theorem w10 {Z : State} {a0 : Array Value} {G1 : Int32} {eo : Addr} (cx : Cx a0 Z G1 eo) : (Jvm.Cond.code ({ cls := "java/lang/String", name := "<init>", desc := "([C)V" } : Jvm.MethodName) jdk_42_method_3_code (2 : Nat) (Option.none : Option Jvm.ClassFile.FieldType)).before a0 Z = true := cx.1 _ (List.mem_of_getElem? (i := 10) rfl)
theorem w11 {Z : State} {a0 : Array Value} {G1 : Int32} {eo : Addr} (cx : Cx a0 Z G1 eo) : (Jvm.Cond.methodLink "java/lang/String" (27 : Nat) ({ cls := "java/lang/String", name := "<init>", desc := "([CIILjava/lang/Void;)V" } : Jvm.MethodName)).before a0 Z = true := cx.1 _ (List.mem_of_getElem? (i := 11) rfl)
theorem w12 {Z : State} {a0 : Array Value} {G1 : Int32} {eo : Addr} (cx : Cx a0 Z G1 eo) : (Jvm.Cond.instanceMethod ({ cls := "java/lang/String", name := "<init>", desc := "([CIILjava/lang/Void;)V" } : Jvm.MethodName)).before a0 Z = true := cx.1 _ (List.mem_of_getElem? (i := 12) rfl)
theorem w14 {Z : State} {a0 : Array Value} {G1 : Int32} {eo : Addr} (cx : Cx a0 Z G1 eo) : (Jvm.Cond.code ({ cls := "java/lang/String", name := "<init>", desc := "([CIILjava/lang/Void;)V" } : Jvm.MethodName) jdk_42_method_149_code (6 : Nat) (Option.none : Option Jvm.ClassFile.FieldType)).before a0 Z = true := cx.1 _ (List.mem_of_getElem? (i := 14) rfl)
theorem w15 {Z : State} {a0 : Array Value} {G1 : Int32} {eo : Addr} (cx : Cx a0 Z G1 eo) : (Jvm.Cond.methodLink "java/lang/String" (1 : Nat) ({ cls := "java/lang/Object", name := "<init>", desc := "()V" } : Jvm.MethodName)).before a0 Z = true := cx.1 _ (List.mem_of_getElem? (i := 15) rfl)
theorem w16 {Z : State} {a0 : Array Value} {G1 : Int32} {eo : Addr} (cx : Cx a0 Z G1 eo) : (Jvm.Cond.instanceMethod ({ cls := "java/lang/Object", name := "<init>", desc := "()V" } : Jvm.MethodName)).before a0 Z = true := cx.1 _ (List.mem_of_getElem? (i := 16) rfl)
theorem w17 {Z : State} {a0 : Array Value} {G1 : Int32} {eo : Addr} (cx : Cx a0 Z G1 eo) : (Jvm.Cond.code ({ cls := "java/lang/Object", name := "<init>", desc := "()V" } : Jvm.MethodName) object_method_1_code (1 : Nat) (Option.none : Option Jvm.ClassFile.FieldType)).before a0 Z = true := cx.1 _ (List.mem_of_getElem? (i := 17) rfl)
theorem w18 {Z : State} {a0 : Array Value} {G1 : Int32} {eo : Addr} (cx : Cx a0 Z G1 eo) : (Jvm.Cond.stringLink "java/lang/String" (7 : Nat) "").before a0 Z = true := cx.1 _ (List.mem_of_getElem? (i := 18) rfl)
theorem w20 {Z : State} {a0 : Array Value} {G1 : Int32} {eo : Addr} (cx : Cx a0 Z G1 eo) : (Jvm.Cond.laysFinal "java/lang/String" "java/lang/String" "value" "[B").before a0 Z = true := cx.1 _ (List.mem_of_getElem? (i := 20) rfl)
theorem w21 {Z : State} {a0 : Array Value} {G1 : Int32} {eo : Addr} (cx : Cx a0 Z G1 eo) : (Jvm.Cond.laysFinal "java/lang/String" "java/lang/String" "coder" "B").before a0 Z = true := cx.1 _ (List.mem_of_getElem? (i := 21) rfl)
theorem w24 {Z : State} {a0 : Array Value} {G1 : Int32} {eo : Addr} (cx : Cx a0 Z G1 eo) : (Jvm.Cond.fieldLink "java/lang/String" (9 : Nat) "java/lang/String" "value" "[B").before a0 Z = true := cx.1 _ (List.mem_of_getElem? (i := 24) rfl)
theorem w25 {Z : State} {a0 : Array Value} {G1 : Int32} {eo : Addr} (cx : Cx a0 Z G1 eo) : (Jvm.Cond.fieldLink "java/lang/String" (15 : Nat) "java/lang/String" "coder" "B").before a0 Z = true := cx.1 _ (List.mem_of_getElem? (i := 25) rfl)
theorem w26 {Z : State} {a0 : Array Value} {G1 : Int32} {eo : Addr} (cx : Cx a0 Z G1 eo) : (Jvm.Cond.methodLink "com/example/need_to_know/needtoknow/admin/AdminNoticeRefusalPinLaw" (18 : Nat) ({ cls := "com/example/need_to_know/needtoknow/admin/AdminNotice", name := "refusal", desc := "(Ljava/lang/String;)Lcom/example/need_to_know/needtoknow/admin/AdminNotice;" } : Jvm.MethodName)).before a0 Z = true := cx.1 _ (List.mem_of_getElem? (i := 26) rfl)
theorem w27 {Z : State} {a0 : Array Value} {G1 : Int32} {eo : Addr} (cx : Cx a0 Z G1 eo) : (Jvm.Cond.static ({ cls := "com/example/need_to_know/needtoknow/admin/AdminNotice", name := "refusal", desc := "(Ljava/lang/String;)Lcom/example/need_to_know/needtoknow/admin/AdminNotice;" } : Jvm.MethodName)).before a0 Z = true := cx.1 _ (List.mem_of_getElem? (i := 27) rfl)
theorem w28 {Z : State} {a0 : Array Value} {G1 : Int32} {eo : Addr} (cx : Cx a0 Z G1 eo) : (Jvm.Cond.initialized "com/example/need_to_know/needtoknow/admin/AdminNotice").before a0 Z = true := cx.1 _ (List.mem_of_getElem? (i := 28) rfl)
theorem w29 {Z : State} {a0 : Array Value} {G1 : Int32} {eo : Addr} (cx : Cx a0 Z G1 eo) : (Jvm.Cond.code ({ cls := "com/example/need_to_know/needtoknow/admin/AdminNotice", name := "refusal", desc := "(Ljava/lang/String;)Lcom/example/need_to_know/needtoknow/admin/AdminNotice;" } : Jvm.MethodName) prog_15_method_2_code (1 : Nat) (Option.some (Jvm.ClassFile.FieldType.object "com/example/need_to_know/needtoknow/admin/AdminNotice"))).before a0 Z = true := cx.1 _ (List.mem_of_getElem? (i := 29) rfl)
theorem w30 {Z : State} {a0 : Array Value} {G1 : Int32} {eo : Addr} (cx : Cx a0 Z G1 eo) : (Jvm.Cond.classLink "com/example/need_to_know/needtoknow/admin/AdminNotice" (8 : Nat) "com/example/need_to_know/needtoknow/admin/AdminNotice").before a0 Z = true := cx.1 _ (List.mem_of_getElem? (i := 30) rfl)
theorem w31 {Z : State} {a0 : Array Value} {G1 : Int32} {eo : Addr} (cx : Cx a0 Z G1 eo) : (Jvm.Cond.instantiable "com/example/need_to_know/needtoknow/admin/AdminNotice" (3 : Nat)).before a0 Z = true := cx.1 _ (List.mem_of_getElem? (i := 31) rfl)
theorem w32 {Z : State} {a0 : Array Value} {G1 : Int32} {eo : Addr} (cx : Cx a0 Z G1 eo) : (Jvm.Cond.methodLink "com/example/need_to_know/needtoknow/admin/AdminNotice" (21 : Nat) ({ cls := "java/util/Optional", name := "empty", desc := "()Ljava/util/Optional;" } : Jvm.MethodName)).before a0 Z = true := cx.1 _ (List.mem_of_getElem? (i := 32) rfl)
theorem w33 {Z : State} {a0 : Array Value} {G1 : Int32} {eo : Addr} (cx : Cx a0 Z G1 eo) : (Jvm.Cond.static ({ cls := "java/util/Optional", name := "empty", desc := "()Ljava/util/Optional;" } : Jvm.MethodName)).before a0 Z = true := cx.1 _ (List.mem_of_getElem? (i := 33) rfl)
theorem w34 {Z : State} {a0 : Array Value} {G1 : Int32} {eo : Addr} (cx : Cx a0 Z G1 eo) : (Jvm.Cond.initialized "java/util/Optional").before a0 Z = true := cx.1 _ (List.mem_of_getElem? (i := 34) rfl)
theorem w35 {Z : State} {a0 : Array Value} {G1 : Int32} {eo : Addr} (cx : Cx a0 Z G1 eo) : (Jvm.Cond.code ({ cls := "java/util/Optional", name := "empty", desc := "()Ljava/util/Optional;" } : Jvm.MethodName) jdk_32_method_1_code (1 : Nat) (Option.some (Jvm.ClassFile.FieldType.object "java/util/Optional"))).before a0 Z = true := cx.1 _ (List.mem_of_getElem? (i := 35) rfl)
theorem w36 {Z : State} {a0 : Array Value} {G1 : Int32} {eo : Addr} (cx : Cx a0 Z G1 eo) : (Jvm.Cond.fieldLink "java/util/Optional" (1 : Nat) "java/util/Optional" "EMPTY" "Ljava/util/Optional;").before a0 Z = true := cx.1 _ (List.mem_of_getElem? (i := 36) rfl)
theorem w37 {Z : State} {a0 : Array Value} {G1 : Int32} {eo : Addr} (cx : Cx a0 Z G1 eo) : (Jvm.Cond.methodLink "com/example/need_to_know/needtoknow/admin/AdminNotice" (27 : Nat) ({ cls := "com/example/need_to_know/needtoknow/admin/AdminNotice", name := "<init>", desc := "(ZLjava/lang/String;Ljava/util/Optional;)V" } : Jvm.MethodName)).before a0 Z = true := cx.1 _ (List.mem_of_getElem? (i := 37) rfl)
theorem w38 {Z : State} {a0 : Array Value} {G1 : Int32} {eo : Addr} (cx : Cx a0 Z G1 eo) : (Jvm.Cond.instanceMethod ({ cls := "com/example/need_to_know/needtoknow/admin/AdminNotice", name := "<init>", desc := "(ZLjava/lang/String;Ljava/util/Optional;)V" } : Jvm.MethodName)).before a0 Z = true := cx.1 _ (List.mem_of_getElem? (i := 38) rfl)
theorem w39 {Z : State} {a0 : Array Value} {G1 : Int32} {eo : Addr} (cx : Cx a0 Z G1 eo) : (Jvm.Cond.code ({ cls := "com/example/need_to_know/needtoknow/admin/AdminNotice", name := "<init>", desc := "(ZLjava/lang/String;Ljava/util/Optional;)V" } : Jvm.MethodName) prog_15_method_1_code (4 : Nat) (Option.none : Option Jvm.ClassFile.FieldType)).before a0 Z = true := cx.1 _ (List.mem_of_getElem? (i := 39) rfl)
theorem w40 {Z : State} {a0 : Array Value} {G1 : Int32} {eo : Addr} (cx : Cx a0 Z G1 eo) : (Jvm.Cond.methodLink "com/example/need_to_know/needtoknow/admin/AdminNotice" (1 : Nat) ({ cls := "java/lang/Object", name := "<init>", desc := "()V" } : Jvm.MethodName)).before a0 Z = true := cx.1 _ (List.mem_of_getElem? (i := 40) rfl)
theorem w41 {Z : State} {a0 : Array Value} {G1 : Int32} {eo : Addr} (cx : Cx a0 Z G1 eo) : (Jvm.Cond.fieldLink "com/example/need_to_know/needtoknow/admin/AdminNotice" (7 : Nat) "com/example/need_to_know/needtoknow/admin/AdminNotice" "refusal" "Z").before a0 Z = true := cx.1 _ (List.mem_of_getElem? (i := 41) rfl)
theorem w42 {Z : State} {a0 : Array Value} {G1 : Int32} {eo : Addr} (cx : Cx a0 Z G1 eo) : (Jvm.Cond.laysFinal "com/example/need_to_know/needtoknow/admin/AdminNotice" "com/example/need_to_know/needtoknow/admin/AdminNotice" "refusal" "Z").before a0 Z = true := cx.1 _ (List.mem_of_getElem? (i := 42) rfl)
theorem w43 {Z : State} {a0 : Array Value} {G1 : Int32} {eo : Addr} (cx : Cx a0 Z G1 eo) : (Jvm.Cond.fieldLink "com/example/need_to_know/needtoknow/admin/AdminNotice" (13 : Nat) "com/example/need_to_know/needtoknow/admin/AdminNotice" "message" "Ljava/lang/String;").before a0 Z = true := cx.1 _ (List.mem_of_getElem? (i := 43) rfl)
theorem w44 {Z : State} {a0 : Array Value} {G1 : Int32} {eo : Addr} (cx : Cx a0 Z G1 eo) : (Jvm.Cond.laysFinal "com/example/need_to_know/needtoknow/admin/AdminNotice" "com/example/need_to_know/needtoknow/admin/AdminNotice" "message" "Ljava/lang/String;").before a0 Z = true := cx.1 _ (List.mem_of_getElem? (i := 44) rfl)
theorem w45 {Z : State} {a0 : Array Value} {G1 : Int32} {eo : Addr} (cx : Cx a0 Z G1 eo) : (Jvm.Cond.fieldLink "com/example/need_to_know/needtoknow/admin/AdminNotice" (17 : Nat) "com/example/need_to_know/needtoknow/admin/AdminNotice" "madeSecret" "Ljava/util/Optional;").before a0 Z = true := cx.1 _ (List.mem_of_getElem? (i := 45) rfl)
theorem w46 {Z : State} {a0 : Array Value} {G1 : Int32} {eo : Addr} (cx : Cx a0 Z G1 eo) : (Jvm.Cond.laysFinal "com/example/need_to_know/needtoknow/admin/AdminNotice" "com/example/need_to_know/needtoknow/admin/AdminNotice" "madeSecret" "Ljava/util/Optional;").before a0 Z = true := cx.1 _ (List.mem_of_getElem? (i := 46) rfl)
theorem w47 {Z : State} {a0 : Array Value} {G1 : Int32} {eo : Addr} (cx : Cx a0 Z G1 eo) : (Jvm.Cond.methodLink "com/example/need_to_know/needtoknow/admin/AdminNoticeRefusalPinLaw" (24 : Nat) ({ cls := "com/example/need_to_know/needtoknow/admin/AdminNotice", name := "isRefusal", desc := "()Z" } : Jvm.MethodName)).before a0 Z = true := cx.1 _ (List.mem_of_getElem? (i := 47) rfl)
theorem w48 {Z : State} {a0 : Array Value} {G1 : Int32} {eo : Addr} (cx : Cx a0 Z G1 eo) : (Jvm.Cond.declares ({ cls := "com/example/need_to_know/needtoknow/admin/AdminNotice", name := "isRefusal", desc := "()Z" } : Jvm.MethodName)).before a0 Z = true := cx.1 _ (List.mem_of_getElem? (i := 48) rfl)
theorem w49 {Z : State} {a0 : Array Value} {G1 : Int32} {eo : Addr} (cx : Cx a0 Z G1 eo) : (Jvm.Cond.instanceMethod ({ cls := "com/example/need_to_know/needtoknow/admin/AdminNotice", name := "isRefusal", desc := "()Z" } : Jvm.MethodName)).before a0 Z = true := cx.1 _ (List.mem_of_getElem? (i := 49) rfl)
theorem w50 {Z : State} {a0 : Array Value} {G1 : Int32} {eo : Addr} (cx : Cx a0 Z G1 eo) : (Jvm.Cond.selects "com/example/need_to_know/needtoknow/admin/AdminNotice" ({ cls := "com/example/need_to_know/needtoknow/admin/AdminNotice", name := "isRefusal", desc := "()Z" } : Jvm.MethodName) ({ cls := "com/example/need_to_know/needtoknow/admin/AdminNotice", name := "isRefusal", desc := "()Z" } : Jvm.MethodName)).before a0 Z = true := cx.1 _ (List.mem_of_getElem? (i := 50) rfl)
theorem w51 {Z : State} {a0 : Array Value} {G1 : Int32} {eo : Addr} (cx : Cx a0 Z G1 eo) : (Jvm.Cond.code ({ cls := "com/example/need_to_know/needtoknow/admin/AdminNotice", name := "isRefusal", desc := "()Z" } : Jvm.MethodName) prog_15_method_4_code (1 : Nat) (Option.some Jvm.ClassFile.FieldType.boolean)).before a0 Z = true := cx.1 _ (List.mem_of_getElem? (i := 51) rfl)
theorem w52 {Z : State} {a0 : Array Value} {G1 : Int32} {eo : Addr} (cx : Cx a0 Z G1 eo) : (Jvm.Cond.methodLink "com/example/need_to_know/needtoknow/admin/AdminNoticeRefusalPinLaw" (28 : Nat) ({ cls := "com/example/need_to_know/needtoknow/admin/AdminNotice", name := "message", desc := "()Ljava/lang/String;" } : Jvm.MethodName)).before a0 Z = true := cx.1 _ (List.mem_of_getElem? (i := 52) rfl)
theorem w53 {Z : State} {a0 : Array Value} {G1 : Int32} {eo : Addr} (cx : Cx a0 Z G1 eo) : (Jvm.Cond.declares ({ cls := "com/example/need_to_know/needtoknow/admin/AdminNotice", name := "message", desc := "()Ljava/lang/String;" } : Jvm.MethodName)).before a0 Z = true := cx.1 _ (List.mem_of_getElem? (i := 53) rfl)
theorem w54 {Z : State} {a0 : Array Value} {G1 : Int32} {eo : Addr} (cx : Cx a0 Z G1 eo) : (Jvm.Cond.instanceMethod ({ cls := "com/example/need_to_know/needtoknow/admin/AdminNotice", name := "message", desc := "()Ljava/lang/String;" } : Jvm.MethodName)).before a0 Z = true := cx.1 _ (List.mem_of_getElem? (i := 54) rfl)
theorem w55 {Z : State} {a0 : Array Value} {G1 : Int32} {eo : Addr} (cx : Cx a0 Z G1 eo) : (Jvm.Cond.selects "com/example/need_to_know/needtoknow/admin/AdminNotice" ({ cls := "com/example/need_to_know/needtoknow/admin/AdminNotice", name := "message", desc := "()Ljava/lang/String;" } : Jvm.MethodName) ({ cls := "com/example/need_to_know/needtoknow/admin/AdminNotice", name := "message", desc := "()Ljava/lang/String;" } : Jvm.MethodName)).before a0 Z = true := cx.1 _ (List.mem_of_getElem? (i := 55) rfl)
theorem w56 {Z : State} {a0 : Array Value} {G1 : Int32} {eo : Addr} (cx : Cx a0 Z G1 eo) : (Jvm.Cond.code ({ cls := "com/example/need_to_know/needtoknow/admin/AdminNotice", name := "message", desc := "()Ljava/lang/String;" } : Jvm.MethodName) prog_15_method_5_code (1 : Nat) (Option.some (Jvm.ClassFile.FieldType.object "java/lang/String"))).before a0 Z = true := cx.1 _ (List.mem_of_getElem? (i := 56) rfl)
theorem w57 {Z : State} {a0 : Array Value} {G1 : Int32} {eo : Addr} (cx : Cx a0 Z G1 eo) : (Jvm.Cond.methodLink "com/example/need_to_know/needtoknow/admin/AdminNoticeRefusalPinLaw" (32 : Nat) ({ cls := "java/lang/String", name := "equals", desc := "(Ljava/lang/Object;)Z" } : Jvm.MethodName)).before a0 Z = true := cx.1 _ (List.mem_of_getElem? (i := 57) rfl)
theorem w58 {Z : State} {a0 : Array Value} {G1 : Int32} {eo : Addr} (cx : Cx a0 Z G1 eo) : (Jvm.Cond.declares ({ cls := "java/lang/String", name := "equals", desc := "(Ljava/lang/Object;)Z" } : Jvm.MethodName)).before a0 Z = true := cx.1 _ (List.mem_of_getElem? (i := 58) rfl)
theorem w59 {Z : State} {a0 : Array Value} {G1 : Int32} {eo : Addr} (cx : Cx a0 Z G1 eo) : (Jvm.Cond.instanceMethod ({ cls := "java/lang/String", name := "equals", desc := "(Ljava/lang/Object;)Z" } : Jvm.MethodName)).before a0 Z = true := cx.1 _ (List.mem_of_getElem? (i := 59) rfl)
theorem w60 {Z : State} {a0 : Array Value} {G1 : Int32} {eo : Addr} (cx : Cx a0 Z G1 eo) : (Jvm.Cond.selects "java/lang/String" ({ cls := "java/lang/String", name := "equals", desc := "(Ljava/lang/Object;)Z" } : Jvm.MethodName) ({ cls := "java/lang/String", name := "equals", desc := "(Ljava/lang/Object;)Z" } : Jvm.MethodName)).before a0 Z = true := cx.1 _ (List.mem_of_getElem? (i := 60) rfl)
theorem w61 {Z : State} {a0 : Array Value} {G1 : Int32} {eo : Addr} (cx : Cx a0 Z G1 eo) : (Jvm.Cond.code ({ cls := "java/lang/String", name := "equals", desc := "(Ljava/lang/Object;)Z" } : Jvm.MethodName) jdk_42_method_66_code (3 : Nat) (Option.some Jvm.ClassFile.FieldType.boolean)).before a0 Z = true := cx.1 _ (List.mem_of_getElem? (i := 61) rfl)
theorem w62 {Z : State} {a0 : Array Value} {G1 : Int32} {eo : Addr} (cx : Cx a0 Z G1 eo) : (Jvm.Cond.methodLink "com/example/need_to_know/needtoknow/admin/AdminNoticeRefusalPinLaw" (36 : Nat) ({ cls := "com/example/need_to_know/needtoknow/admin/AdminNotice", name := "madeSecret", desc := "()Ljava/util/Optional;" } : Jvm.MethodName)).before a0 Z = true := cx.1 _ (List.mem_of_getElem? (i := 62) rfl)
theorem w63 {Z : State} {a0 : Array Value} {G1 : Int32} {eo : Addr} (cx : Cx a0 Z G1 eo) : (Jvm.Cond.declares ({ cls := "com/example/need_to_know/needtoknow/admin/AdminNotice", name := "madeSecret", desc := "()Ljava/util/Optional;" } : Jvm.MethodName)).before a0 Z = true := cx.1 _ (List.mem_of_getElem? (i := 63) rfl)
theorem w64 {Z : State} {a0 : Array Value} {G1 : Int32} {eo : Addr} (cx : Cx a0 Z G1 eo) : (Jvm.Cond.instanceMethod ({ cls := "com/example/need_to_know/needtoknow/admin/AdminNotice", name := "madeSecret", desc := "()Ljava/util/Optional;" } : Jvm.MethodName)).before a0 Z = true := cx.1 _ (List.mem_of_getElem? (i := 64) rfl)
theorem w65 {Z : State} {a0 : Array Value} {G1 : Int32} {eo : Addr} (cx : Cx a0 Z G1 eo) : (Jvm.Cond.selects "com/example/need_to_know/needtoknow/admin/AdminNotice" ({ cls := "com/example/need_to_know/needtoknow/admin/AdminNotice", name := "madeSecret", desc := "()Ljava/util/Optional;" } : Jvm.MethodName) ({ cls := "com/example/need_to_know/needtoknow/admin/AdminNotice", name := "madeSecret", desc := "()Ljava/util/Optional;" } : Jvm.MethodName)).before a0 Z = true := cx.1 _ (List.mem_of_getElem? (i := 65) rfl)
theorem w66 {Z : State} {a0 : Array Value} {G1 : Int32} {eo : Addr} (cx : Cx a0 Z G1 eo) : (Jvm.Cond.code ({ cls := "com/example/need_to_know/needtoknow/admin/AdminNotice", name := "madeSecret", desc := "()Ljava/util/Optional;" } : Jvm.MethodName) prog_15_method_6_code (1 : Nat) (Option.some (Jvm.ClassFile.FieldType.object "java/util/Optional"))).before a0 Z = true := cx.1 _ (List.mem_of_getElem? (i := 66) rfl)
theorem w67 {Z : State} {a0 : Array Value} {G1 : Int32} {eo : Addr} (cx : Cx a0 Z G1 eo) : (Jvm.Cond.methodLink "com/example/need_to_know/needtoknow/admin/AdminNoticeRefusalPinLaw" (40 : Nat) ({ cls := "java/util/Optional", name := "isPresent", desc := "()Z" } : Jvm.MethodName)).before a0 Z = true := cx.1 _ (List.mem_of_getElem? (i := 67) rfl)
theorem w68 {Z : State} {a0 : Array Value} {G1 : Int32} {eo : Addr} (cx : Cx a0 Z G1 eo) : (Jvm.Cond.declares ({ cls := "java/util/Optional", name := "isPresent", desc := "()Z" } : Jvm.MethodName)).before a0 Z = true := cx.1 _ (List.mem_of_getElem? (i := 68) rfl)
theorem w69 {Z : State} {a0 : Array Value} {G1 : Int32} {eo : Addr} (cx : Cx a0 Z G1 eo) : (Jvm.Cond.instanceMethod ({ cls := "java/util/Optional", name := "isPresent", desc := "()Z" } : Jvm.MethodName)).before a0 Z = true := cx.1 _ (List.mem_of_getElem? (i := 69) rfl)
theorem w70 {Z : State} {a0 : Array Value} {G1 : Int32} {eo : Addr} (cx : Cx a0 Z G1 eo) : (Jvm.Cond.selects "java/util/Optional" ({ cls := "java/util/Optional", name := "isPresent", desc := "()Z" } : Jvm.MethodName) ({ cls := "java/util/Optional", name := "isPresent", desc := "()Z" } : Jvm.MethodName)).before a0 Z = true := cx.1 _ (List.mem_of_getElem? (i := 70) rfl)
theorem w71 {Z : State} {a0 : Array Value} {G1 : Int32} {eo : Addr} (cx : Cx a0 Z G1 eo) : (Jvm.Cond.code ({ cls := "java/util/Optional", name := "isPresent", desc := "()Z" } : Jvm.MethodName) jdk_32_method_6_code (1 : Nat) (Option.some Jvm.ClassFile.FieldType.boolean)).before a0 Z = true := cx.1 _ (List.mem_of_getElem? (i := 71) rfl)
theorem w72 {Z : State} {a0 : Array Value} {G1 : Int32} {eo : Addr} (cx : Cx a0 Z G1 eo) : (Jvm.Cond.fieldLink "java/util/Optional" (13 : Nat) "java/util/Optional" "value" "Ljava/lang/Object;").before a0 Z = true := cx.1 _ (List.mem_of_getElem? (i := 72) rfl)
theorem S_C {Z : State} {a0 : Array Value} {G1 : Int32} {eo : Addr} (cx : Cx a0 Z G1 eo) : Sta Z Z.heap "java/lang/String" "COMPACT_STRINGS" "Z" (.int G1) := cx.2.1
theorem N_C {Z : State} {a0 : Array Value} {G1 : Int32} {eo : Addr} (cx : Cx a0 Z G1 eo) : ¬ G1 = (0 : Int32) := cx.2.2.1
theorem S_E {Z : State} {a0 : Array Value} {G1 : Int32} {eo : Addr} (cx : Cx a0 Z G1 eo) : Sta Z Z.heap "java/util/Optional" "EMPTY" "Ljava/util/Optional;" (.ref eo) := cx.2.2.2.1
theorem E_E {Z : State} {a0 : Array Value} {G1 : Int32} {eo : Addr} (cx : Cx a0 Z G1 eo) : Exa Z Z.heap eo "java/util/Optional" := cx.2.2.2.2.1
theorem F_E0 {Z : State} {a0 : Array Value} {G1 : Int32} {eo : Addr} (cx : Cx a0 Z G1 eo) : Fld Z Z.heap eo "java/util/Optional" "value" "Ljava/lang/Object;" .null := cx.2.2.2.2.2
theorem hws {Z : State} {a0 : Array Value} {G1 : Int32} {eo : Addr} (cx : Cx a0 Z G1 eo) : ∀ d ∈ StrChars.Road.words, d.before a0 Z = true := fun d hd => cx.1 d ((by decide +kernel : ∀ d ∈ StrChars.Road.words, d ∈ tables_1) d hd)
theorem strAtoms {Z : State} {a0 : Array Value} {G1 : Int32} {eo : Addr} (cx : Cx a0 Z G1 eo) : ∀ d ∈ Bundle.stringAtoms, d.before a0 Z = true := fun d hd => cx.1 d ((by decide +kernel : ∀ d ∈ Bundle.stringAtoms, d ∈ tables_1) d hd)
theorem pn0 : plainName "java/lang/String" = true := by first | (simp [plainName, overriddenIn]; done) | decide +kernel
theorem pn1 : plainName "com/example/need_to_know/needtoknow/admin/AdminNoticeRefusalPinLaw" = true := by first | (simp [plainName, overriddenIn]; done) | decide +kernel
theorem pn2 : plainName "java/util/Optional" = true := by first | (simp [plainName, overriddenIn]; done) | decide +kernel
theorem pn3 : plainName "com/example/need_to_know/needtoknow/admin/AdminNotice" = true := by first | (simp [plainName, overriddenIn]; done) | decide +kernel
theorem d1_0 : decode method_2_code 0 = .ok (.iload_n 1, 1) := by decide +kernel
theorem d1_1 : decode method_2_code 1 = .ok (.sipush 255, 3) := by decide +kernel
theorem d1_4 : decode method_2_code 4 = .ok (.iand, 1) := by decide +kernel
theorem d1_5 : decode method_2_code 5 = .ok (.i2c, 1) := by decide +kernel
theorem d1_6 : decode method_2_code 6 = .ok (.istore 4, 2) := by decide +kernel
theorem d1_8 : decode method_2_code 8 = .ok (.iload_n 2, 1) := by decide +kernel
theorem d1_9 : decode method_2_code 9 = .ok (.sipush 255, 3) := by decide +kernel
theorem d1_12 : decode method_2_code 12 = .ok (.iand, 1) := by decide +kernel
theorem d1_13 : decode method_2_code 13 = .ok (.i2c, 1) := by decide +kernel
theorem d1_14 : decode method_2_code 14 = .ok (.istore 5, 2) := by decide +kernel
theorem d1_16 : decode method_2_code 16 = .ok (.iload_n 3, 1) := by decide +kernel
theorem d1_17 : decode method_2_code 17 = .ok (.sipush 255, 3) := by decide +kernel
theorem d1_20 : decode method_2_code 20 = .ok (.iand, 1) := by decide +kernel
theorem d1_21 : decode method_2_code 21 = .ok (.i2c, 1) := by decide +kernel
theorem d1_22 : decode method_2_code 22 = .ok (.istore 6, 2) := by decide +kernel
theorem d1_24 : decode method_2_code 24 = .ok (.iload_n 0, 1) := by decide +kernel
theorem d1_25 : decode method_2_code 25 = .ok (.iconst 3, 1) := by decide +kernel
theorem d1_26 : decode method_2_code 26 = .ok (.iand, 1) := by decide +kernel
theorem d1_27 : decode method_2_code 27 = .ok (.istore 7, 2) := by decide +kernel
theorem d1_29 : decode method_2_code 29 = .ok (.iload 7, 2) := by decide +kernel
theorem d1_31 : decode method_2_code 31 = .ok (.ifCond .ne 14, 3) := by decide +kernel
theorem d1_34 : decode method_2_code 34 = .ok (.new 7, 3) := by decide +kernel
theorem d1_37 : decode method_2_code 37 = .ok (.dup, 1) := by decide +kernel
theorem d1_38 : decode method_2_code 38 = .ok (.iconst 0, 1) := by decide +kernel
theorem d1_39 : decode method_2_code 39 = .ok (.newarray .char, 2) := by decide +kernel
theorem d1_41 : decode method_2_code 41 = .ok (.invokespecial 9, 3) := by decide +kernel
theorem d1_44 : decode method_2_code 44 = .ok (.areturn, 1) := by decide +kernel
theorem d1_45 : decode method_2_code 45 = .ok (.iload 7, 2) := by decide +kernel
theorem d1_47 : decode method_2_code 47 = .ok (.iconst 1, 1) := by decide +kernel
theorem d1_48 : decode method_2_code 48 = .ok (.if_icmp .ne 19, 3) := by decide +kernel
theorem d1_51 : decode method_2_code 51 = .ok (.new 7, 3) := by decide +kernel
theorem d1_54 : decode method_2_code 54 = .ok (.dup, 1) := by decide +kernel
theorem d1_55 : decode method_2_code 55 = .ok (.iconst 1, 1) := by decide +kernel
theorem d1_56 : decode method_2_code 56 = .ok (.newarray .char, 2) := by decide +kernel
theorem d1_58 : decode method_2_code 58 = .ok (.dup, 1) := by decide +kernel
theorem d1_59 : decode method_2_code 59 = .ok (.iconst 0, 1) := by decide +kernel
theorem d1_60 : decode method_2_code 60 = .ok (.iload 4, 2) := by decide +kernel
theorem d1_62 : decode method_2_code 62 = .ok (.castore, 1) := by decide +kernel
theorem d1_63 : decode method_2_code 63 = .ok (.invokespecial 9, 3) := by decide +kernel
theorem d1_66 : decode method_2_code 66 = .ok (.areturn, 1) := by decide +kernel
theorem d1_67 : decode method_2_code 67 = .ok (.iload 7, 2) := by decide +kernel
theorem d1_69 : decode method_2_code 69 = .ok (.iconst 2, 1) := by decide +kernel
theorem d1_70 : decode method_2_code 70 = .ok (.if_icmp .ne 24, 3) := by decide +kernel
theorem d1_73 : decode method_2_code 73 = .ok (.new 7, 3) := by decide +kernel
theorem d1_76 : decode method_2_code 76 = .ok (.dup, 1) := by decide +kernel
theorem d1_77 : decode method_2_code 77 = .ok (.iconst 2, 1) := by decide +kernel
theorem d1_78 : decode method_2_code 78 = .ok (.newarray .char, 2) := by decide +kernel
theorem d1_80 : decode method_2_code 80 = .ok (.dup, 1) := by decide +kernel
theorem d1_81 : decode method_2_code 81 = .ok (.iconst 0, 1) := by decide +kernel
theorem d1_82 : decode method_2_code 82 = .ok (.iload 4, 2) := by decide +kernel
theorem d1_84 : decode method_2_code 84 = .ok (.castore, 1) := by decide +kernel
theorem d1_85 : decode method_2_code 85 = .ok (.dup, 1) := by decide +kernel
theorem d1_86 : decode method_2_code 86 = .ok (.iconst 1, 1) := by decide +kernel
theorem d1_87 : decode method_2_code 87 = .ok (.iload 5, 2) := by decide +kernel
theorem d1_89 : decode method_2_code 89 = .ok (.castore, 1) := by decide +kernel
theorem d1_90 : decode method_2_code 90 = .ok (.invokespecial 9, 3) := by decide +kernel
theorem d1_93 : decode method_2_code 93 = .ok (.areturn, 1) := by decide +kernel
theorem d1_94 : decode method_2_code 94 = .ok (.new 7, 3) := by decide +kernel
theorem d1_97 : decode method_2_code 97 = .ok (.dup, 1) := by decide +kernel
theorem d1_98 : decode method_2_code 98 = .ok (.iconst 3, 1) := by decide +kernel
theorem d1_99 : decode method_2_code 99 = .ok (.newarray .char, 2) := by decide +kernel
theorem d1_101 : decode method_2_code 101 = .ok (.dup, 1) := by decide +kernel
theorem d1_102 : decode method_2_code 102 = .ok (.iconst 0, 1) := by decide +kernel
theorem d1_103 : decode method_2_code 103 = .ok (.iload 4, 2) := by decide +kernel
theorem d1_105 : decode method_2_code 105 = .ok (.castore, 1) := by decide +kernel
theorem d1_106 : decode method_2_code 106 = .ok (.dup, 1) := by decide +kernel
theorem d1_107 : decode method_2_code 107 = .ok (.iconst 1, 1) := by decide +kernel
theorem d1_108 : decode method_2_code 108 = .ok (.iload 5, 2) := by decide +kernel
theorem d1_110 : decode method_2_code 110 = .ok (.castore, 1) := by decide +kernel
theorem d1_111 : decode method_2_code 111 = .ok (.dup, 1) := by decide +kernel
theorem d1_112 : decode method_2_code 112 = .ok (.iconst 2, 1) := by decide +kernel
theorem d1_113 : decode method_2_code 113 = .ok (.iload 6, 2) := by decide +kernel
theorem d1_115 : decode method_2_code 115 = .ok (.castore, 1) := by decide +kernel
theorem d1_116 : decode method_2_code 116 = .ok (.invokespecial 9, 3) := by decide +kernel
theorem d1_119 : decode method_2_code 119 = .ok (.areturn, 1) := by decide +kernel
theorem d2_0 : decode jdk_42_method_3_code 0 = .ok (.aload_n 0, 1) := by decide +kernel
theorem d2_1 : decode jdk_42_method_3_code 1 = .ok (.aload_n 1, 1) := by decide +kernel
theorem d2_2 : decode jdk_42_method_3_code 2 = .ok (.iconst 0, 1) := by decide +kernel
theorem d2_3 : decode jdk_42_method_3_code 3 = .ok (.aload_n 1, 1) := by decide +kernel
theorem d2_4 : decode jdk_42_method_3_code 4 = .ok (.arraylength, 1) := by decide +kernel
theorem d2_5 : decode jdk_42_method_3_code 5 = .ok (.aconst_null, 1) := by decide +kernel
theorem d2_6 : decode jdk_42_method_3_code 6 = .ok (.invokespecial 27, 3) := by decide +kernel
theorem d2_9 : decode jdk_42_method_3_code 9 = .ok (.return_, 1) := by decide +kernel
theorem d3_0 : decode jdk_42_method_149_code 0 = .ok (.aload_n 0, 1) := by decide +kernel
theorem d3_1 : decode jdk_42_method_149_code 1 = .ok (.invokespecial 1, 3) := by decide +kernel
theorem d3_4 : decode jdk_42_method_149_code 4 = .ok (.iload_n 3, 1) := by decide +kernel
theorem d3_5 : decode jdk_42_method_149_code 5 = .ok (.ifCond .ne 22, 3) := by decide +kernel
theorem d3_8 : decode jdk_42_method_149_code 8 = .ok (.aload_n 0, 1) := by decide +kernel
theorem d3_9 : decode jdk_42_method_149_code 9 = .ok (.ldc 7, 2) := by decide +kernel
theorem d3_11 : decode jdk_42_method_149_code 11 = .ok (.getfield 9, 3) := by decide +kernel
theorem d3_14 : decode jdk_42_method_149_code 14 = .ok (.putfield 9, 3) := by decide +kernel
theorem d3_17 : decode jdk_42_method_149_code 17 = .ok (.aload_n 0, 1) := by decide +kernel
theorem d3_18 : decode jdk_42_method_149_code 18 = .ok (.ldc 7, 2) := by decide +kernel
theorem d3_20 : decode jdk_42_method_149_code 20 = .ok (.getfield 15, 3) := by decide +kernel
theorem d3_23 : decode jdk_42_method_149_code 23 = .ok (.putfield 15, 3) := by decide +kernel
theorem d3_26 : decode jdk_42_method_149_code 26 = .ok (.return_, 1) := by decide +kernel
theorem d5_0 : decode prog_15_method_2_code 0 = .ok (.new 8, 3) := by decide +kernel
theorem d5_3 : decode prog_15_method_2_code 3 = .ok (.dup, 1) := by decide +kernel
theorem d5_4 : decode prog_15_method_2_code 4 = .ok (.iconst 1, 1) := by decide +kernel
theorem d5_5 : decode prog_15_method_2_code 5 = .ok (.aload_n 0, 1) := by decide +kernel
theorem d5_6 : decode prog_15_method_2_code 6 = .ok (.invokestatic 21, 3) := by decide +kernel
theorem d5_9 : decode prog_15_method_2_code 9 = .ok (.invokespecial 27, 3) := by decide +kernel
theorem d5_12 : decode prog_15_method_2_code 12 = .ok (.areturn, 1) := by decide +kernel
theorem d6_0 : decode jdk_32_method_1_code 0 = .ok (.getstatic 1, 3) := by decide +kernel
theorem d6_3 : decode jdk_32_method_1_code 3 = .ok (.astore_n 0, 1) := by decide +kernel
theorem d6_4 : decode jdk_32_method_1_code 4 = .ok (.aload_n 0, 1) := by decide +kernel
theorem d6_5 : decode jdk_32_method_1_code 5 = .ok (.areturn, 1) := by decide +kernel
theorem d7_0 : decode prog_15_method_1_code 0 = .ok (.aload_n 0, 1) := by decide +kernel
theorem d7_1 : decode prog_15_method_1_code 1 = .ok (.invokespecial 1, 3) := by decide +kernel
theorem d7_4 : decode prog_15_method_1_code 4 = .ok (.aload_n 0, 1) := by decide +kernel
theorem d7_5 : decode prog_15_method_1_code 5 = .ok (.iload_n 1, 1) := by decide +kernel
theorem d7_6 : decode prog_15_method_1_code 6 = .ok (.putfield 7, 3) := by decide +kernel
theorem d7_9 : decode prog_15_method_1_code 9 = .ok (.aload_n 0, 1) := by decide +kernel
theorem d7_10 : decode prog_15_method_1_code 10 = .ok (.aload_n 2, 1) := by decide +kernel
theorem d7_11 : decode prog_15_method_1_code 11 = .ok (.putfield 13, 3) := by decide +kernel
theorem d7_14 : decode prog_15_method_1_code 14 = .ok (.aload_n 0, 1) := by decide +kernel
theorem d7_15 : decode prog_15_method_1_code 15 = .ok (.aload_n 3, 1) := by decide +kernel
theorem d7_16 : decode prog_15_method_1_code 16 = .ok (.putfield 17, 3) := by decide +kernel
theorem d7_19 : decode prog_15_method_1_code 19 = .ok (.return_, 1) := by decide +kernel
theorem d8_0 : decode prog_15_method_4_code 0 = .ok (.aload_n 0, 1) := by decide +kernel
theorem d8_1 : decode prog_15_method_4_code 1 = .ok (.getfield 7, 3) := by decide +kernel
theorem d8_4 : decode prog_15_method_4_code 4 = .ok (.ireturn, 1) := by decide +kernel
theorem d9_0 : decode prog_15_method_5_code 0 = .ok (.aload_n 0, 1) := by decide +kernel
theorem d9_1 : decode prog_15_method_5_code 1 = .ok (.getfield 13, 3) := by decide +kernel
theorem d9_4 : decode prog_15_method_5_code 4 = .ok (.areturn, 1) := by decide +kernel
theorem d10_0 : decode jdk_42_method_66_code 0 = .ok (.aload_n 0, 1) := by decide +kernel
theorem d10_1 : decode jdk_42_method_66_code 1 = .ok (.aload_n 1, 1) := by decide +kernel
theorem d10_2 : decode jdk_42_method_66_code 2 = .ok (.if_acmp .ne 5, 3) := by decide +kernel
theorem d10_5 : decode jdk_42_method_66_code 5 = .ok (.iconst 1, 1) := by decide +kernel
theorem d10_6 : decode jdk_42_method_66_code 6 = .ok (.ireturn, 1) := by decide +kernel
theorem d11_0 : decode prog_15_method_6_code 0 = .ok (.aload_n 0, 1) := by decide +kernel
theorem d11_1 : decode prog_15_method_6_code 1 = .ok (.getfield 17, 3) := by decide +kernel
theorem d11_4 : decode prog_15_method_6_code 4 = .ok (.areturn, 1) := by decide +kernel
theorem d12_0 : decode jdk_32_method_6_code 0 = .ok (.aload_n 0, 1) := by decide +kernel
theorem d12_1 : decode jdk_32_method_6_code 1 = .ok (.getfield 13, 3) := by decide +kernel
theorem d12_4 : decode jdk_32_method_6_code 4 = .ok (.ifnull 7, 3) := by decide +kernel
theorem d12_11 : decode jdk_32_method_6_code 11 = .ok (.iconst 0, 1) := by decide +kernel
theorem d12_12 : decode jdk_32_method_6_code 12 = .ok (.ireturn, 1) := by decide +kernel
theorem pd0 : parseMethodDescriptor "([CIILjava/lang/Void;)V" = some ⟨[(.array .char), .int, .int, (.object "java/lang/Void")], none⟩ := by decide +kernel
theorem pd1 : parseMethodDescriptor "([C)V" = some ⟨[(.array .char)], none⟩ := by decide +kernel
theorem pd2 : parseMethodDescriptor "()Ljava/util/Optional;" = some ⟨[], some (.object "java/util/Optional")⟩ := by decide +kernel
theorem pd3 : parseMethodDescriptor "(ZLjava/lang/String;Ljava/util/Optional;)V" = some ⟨[.boolean, (.object "java/lang/String"), (.object "java/util/Optional")], none⟩ := by decide +kernel
theorem pd4 : parseMethodDescriptor "(IIII)Ljava/lang/String;" = some ⟨[.int, .int, .int, .int], some (.object "java/lang/String")⟩ := by decide +kernel
theorem pd5 : parseMethodDescriptor "(Ljava/lang/String;)Lcom/example/need_to_know/needtoknow/admin/AdminNotice;" = some ⟨[(.object "java/lang/String")], some (.object "com/example/need_to_know/needtoknow/admin/AdminNotice")⟩ := by decide +kernel
theorem pd6 : parseMethodDescriptor "()Z" = some ⟨[], some .boolean⟩ := by decide +kernel
theorem pd7 : parseMethodDescriptor "()Ljava/lang/String;" = some ⟨[], some (.object "java/lang/String")⟩ := by decide +kernel
theorem pd8 : parseMethodDescriptor "(Ljava/lang/Object;)Z" = some ⟨[(.object "java/lang/Object")], some .boolean⟩ := by decide +kernel
def Q_s4e (Z : State) (G1 : Int32) (eo : Addr) (x : Addr) (b : Addr) (h : Heap) (v : Option Value) (h' : Heap) (WL' FL' : List Addr) : Prop := ∃ t : Addr, v = none ∧ WL' = [] ∧ FL' = [t] ∧ Keep h h' [x] ∧ StrL Z h' x t []
set_option maxRecDepth 65536 in
set_option maxHeartbeats 4000000 in
theorem ct_s4e {l : Launch} {Z : State} {a0 : Array Value} {G1 : Int32} {eo : Addr} (cx : Cx a0 Z G1 eo) {n0 : Nat} (x : Addr) (b : Addr) (h : Heap) (WL FL : List Addr) (P0 : Exa Z h x "java/lang/String") (P1 : Fld Z h x "java/lang/String" "value" "[B" .null) (P2 : Fld Z h x "java/lang/String" "coder" "B" (.int (0 : Int32))) (P3 : x ∈ WL) :
    Ct l Z EL1 n0 (⟨"java/lang/String", "<init>", "([CIILjava/lang/Void;)V"⟩ : MethodName) jdk_42_method_149_code 6 (Option.none : Option Jvm.ClassFile.FieldType) ({ frames := 1, cells := 4, slots := 8, locals := 12 } : Room) #[(.ref x), (.ref b), (.int (0 : Int32)), (.int (0 : Int32)), .null] h WL FL (Q_s4e Z G1 eo x b h) := by
  refine Ct.of (plainFor_of_name pn0) ?_
  intro p e s m below meth c s1 hx hby hml hnm hret hlk X0
  refine Wo.cast (f' := (mkF m 0 #[.val (.ref x), .val (.ref b), .val (.int (0 : Int32)), .val (.int (0 : Int32)), .val .null, .unset] [])) (by first | rfl | (simp [entryFrame, mkF, argsToLocals, Value.category]; done)) ?_
  have K0 : Keep h h [x] := Keep.refl _ _
  show Wo _ _ _ _ _ _ _ _ _ _ _ s1 (mkF m 0 #[.val (.ref x), .val (.ref b), .val (.int (0 : Int32)), .val (.int (0 : Int32)), .val .null, .unset] [])
  refine Wo.by (fun _ => XS.aloadN X0.here hx rfl (hb hby d3_0) rfl rfl) ?_
  show Wo _ _ _ _ _ _ _ _ _ _ _ s1 (mkF m 1 #[.val (.ref x), .val (.ref b), .val (.int (0 : Int32)), .val (.int (0 : Int32)), .val .null, .unset] [.ref x])
  refine X0.initO hx (w15 cx) (w16 cx) (w17 cx) (by rw [hml]; rfl) (hb hby d3_1) (nle rfl) (W := 0) (Nat.le_of_eq rfl) (nle rfl) ?_
  intro T1 X1
  show Wo _ _ _ _ _ _ _ _ _ _ _ T1 (mkF m 4 #[.val (.ref x), .val (.ref b), .val (.int (0 : Int32)), .val (.int (0 : Int32)), .val .null, .unset] [])
  refine Wo.by (fun _ => XS.iloadN X1.here hx rfl (hb hby d3_4) rfl) ?_
  show Wo _ _ _ _ _ _ _ _ _ _ _ T1 (mkF m 5 #[.val (.ref x), .val (.ref b), .val (.int (0 : Int32)), .val (.int (0 : Int32)), .val .null, .unset] [.int (0 : Int32)])
  refine Wo.by (fun _ => XS.ifNo X1.here hx rfl (hb hby d3_5) rfl (by decide)) ?_
  show Wo _ _ _ _ _ _ _ _ _ _ _ T1 (mkF m 8 #[.val (.ref x), .val (.ref b), .val (.int (0 : Int32)), .val (.int (0 : Int32)), .val .null, .unset] [])
  refine Wo.by (fun _ => XS.aloadN X1.here hx rfl (hb hby d3_8) rfl rfl) ?_
  show Wo _ _ _ _ _ _ _ _ _ _ _ T1 (mkF m 9 #[.val (.ref x), .val (.ref b), .val (.int (0 : Int32)), .val (.int (0 : Int32)), .val .null, .unset] [.ref x])
  refine X1.ldc hx (w18 cx) (strAtoms cx) (by decide) (vs := []) (z := (0 : Int32)) ⟨by decide, by decide⟩ (by decide) rfl (hb hby d3_9) (n := 0) (nle rfl) (nle rfl) (nle rfl) (nle rfl) ?_
  intro T2 h2 a2 b2 k2 X2 E2 A2 C2 V2 B2
  have K3 : Keep h h2 [x] := K0.ext E2
  show Wo _ _ _ _ _ _ _ _ _ _ _ T2 (mkF m 11 #[.val (.ref x), .val (.ref b), .val (.int (0 : Int32)), .val (.int (0 : Int32)), .val .null, .unset] [.ref a2, .ref x])
  refine X2.getF hx (host := "") (Or.inl (w24 cx)) Via.refl V2 (hb hby d3_11) ?_
  intro T4 X4
  show Wo _ _ _ _ _ _ _ _ _ _ _ T4 (mkF m 14 #[.val (.ref x), .val (.ref b), .val (.int (0 : Int32)), .val (.int (0 : Int32)), .val .null, .unset] [.ref b2, .ref x])
  have F5 : Fld Z h2 x "java/lang/String" "value" "[B" .null := (P1.ext E2)
  have F6 : Exa Z h2 x "java/lang/String" := (P0.ext E2)
  refine X4.putF hx (host := "") (Or.inl (w24 cx)) Via.refl F5 F6 (Or.inr ⟨(w20 cx), rfl, hnm⟩) (w5 cx) (ty := (.array .byte)) (by decide) rfl rfl P3 (hb hby d3_14) ?_
  intro T7 h7 X7 W7 G7
  have K8 : Keep h h7 [x] := K3.wr W7 (Or.inl (List.mem_of_getElem? (i := 0) rfl))
  show Wo _ _ _ _ _ _ _ _ _ _ _ T7 (mkF m 17 #[.val (.ref x), .val (.ref b), .val (.int (0 : Int32)), .val (.int (0 : Int32)), .val .null, .unset] [])
  refine Wo.by (fun _ => XS.aloadN X7.here hx rfl (hb hby d3_17) rfl rfl) ?_
  show Wo _ _ _ _ _ _ _ _ _ _ _ T7 (mkF m 18 #[.val (.ref x), .val (.ref b), .val (.int (0 : Int32)), .val (.int (0 : Int32)), .val .null, .unset] [.ref x])
  refine X7.ldc hx (w18 cx) (strAtoms cx) (by decide) (vs := []) (z := (0 : Int32)) ⟨by decide, by decide⟩ (by decide) rfl (hb hby d3_18) (n := 0) (nle rfl) (nle rfl) (nle rfl) (nle rfl) ?_
  intro T9 h9 a9 b9 k9 X9 E9 A9 C9 V9 B9
  have K10 : Keep h h9 [x] := K8.ext E9
  show Wo _ _ _ _ _ _ _ _ _ _ _ T9 (mkF m 20 #[.val (.ref x), .val (.ref b), .val (.int (0 : Int32)), .val (.int (0 : Int32)), .val .null, .unset] [.ref a9, .ref x])
  refine X9.getF hx (host := "") (Or.inl (w25 cx)) Via.refl C9 (hb hby d3_20) ?_
  intro T11 X11
  show Wo _ _ _ _ _ _ _ _ _ _ _ T11 (mkF m 23 #[.val (.ref x), .val (.ref b), .val (.int (0 : Int32)), .val (.int (0 : Int32)), .val .null, .unset] [.int (0 : Int32), .ref x])
  have F12 : Fld Z h9 x "java/lang/String" "coder" "B" (.int (0 : Int32)) := (((P2.ext E2).other W7 (Or.inr (slot_ne (Or.inr (w21 cx)) (Or.inr (w20 cx)) (by decide) (t := .byte) (t' := (.array .byte)) (by decide) (by decide)))).ext E9)
  have F13 : Exa Z h9 x "java/lang/String" := ((F6.wr W7).ext E9)
  refine X11.putF hx (host := "") (Or.inl (w25 cx)) Via.refl F12 F13 (Or.inr ⟨(w21 cx), rfl, hnm⟩) (w5 cx) (ty := .byte) (by decide) rfl rfl P3 (hb hby d3_23) ?_
  intro T14 h14 X14 W14 G14
  have K15 : Keep h h14 [x] := K10.wr W14 (Or.inl (List.mem_of_getElem? (i := 0) rfl))
  show Wo _ _ _ _ _ _ _ _ _ _ _ T14 (mkF m 26 #[.val (.ref x), .val (.ref b), .val (.int (0 : Int32)), .val (.int (0 : Int32)), .val .null, .unset] [])
  have F16 : Fld Z h14 x "java/lang/String" "value" "[B" (.ref b2) := ((G7.ext E9).other W14 (Or.inr (slot_ne (Or.inr (w20 cx)) (Or.inr (w21 cx)) (by decide) (t := (.array .byte)) (t' := .byte) (by decide) (by decide))))
  have F17 : Exa Z h14 x "java/lang/String" := (F13.wr W14)
  have F18 : Arv Z h14 b2 k2 .byte (0 : Int32) [] (.int 0) := (((B2.other W7 (X14.neF (List.mem_of_getElem? (i := 3) rfl) P3)).ext E9).other W14 (X14.neF (List.mem_of_getElem? (i := 3) rfl) P3))
  have S19 : StrL Z h14 x b2 [] := ⟨F17, F16, G14, ⟨_, F18⟩, fc0, by decide⟩
  have X20 := WS.fl (FL2 := (b2 :: FL)) X14 (fun y hy => (List.mem_cons.mp hy).elim (fun q => q ▸ (List.mem_of_getElem? (i := 3) rfl)) (fun q0 => (List.mem_append_right [a9, b9, a2, b2] q0)))
  exact WS.retV X20 (WL' := []) (FL' := [b2]) hx hret hlk (hb hby d3_26) (nle rfl) (nle rfl) ⟨b2, rfl, rfl, rfl, K15, S19⟩
def Q_s1e (Z : State) (G1 : Int32) (eo : Addr) (x : Addr) (b : Addr) (kb : ClassId) (dv : Value) (h : Heap) (v : Option Value) (h' : Heap) (WL' FL' : List Addr) : Prop := ∃ t : Addr, v = none ∧ WL' = [] ∧ FL' = [t] ∧ Keep h h' [x] ∧ StrL Z h' x t []
set_option maxRecDepth 65536 in
set_option maxHeartbeats 4000000 in
theorem ct_s1e {l : Launch} {Z : State} {a0 : Array Value} {G1 : Int32} {eo : Addr} (cx : Cx a0 Z G1 eo) {n0 : Nat} (x : Addr) (b : Addr) (kb : ClassId) (dv : Value) (h : Heap) (WL FL : List Addr) (P0 : Exa Z h x "java/lang/String") (P1 : Fld Z h x "java/lang/String" "value" "[B" .null) (P2 : Fld Z h x "java/lang/String" "coder" "B" (.int (0 : Int32))) (P3 : x ∈ WL) (P4 : Arv Z h b kb .char (0 : Int32) [] dv) :
    Ct l Z EL1 n0 (⟨"java/lang/String", "<init>", "([C)V"⟩ : MethodName) jdk_42_method_3_code 2 (Option.none : Option Jvm.ClassFile.FieldType) ({ frames := 2, cells := 4, slots := 8, locals := 29 } : Room) #[(.ref x), (.ref b)] h WL FL (Q_s1e Z G1 eo x b kb dv h) := by
  refine Ct.of (plainFor_of_name pn0) ?_
  intro p e s m below meth c s1 hx hby hml hnm hret hlk X0
  refine Wo.cast (f' := (mkF m 0 #[.val (.ref x), .val (.ref b)] [])) (by first | rfl | (simp [entryFrame, mkF, argsToLocals, Value.category]; done)) ?_
  have K0 : Keep h h [x] := Keep.refl _ _
  show Wo _ _ _ _ _ _ _ _ _ _ _ s1 (mkF m 0 #[.val (.ref x), .val (.ref b)] [])
  refine Wo.by (fun _ => XS.aloadN X0.here hx rfl (hb hby d2_0) rfl rfl) ?_
  show Wo _ _ _ _ _ _ _ _ _ _ _ s1 (mkF m 1 #[.val (.ref x), .val (.ref b)] [.ref x])
  refine Wo.by (fun _ => XS.aloadN X0.here hx rfl (hb hby d2_1) rfl rfl) ?_
  show Wo _ _ _ _ _ _ _ _ _ _ _ s1 (mkF m 2 #[.val (.ref x), .val (.ref b)] [.ref b, .ref x])
  refine Wo.by (fun _ => XS.iconst X0.here hx rfl (hb hby d2_2)) ?_
  show Wo _ _ _ _ _ _ _ _ _ _ _ s1 (mkF m 3 #[.val (.ref x), .val (.ref b)] [.int (0 : Int32), .ref b, .ref x])
  refine Wo.by (fun _ => XS.aloadN X0.here hx rfl (hb hby d2_3) rfl rfl) ?_
  show Wo _ _ _ _ _ _ _ _ _ _ _ s1 (mkF m 4 #[.val (.ref x), .val (.ref b)] [.ref b, .int (0 : Int32), .ref b, .ref x])
  refine WS.alen X0 hx P4 (hb hby d2_4) ?_
  show Wo _ _ _ _ _ _ _ _ _ _ _ s1 (mkF m 5 #[.val (.ref x), .val (.ref b)] [.int (0 : Int32), .int (0 : Int32), .ref b, .ref x])
  refine Wo.by (fun _ => XS.aconstNull X0.here hx rfl (hb hby d2_5)) ?_
  show Wo _ _ _ _ _ _ _ _ _ _ _ s1 (mkF m 6 #[.val (.ref x), .val (.ref b)] [.null, .int (0 : Int32), .int (0 : Int32), .ref b, .ref x])
  refine X0.callC hx rfl (w11 cx) (w12 cx) (w14 cx) (by decide) (Ct.pay (W := 0) (ct_s4e cx x b h _ _ P0 P1 P2 P3) (w14 cx) (w6 cx) (nle rfl) (nle rfl)) (by rw [hml]; rfl) (argsL := [.ref b, .int (0 : Int32), .int (0 : Int32), .null]) (rest := []) (lenOf pd0 rfl) rfl rfl (Nat.le_of_eq rfl) (hb hby d2_6) (nle rfl) (nle rfl) ?_
  rintro T1 h1 _ _ _ X1 ⟨a2, rfl, rfl, rfl, J1, G3⟩
  have K4 : Keep h h1 [x] := K0.trans J1 (allS (Or.inl (List.mem_of_getElem? (i := 0) rfl)) all0)
  show Wo _ _ _ _ _ _ _ _ _ _ _ T1 (mkF m 9 #[.val (.ref x), .val (.ref b)] [])
  exact WS.retV X1 (WL' := []) (FL' := [a2]) hx hret hlk (hb hby d2_9) (nle rfl) (nle rfl) ⟨a2, rfl, rfl, rfl, K4, G3⟩
def Q_draw (Z : State) (G1 : Int32) (eo : Addr) (n : Int32) (a : Int32) (b : Int32) (d : Int32) (h : Heap) (v : Option Value) (h' : Heap) (WL' FL' : List Addr) : Prop := ∃ x : Addr, ∃ t : Addr, ∃ cs : List Int32, v = some (.ref x) ∧ WL' = [x] ∧ FL' = [t] ∧ Keep h h' [] ∧ StrL Z h' x t cs
set_option maxRecDepth 65536 in
set_option maxHeartbeats 4000000 in
theorem ct_draw_0 {l : Launch} {Z : State} {a0 : Array Value} {G1 : Int32} {eo : Addr} (cx : Cx a0 Z G1 eo) {n0 : Nat} (n : Int32) (a : Int32) (b : Int32) (d : Int32) (h : Heap) (WL FL : List Addr)  (en : n &&& 3 = 0) :
    Ct l Z EL1 n0 (⟨"com/example/need_to_know/needtoknow/admin/AdminNoticeRefusalPinLaw", "draw", "(IIII)Ljava/lang/String;"⟩ : MethodName) method_2_code 8 (Option.some (Jvm.ClassFile.FieldType.object "java/lang/String")) ({ frames := 4, cells := 6, slots := 12, locals := 66 } : Room) #[(.int n), (.int a), (.int b), (.int d)] h WL FL (Q_draw Z G1 eo n a b d h) := by
  refine Ct.of (plainFor_of_name pn1) ?_
  intro p e s m below meth c s1 hx hby hml hnm hret hlk X0
  refine Wo.cast (f' := (mkF m 0 #[.val (.int n), .val (.int a), .val (.int b), .val (.int d), .unset, .unset, .unset, .unset] [])) (by first | rfl | (simp [entryFrame, mkF, argsToLocals, Value.category]; done)) ?_
  have K0 : Keep h h [] := Keep.refl _ _
  show Wo _ _ _ _ _ _ _ _ _ _ _ s1 (mkF m 0 #[.val (.int n), .val (.int a), .val (.int b), .val (.int d), .unset, .unset, .unset, .unset] [])
  refine Wo.by (fun _ => XS.iloadN X0.here hx rfl (hb hby d1_0) rfl) ?_
  show Wo _ _ _ _ _ _ _ _ _ _ _ s1 (mkF m 1 #[.val (.int n), .val (.int a), .val (.int b), .val (.int d), .unset, .unset, .unset, .unset] [.int a])
  refine Wo.by (fun _ => XS.sipush X0.here hx rfl (hb hby d1_1)) ?_
  show Wo _ _ _ _ _ _ _ _ _ _ _ s1 (mkF m 4 #[.val (.int n), .val (.int a), .val (.int b), .val (.int d), .unset, .unset, .unset, .unset] [.int (255 : Int32), .int a])
  refine Wo.by (fun _ => XS.iand X0.here hx rfl (hb hby d1_4) rfl) ?_
  show Wo _ _ _ _ _ _ _ _ _ _ _ s1 (mkF m 5 #[.val (.int n), .val (.int a), .val (.int b), .val (.int d), .unset, .unset, .unset, .unset] [.int (a &&& (255 : Int32))])
  refine Wo.by (fun _ => XS.i2c X0.here hx rfl (hb hby d1_5) rfl) ?_
  show Wo _ _ _ _ _ _ _ _ _ _ _ s1 (mkF m 6 #[.val (.int n), .val (.int a), .val (.int b), .val (.int d), .unset, .unset, .unset, .unset] [.int ((a &&& (255 : Int32)).toUInt32.toUInt16.toUInt32.toInt32)])
  rw [i2c_mask]
  show Wo _ _ _ _ _ _ _ _ _ _ _ s1 (mkF m 6 #[.val (.int n), .val (.int a), .val (.int b), .val (.int d), .unset, .unset, .unset, .unset] [.int (a &&& (255 : Int32))])
  refine Wo.by (fun _ => XS.istore X0.here hx rfl (hb hby d1_6) rfl (l' := #[.val (.int n), .val (.int a), .val (.int b), .val (.int d), .val (.int (a &&& (255 : Int32))), .unset, .unset, .unset]) rfl) ?_
  show Wo _ _ _ _ _ _ _ _ _ _ _ s1 (mkF m 8 #[.val (.int n), .val (.int a), .val (.int b), .val (.int d), .val (.int (a &&& (255 : Int32))), .unset, .unset, .unset] [])
  refine Wo.by (fun _ => XS.iloadN X0.here hx rfl (hb hby d1_8) rfl) ?_
  show Wo _ _ _ _ _ _ _ _ _ _ _ s1 (mkF m 9 #[.val (.int n), .val (.int a), .val (.int b), .val (.int d), .val (.int (a &&& (255 : Int32))), .unset, .unset, .unset] [.int b])
  refine Wo.by (fun _ => XS.sipush X0.here hx rfl (hb hby d1_9)) ?_
  show Wo _ _ _ _ _ _ _ _ _ _ _ s1 (mkF m 12 #[.val (.int n), .val (.int a), .val (.int b), .val (.int d), .val (.int (a &&& (255 : Int32))), .unset, .unset, .unset] [.int (255 : Int32), .int b])
  refine Wo.by (fun _ => XS.iand X0.here hx rfl (hb hby d1_12) rfl) ?_
  show Wo _ _ _ _ _ _ _ _ _ _ _ s1 (mkF m 13 #[.val (.int n), .val (.int a), .val (.int b), .val (.int d), .val (.int (a &&& (255 : Int32))), .unset, .unset, .unset] [.int (b &&& (255 : Int32))])
  refine Wo.by (fun _ => XS.i2c X0.here hx rfl (hb hby d1_13) rfl) ?_
  show Wo _ _ _ _ _ _ _ _ _ _ _ s1 (mkF m 14 #[.val (.int n), .val (.int a), .val (.int b), .val (.int d), .val (.int (a &&& (255 : Int32))), .unset, .unset, .unset] [.int ((b &&& (255 : Int32)).toUInt32.toUInt16.toUInt32.toInt32)])
  rw [i2c_mask]
  show Wo _ _ _ _ _ _ _ _ _ _ _ s1 (mkF m 14 #[.val (.int n), .val (.int a), .val (.int b), .val (.int d), .val (.int (a &&& (255 : Int32))), .unset, .unset, .unset] [.int (b &&& (255 : Int32))])
  refine Wo.by (fun _ => XS.istore X0.here hx rfl (hb hby d1_14) rfl (l' := #[.val (.int n), .val (.int a), .val (.int b), .val (.int d), .val (.int (a &&& (255 : Int32))), .val (.int (b &&& (255 : Int32))), .unset, .unset]) rfl) ?_
  show Wo _ _ _ _ _ _ _ _ _ _ _ s1 (mkF m 16 #[.val (.int n), .val (.int a), .val (.int b), .val (.int d), .val (.int (a &&& (255 : Int32))), .val (.int (b &&& (255 : Int32))), .unset, .unset] [])
  refine Wo.by (fun _ => XS.iloadN X0.here hx rfl (hb hby d1_16) rfl) ?_
  show Wo _ _ _ _ _ _ _ _ _ _ _ s1 (mkF m 17 #[.val (.int n), .val (.int a), .val (.int b), .val (.int d), .val (.int (a &&& (255 : Int32))), .val (.int (b &&& (255 : Int32))), .unset, .unset] [.int d])
  refine Wo.by (fun _ => XS.sipush X0.here hx rfl (hb hby d1_17)) ?_
  show Wo _ _ _ _ _ _ _ _ _ _ _ s1 (mkF m 20 #[.val (.int n), .val (.int a), .val (.int b), .val (.int d), .val (.int (a &&& (255 : Int32))), .val (.int (b &&& (255 : Int32))), .unset, .unset] [.int (255 : Int32), .int d])
  refine Wo.by (fun _ => XS.iand X0.here hx rfl (hb hby d1_20) rfl) ?_
  show Wo _ _ _ _ _ _ _ _ _ _ _ s1 (mkF m 21 #[.val (.int n), .val (.int a), .val (.int b), .val (.int d), .val (.int (a &&& (255 : Int32))), .val (.int (b &&& (255 : Int32))), .unset, .unset] [.int (d &&& (255 : Int32))])
  refine Wo.by (fun _ => XS.i2c X0.here hx rfl (hb hby d1_21) rfl) ?_
  show Wo _ _ _ _ _ _ _ _ _ _ _ s1 (mkF m 22 #[.val (.int n), .val (.int a), .val (.int b), .val (.int d), .val (.int (a &&& (255 : Int32))), .val (.int (b &&& (255 : Int32))), .unset, .unset] [.int ((d &&& (255 : Int32)).toUInt32.toUInt16.toUInt32.toInt32)])
  rw [i2c_mask]
  show Wo _ _ _ _ _ _ _ _ _ _ _ s1 (mkF m 22 #[.val (.int n), .val (.int a), .val (.int b), .val (.int d), .val (.int (a &&& (255 : Int32))), .val (.int (b &&& (255 : Int32))), .unset, .unset] [.int (d &&& (255 : Int32))])
  refine Wo.by (fun _ => XS.istore X0.here hx rfl (hb hby d1_22) rfl (l' := #[.val (.int n), .val (.int a), .val (.int b), .val (.int d), .val (.int (a &&& (255 : Int32))), .val (.int (b &&& (255 : Int32))), .val (.int (d &&& (255 : Int32))), .unset]) rfl) ?_
  show Wo _ _ _ _ _ _ _ _ _ _ _ s1 (mkF m 24 #[.val (.int n), .val (.int a), .val (.int b), .val (.int d), .val (.int (a &&& (255 : Int32))), .val (.int (b &&& (255 : Int32))), .val (.int (d &&& (255 : Int32))), .unset] [])
  refine Wo.by (fun _ => XS.iloadN X0.here hx rfl (hb hby d1_24) rfl) ?_
  show Wo _ _ _ _ _ _ _ _ _ _ _ s1 (mkF m 25 #[.val (.int n), .val (.int a), .val (.int b), .val (.int d), .val (.int (a &&& (255 : Int32))), .val (.int (b &&& (255 : Int32))), .val (.int (d &&& (255 : Int32))), .unset] [.int n])
  refine Wo.by (fun _ => XS.iconst X0.here hx rfl (hb hby d1_25)) ?_
  show Wo _ _ _ _ _ _ _ _ _ _ _ s1 (mkF m 26 #[.val (.int n), .val (.int a), .val (.int b), .val (.int d), .val (.int (a &&& (255 : Int32))), .val (.int (b &&& (255 : Int32))), .val (.int (d &&& (255 : Int32))), .unset] [.int (3 : Int32), .int n])
  refine Wo.by (fun _ => XS.iand X0.here hx rfl (hb hby d1_26) rfl) ?_
  show Wo _ _ _ _ _ _ _ _ _ _ _ s1 (mkF m 27 #[.val (.int n), .val (.int a), .val (.int b), .val (.int d), .val (.int (a &&& (255 : Int32))), .val (.int (b &&& (255 : Int32))), .val (.int (d &&& (255 : Int32))), .unset] [.int (n &&& (3 : Int32))])
  rw [en]
  show Wo _ _ _ _ _ _ _ _ _ _ _ s1 (mkF m 27 #[.val (.int n), .val (.int a), .val (.int b), .val (.int d), .val (.int (a &&& (255 : Int32))), .val (.int (b &&& (255 : Int32))), .val (.int (d &&& (255 : Int32))), .unset] [.int (0 : Int32)])
  refine Wo.by (fun _ => XS.istore X0.here hx rfl (hb hby d1_27) rfl (l' := #[.val (.int n), .val (.int a), .val (.int b), .val (.int d), .val (.int (a &&& (255 : Int32))), .val (.int (b &&& (255 : Int32))), .val (.int (d &&& (255 : Int32))), .val (.int (0 : Int32))]) rfl) ?_
  show Wo _ _ _ _ _ _ _ _ _ _ _ s1 (mkF m 29 #[.val (.int n), .val (.int a), .val (.int b), .val (.int d), .val (.int (a &&& (255 : Int32))), .val (.int (b &&& (255 : Int32))), .val (.int (d &&& (255 : Int32))), .val (.int (0 : Int32))] [])
  refine Wo.by (fun _ => XS.iload X0.here hx rfl (hb hby d1_29) rfl) ?_
  show Wo _ _ _ _ _ _ _ _ _ _ _ s1 (mkF m 31 #[.val (.int n), .val (.int a), .val (.int b), .val (.int d), .val (.int (a &&& (255 : Int32))), .val (.int (b &&& (255 : Int32))), .val (.int (d &&& (255 : Int32))), .val (.int (0 : Int32))] [.int (0 : Int32)])
  refine Wo.by (fun _ => XS.ifNo X0.here hx rfl (hb hby d1_31) rfl (by decide)) ?_
  show Wo _ _ _ _ _ _ _ _ _ _ _ s1 (mkF m 34 #[.val (.int n), .val (.int a), .val (.int b), .val (.int d), .val (.int (a &&& (255 : Int32))), .val (.int (b &&& (255 : Int32))), .val (.int (d &&& (255 : Int32))), .val (.int (0 : Int32))] [])
  refine X0.newO hx (w4 cx) (w5 cx) (w6 cx) (hb hby d1_34) (nle rfl) (nle rfl) ?_
  intro T1 h1 a1 X1 E1 g1 A1 D1
  have ge2 : h.size ≤ a1 := Nat.le_trans K0.1 g1
  have K3 : Keep h h1 [] := K0.ext E1
  have D4 : Fld Z h1 a1 "java/lang/String" "value" "[B" .null := D1 (Or.inr (w20 cx)) (ty := (.array .byte)) (by decide)
  have D5 : Fld Z h1 a1 "java/lang/String" "coder" "B" (.int (0 : Int32)) := D1 (Or.inr (w21 cx)) (ty := .byte) (by decide)
  show Wo _ _ _ _ _ _ _ _ _ _ _ T1 (mkF m 37 #[.val (.int n), .val (.int a), .val (.int b), .val (.int d), .val (.int (a &&& (255 : Int32))), .val (.int (b &&& (255 : Int32))), .val (.int (d &&& (255 : Int32))), .val (.int (0 : Int32))] [.ref a1])
  refine Wo.by (fun _ => XS.dup X1.here hx rfl (hb hby d1_37) rfl rfl) ?_
  show Wo _ _ _ _ _ _ _ _ _ _ _ T1 (mkF m 38 #[.val (.int n), .val (.int a), .val (.int b), .val (.int d), .val (.int (a &&& (255 : Int32))), .val (.int (b &&& (255 : Int32))), .val (.int (d &&& (255 : Int32))), .val (.int (0 : Int32))] [.ref a1, .ref a1])
  refine Wo.by (fun _ => XS.iconst X1.here hx rfl (hb hby d1_38)) ?_
  show Wo _ _ _ _ _ _ _ _ _ _ _ T1 (mkF m 39 #[.val (.int n), .val (.int a), .val (.int b), .val (.int d), .val (.int (a &&& (255 : Int32))), .val (.int (b &&& (255 : Int32))), .val (.int (d &&& (255 : Int32))), .val (.int (0 : Int32))] [.int (0 : Int32), .ref a1, .ref a1])
  refine X1.newP (aty := .char) hx (w7 cx) (hb hby d1_39) (by decide) (cap := 0) (nle rfl) (nle rfl) (nle rfl) (nle rfl) ?_
  intro T6 h6 a6 k6 X6 E6 g6 A6
  have ge7 : h.size ≤ a6 := Nat.le_trans K3.1 g6
  have K8 : Keep h h6 [] := K3.ext E6
  have V9 : Arv Z h6 a6 k6 .char (0 : Int32) [] (.int (0 : Int32)) := A6
  show Wo _ _ _ _ _ _ _ _ _ _ _ T6 (mkF m 41 #[.val (.int n), .val (.int a), .val (.int b), .val (.int d), .val (.int (a &&& (255 : Int32))), .val (.int (b &&& (255 : Int32))), .val (.int (d &&& (255 : Int32))), .val (.int (0 : Int32))] [.ref a6, .ref a1, .ref a1])
  have F10 : Exa Z h6 a1 "java/lang/String" := (A1.ext E6)
  have F11 : Fld Z h6 a1 "java/lang/String" "value" "[B" .null := (D4.ext E6)
  have F12 : Fld Z h6 a1 "java/lang/String" "coder" "B" (.int (0 : Int32)) := (D5.ext E6)
  refine X6.callC hx rfl (w8 cx) (w9 cx) (w10 cx) (by decide) (Ct.pay (W := 1) (ct_s1e cx a1 a6 _ _ h6 _ _ F10 F11 F12 (List.mem_of_getElem? (i := 1) rfl) V9) (w10 cx) (w6 cx) (nle rfl) (nle rfl)) (by rw [hml]; rfl) (argsL := [.ref a6]) (rest := [.ref a1]) (lenOf pd1 rfl) rfl rfl (Nat.le_of_eq rfl) (hb hby d1_41) (nle rfl) (nle rfl) ?_
  rintro T13 h13 _ _ _ X13 ⟨a14, rfl, rfl, rfl, J13, G15⟩
  have K16 : Keep h h13 [] := K8.trans J13 (allS (Or.inr ge2) all0)
  show Wo _ _ _ _ _ _ _ _ _ _ _ T13 (mkF m 44 #[.val (.int n), .val (.int a), .val (.int b), .val (.int d), .val (.int (a &&& (255 : Int32))), .val (.int (b &&& (255 : Int32))), .val (.int (d &&& (255 : Int32))), .val (.int (0 : Int32))] [.ref a1])
  have X17 := WS.drop (A := []) (B := (a1 :: WL)) X13
  have X18 := WS.fl (FL2 := (a14 :: FL)) X17 (fun y hy => (List.mem_cons.mp hy).elim (fun q => q ▸ (List.mem_of_getElem? (i := 1) rfl)) (fun q0 => (List.mem_append_right [a6, a14] q0)))
  exact WS.retA X18 (WL' := [a1]) (FL' := [a14]) hx hret rfl rfl hlk (hb hby d1_44) (nle rfl) (nle rfl) ⟨a1, a14, [], rfl, rfl, rfl, K16, G15⟩
set_option maxRecDepth 65536 in
set_option maxHeartbeats 4000000 in
theorem ct_draw_1 {l : Launch} {Z : State} {a0 : Array Value} {G1 : Int32} {eo : Addr} (cx : Cx a0 Z G1 eo) {n0 : Nat} (n : Int32) (a : Int32) (b : Int32) (d : Int32) (h : Heap) (WL FL : List Addr)  (en : n &&& 3 = 1) :
    Ct l Z EL1 n0 (⟨"com/example/need_to_know/needtoknow/admin/AdminNoticeRefusalPinLaw", "draw", "(IIII)Ljava/lang/String;"⟩ : MethodName) method_2_code 8 (Option.some (Jvm.ClassFile.FieldType.object "java/lang/String")) ({ frames := 4, cells := 6, slots := 12, locals := 66 } : Room) #[(.int n), (.int a), (.int b), (.int d)] h WL FL (Q_draw Z G1 eo n a b d h) := by
  refine Ct.of (plainFor_of_name pn1) ?_
  intro p e s m below meth c s1 hx hby hml hnm hret hlk X0
  refine Wo.cast (f' := (mkF m 0 #[.val (.int n), .val (.int a), .val (.int b), .val (.int d), .unset, .unset, .unset, .unset] [])) (by first | rfl | (simp [entryFrame, mkF, argsToLocals, Value.category]; done)) ?_
  have K0 : Keep h h [] := Keep.refl _ _
  show Wo _ _ _ _ _ _ _ _ _ _ _ s1 (mkF m 0 #[.val (.int n), .val (.int a), .val (.int b), .val (.int d), .unset, .unset, .unset, .unset] [])
  refine Wo.by (fun _ => XS.iloadN X0.here hx rfl (hb hby d1_0) rfl) ?_
  show Wo _ _ _ _ _ _ _ _ _ _ _ s1 (mkF m 1 #[.val (.int n), .val (.int a), .val (.int b), .val (.int d), .unset, .unset, .unset, .unset] [.int a])
  refine Wo.by (fun _ => XS.sipush X0.here hx rfl (hb hby d1_1)) ?_
  show Wo _ _ _ _ _ _ _ _ _ _ _ s1 (mkF m 4 #[.val (.int n), .val (.int a), .val (.int b), .val (.int d), .unset, .unset, .unset, .unset] [.int (255 : Int32), .int a])
  refine Wo.by (fun _ => XS.iand X0.here hx rfl (hb hby d1_4) rfl) ?_
  show Wo _ _ _ _ _ _ _ _ _ _ _ s1 (mkF m 5 #[.val (.int n), .val (.int a), .val (.int b), .val (.int d), .unset, .unset, .unset, .unset] [.int (a &&& (255 : Int32))])
  refine Wo.by (fun _ => XS.i2c X0.here hx rfl (hb hby d1_5) rfl) ?_
  show Wo _ _ _ _ _ _ _ _ _ _ _ s1 (mkF m 6 #[.val (.int n), .val (.int a), .val (.int b), .val (.int d), .unset, .unset, .unset, .unset] [.int ((a &&& (255 : Int32)).toUInt32.toUInt16.toUInt32.toInt32)])
  rw [i2c_mask]
  show Wo _ _ _ _ _ _ _ _ _ _ _ s1 (mkF m 6 #[.val (.int n), .val (.int a), .val (.int b), .val (.int d), .unset, .unset, .unset, .unset] [.int (a &&& (255 : Int32))])
  refine Wo.by (fun _ => XS.istore X0.here hx rfl (hb hby d1_6) rfl (l' := #[.val (.int n), .val (.int a), .val (.int b), .val (.int d), .val (.int (a &&& (255 : Int32))), .unset, .unset, .unset]) rfl) ?_
  show Wo _ _ _ _ _ _ _ _ _ _ _ s1 (mkF m 8 #[.val (.int n), .val (.int a), .val (.int b), .val (.int d), .val (.int (a &&& (255 : Int32))), .unset, .unset, .unset] [])
  refine Wo.by (fun _ => XS.iloadN X0.here hx rfl (hb hby d1_8) rfl) ?_
  show Wo _ _ _ _ _ _ _ _ _ _ _ s1 (mkF m 9 #[.val (.int n), .val (.int a), .val (.int b), .val (.int d), .val (.int (a &&& (255 : Int32))), .unset, .unset, .unset] [.int b])
  refine Wo.by (fun _ => XS.sipush X0.here hx rfl (hb hby d1_9)) ?_
  show Wo _ _ _ _ _ _ _ _ _ _ _ s1 (mkF m 12 #[.val (.int n), .val (.int a), .val (.int b), .val (.int d), .val (.int (a &&& (255 : Int32))), .unset, .unset, .unset] [.int (255 : Int32), .int b])
  refine Wo.by (fun _ => XS.iand X0.here hx rfl (hb hby d1_12) rfl) ?_
  show Wo _ _ _ _ _ _ _ _ _ _ _ s1 (mkF m 13 #[.val (.int n), .val (.int a), .val (.int b), .val (.int d), .val (.int (a &&& (255 : Int32))), .unset, .unset, .unset] [.int (b &&& (255 : Int32))])
  refine Wo.by (fun _ => XS.i2c X0.here hx rfl (hb hby d1_13) rfl) ?_
  show Wo _ _ _ _ _ _ _ _ _ _ _ s1 (mkF m 14 #[.val (.int n), .val (.int a), .val (.int b), .val (.int d), .val (.int (a &&& (255 : Int32))), .unset, .unset, .unset] [.int ((b &&& (255 : Int32)).toUInt32.toUInt16.toUInt32.toInt32)])
  rw [i2c_mask]
  show Wo _ _ _ _ _ _ _ _ _ _ _ s1 (mkF m 14 #[.val (.int n), .val (.int a), .val (.int b), .val (.int d), .val (.int (a &&& (255 : Int32))), .unset, .unset, .unset] [.int (b &&& (255 : Int32))])
  refine Wo.by (fun _ => XS.istore X0.here hx rfl (hb hby d1_14) rfl (l' := #[.val (.int n), .val (.int a), .val (.int b), .val (.int d), .val (.int (a &&& (255 : Int32))), .val (.int (b &&& (255 : Int32))), .unset, .unset]) rfl) ?_
  show Wo _ _ _ _ _ _ _ _ _ _ _ s1 (mkF m 16 #[.val (.int n), .val (.int a), .val (.int b), .val (.int d), .val (.int (a &&& (255 : Int32))), .val (.int (b &&& (255 : Int32))), .unset, .unset] [])
  refine Wo.by (fun _ => XS.iloadN X0.here hx rfl (hb hby d1_16) rfl) ?_
  show Wo _ _ _ _ _ _ _ _ _ _ _ s1 (mkF m 17 #[.val (.int n), .val (.int a), .val (.int b), .val (.int d), .val (.int (a &&& (255 : Int32))), .val (.int (b &&& (255 : Int32))), .unset, .unset] [.int d])
  refine Wo.by (fun _ => XS.sipush X0.here hx rfl (hb hby d1_17)) ?_
  show Wo _ _ _ _ _ _ _ _ _ _ _ s1 (mkF m 20 #[.val (.int n), .val (.int a), .val (.int b), .val (.int d), .val (.int (a &&& (255 : Int32))), .val (.int (b &&& (255 : Int32))), .unset, .unset] [.int (255 : Int32), .int d])
  refine Wo.by (fun _ => XS.iand X0.here hx rfl (hb hby d1_20) rfl) ?_
  show Wo _ _ _ _ _ _ _ _ _ _ _ s1 (mkF m 21 #[.val (.int n), .val (.int a), .val (.int b), .val (.int d), .val (.int (a &&& (255 : Int32))), .val (.int (b &&& (255 : Int32))), .unset, .unset] [.int (d &&& (255 : Int32))])
  refine Wo.by (fun _ => XS.i2c X0.here hx rfl (hb hby d1_21) rfl) ?_
  show Wo _ _ _ _ _ _ _ _ _ _ _ s1 (mkF m 22 #[.val (.int n), .val (.int a), .val (.int b), .val (.int d), .val (.int (a &&& (255 : Int32))), .val (.int (b &&& (255 : Int32))), .unset, .unset] [.int ((d &&& (255 : Int32)).toUInt32.toUInt16.toUInt32.toInt32)])
  rw [i2c_mask]
  show Wo _ _ _ _ _ _ _ _ _ _ _ s1 (mkF m 22 #[.val (.int n), .val (.int a), .val (.int b), .val (.int d), .val (.int (a &&& (255 : Int32))), .val (.int (b &&& (255 : Int32))), .unset, .unset] [.int (d &&& (255 : Int32))])
  refine Wo.by (fun _ => XS.istore X0.here hx rfl (hb hby d1_22) rfl (l' := #[.val (.int n), .val (.int a), .val (.int b), .val (.int d), .val (.int (a &&& (255 : Int32))), .val (.int (b &&& (255 : Int32))), .val (.int (d &&& (255 : Int32))), .unset]) rfl) ?_
  show Wo _ _ _ _ _ _ _ _ _ _ _ s1 (mkF m 24 #[.val (.int n), .val (.int a), .val (.int b), .val (.int d), .val (.int (a &&& (255 : Int32))), .val (.int (b &&& (255 : Int32))), .val (.int (d &&& (255 : Int32))), .unset] [])
  refine Wo.by (fun _ => XS.iloadN X0.here hx rfl (hb hby d1_24) rfl) ?_
  show Wo _ _ _ _ _ _ _ _ _ _ _ s1 (mkF m 25 #[.val (.int n), .val (.int a), .val (.int b), .val (.int d), .val (.int (a &&& (255 : Int32))), .val (.int (b &&& (255 : Int32))), .val (.int (d &&& (255 : Int32))), .unset] [.int n])
  refine Wo.by (fun _ => XS.iconst X0.here hx rfl (hb hby d1_25)) ?_
  show Wo _ _ _ _ _ _ _ _ _ _ _ s1 (mkF m 26 #[.val (.int n), .val (.int a), .val (.int b), .val (.int d), .val (.int (a &&& (255 : Int32))), .val (.int (b &&& (255 : Int32))), .val (.int (d &&& (255 : Int32))), .unset] [.int (3 : Int32), .int n])
  refine Wo.by (fun _ => XS.iand X0.here hx rfl (hb hby d1_26) rfl) ?_
  show Wo _ _ _ _ _ _ _ _ _ _ _ s1 (mkF m 27 #[.val (.int n), .val (.int a), .val (.int b), .val (.int d), .val (.int (a &&& (255 : Int32))), .val (.int (b &&& (255 : Int32))), .val (.int (d &&& (255 : Int32))), .unset] [.int (n &&& (3 : Int32))])
  rw [en]
  show Wo _ _ _ _ _ _ _ _ _ _ _ s1 (mkF m 27 #[.val (.int n), .val (.int a), .val (.int b), .val (.int d), .val (.int (a &&& (255 : Int32))), .val (.int (b &&& (255 : Int32))), .val (.int (d &&& (255 : Int32))), .unset] [.int (1 : Int32)])
  refine Wo.by (fun _ => XS.istore X0.here hx rfl (hb hby d1_27) rfl (l' := #[.val (.int n), .val (.int a), .val (.int b), .val (.int d), .val (.int (a &&& (255 : Int32))), .val (.int (b &&& (255 : Int32))), .val (.int (d &&& (255 : Int32))), .val (.int (1 : Int32))]) rfl) ?_
  show Wo _ _ _ _ _ _ _ _ _ _ _ s1 (mkF m 29 #[.val (.int n), .val (.int a), .val (.int b), .val (.int d), .val (.int (a &&& (255 : Int32))), .val (.int (b &&& (255 : Int32))), .val (.int (d &&& (255 : Int32))), .val (.int (1 : Int32))] [])
  refine Wo.by (fun _ => XS.iload X0.here hx rfl (hb hby d1_29) rfl) ?_
  show Wo _ _ _ _ _ _ _ _ _ _ _ s1 (mkF m 31 #[.val (.int n), .val (.int a), .val (.int b), .val (.int d), .val (.int (a &&& (255 : Int32))), .val (.int (b &&& (255 : Int32))), .val (.int (d &&& (255 : Int32))), .val (.int (1 : Int32))] [.int (1 : Int32)])
  refine Wo.by (fun _ => XS.ifYes X0.here hx rfl (pc0 := 31) (pc' := 45) rfl (hb hby d1_31) rfl (by decide) (by decide) (by decide)) ?_
  show Wo _ _ _ _ _ _ _ _ _ _ _ s1 (mkF m 45 #[.val (.int n), .val (.int a), .val (.int b), .val (.int d), .val (.int (a &&& (255 : Int32))), .val (.int (b &&& (255 : Int32))), .val (.int (d &&& (255 : Int32))), .val (.int (1 : Int32))] [])
  refine Wo.by (fun _ => XS.iload X0.here hx rfl (hb hby d1_45) rfl) ?_
  show Wo _ _ _ _ _ _ _ _ _ _ _ s1 (mkF m 47 #[.val (.int n), .val (.int a), .val (.int b), .val (.int d), .val (.int (a &&& (255 : Int32))), .val (.int (b &&& (255 : Int32))), .val (.int (d &&& (255 : Int32))), .val (.int (1 : Int32))] [.int (1 : Int32)])
  refine Wo.by (fun _ => XS.iconst X0.here hx rfl (hb hby d1_47)) ?_
  show Wo _ _ _ _ _ _ _ _ _ _ _ s1 (mkF m 48 #[.val (.int n), .val (.int a), .val (.int b), .val (.int d), .val (.int (a &&& (255 : Int32))), .val (.int (b &&& (255 : Int32))), .val (.int (d &&& (255 : Int32))), .val (.int (1 : Int32))] [.int (1 : Int32), .int (1 : Int32)])
  refine Wo.by (fun _ => XS.icmpNo X0.here hx rfl (hb hby d1_48) rfl (by decide)) ?_
  show Wo _ _ _ _ _ _ _ _ _ _ _ s1 (mkF m 51 #[.val (.int n), .val (.int a), .val (.int b), .val (.int d), .val (.int (a &&& (255 : Int32))), .val (.int (b &&& (255 : Int32))), .val (.int (d &&& (255 : Int32))), .val (.int (1 : Int32))] [])
  refine X0.newO hx (w4 cx) (w5 cx) (w6 cx) (hb hby d1_51) (nle rfl) (nle rfl) ?_
  intro T1 h1 a1 X1 E1 g1 A1 D1
  have ge2 : h.size ≤ a1 := Nat.le_trans K0.1 g1
  have K3 : Keep h h1 [] := K0.ext E1
  have D4 : Fld Z h1 a1 "java/lang/String" "value" "[B" .null := D1 (Or.inr (w20 cx)) (ty := (.array .byte)) (by decide)
  have D5 : Fld Z h1 a1 "java/lang/String" "coder" "B" (.int (0 : Int32)) := D1 (Or.inr (w21 cx)) (ty := .byte) (by decide)
  show Wo _ _ _ _ _ _ _ _ _ _ _ T1 (mkF m 54 #[.val (.int n), .val (.int a), .val (.int b), .val (.int d), .val (.int (a &&& (255 : Int32))), .val (.int (b &&& (255 : Int32))), .val (.int (d &&& (255 : Int32))), .val (.int (1 : Int32))] [.ref a1])
  refine Wo.by (fun _ => XS.dup X1.here hx rfl (hb hby d1_54) rfl rfl) ?_
  show Wo _ _ _ _ _ _ _ _ _ _ _ T1 (mkF m 55 #[.val (.int n), .val (.int a), .val (.int b), .val (.int d), .val (.int (a &&& (255 : Int32))), .val (.int (b &&& (255 : Int32))), .val (.int (d &&& (255 : Int32))), .val (.int (1 : Int32))] [.ref a1, .ref a1])
  refine Wo.by (fun _ => XS.iconst X1.here hx rfl (hb hby d1_55)) ?_
  show Wo _ _ _ _ _ _ _ _ _ _ _ T1 (mkF m 56 #[.val (.int n), .val (.int a), .val (.int b), .val (.int d), .val (.int (a &&& (255 : Int32))), .val (.int (b &&& (255 : Int32))), .val (.int (d &&& (255 : Int32))), .val (.int (1 : Int32))] [.int (1 : Int32), .ref a1, .ref a1])
  refine X1.newP (aty := .char) hx (w7 cx) (hb hby d1_56) (by decide) (cap := 1) (nle rfl) (nle rfl) (nle rfl) (nle rfl) ?_
  intro T6 h6 a6 k6 X6 E6 g6 A6
  have ge7 : h.size ≤ a6 := Nat.le_trans K3.1 g6
  have K8 : Keep h h6 [] := K3.ext E6
  have V9 : Arv Z h6 a6 k6 .char (1 : Int32) [(.int (0 : Int32))] (.int (0 : Int32)) := Arv.pad A6 (pad_rep [] _ 1)
  show Wo _ _ _ _ _ _ _ _ _ _ _ T6 (mkF m 58 #[.val (.int n), .val (.int a), .val (.int b), .val (.int d), .val (.int (a &&& (255 : Int32))), .val (.int (b &&& (255 : Int32))), .val (.int (d &&& (255 : Int32))), .val (.int (1 : Int32))] [.ref a6, .ref a1, .ref a1])
  refine Wo.by (fun _ => XS.dup X6.here hx rfl (hb hby d1_58) rfl rfl) ?_
  show Wo _ _ _ _ _ _ _ _ _ _ _ T6 (mkF m 59 #[.val (.int n), .val (.int a), .val (.int b), .val (.int d), .val (.int (a &&& (255 : Int32))), .val (.int (b &&& (255 : Int32))), .val (.int (d &&& (255 : Int32))), .val (.int (1 : Int32))] [.ref a6, .ref a6, .ref a1, .ref a1])
  refine Wo.by (fun _ => XS.iconst X6.here hx rfl (hb hby d1_59)) ?_
  show Wo _ _ _ _ _ _ _ _ _ _ _ T6 (mkF m 60 #[.val (.int n), .val (.int a), .val (.int b), .val (.int d), .val (.int (a &&& (255 : Int32))), .val (.int (b &&& (255 : Int32))), .val (.int (d &&& (255 : Int32))), .val (.int (1 : Int32))] [.int (0 : Int32), .ref a6, .ref a6, .ref a1, .ref a1])
  refine Wo.by (fun _ => XS.iload X6.here hx rfl (hb hby d1_60) rfl) ?_
  show Wo _ _ _ _ _ _ _ _ _ _ _ T6 (mkF m 62 #[.val (.int n), .val (.int a), .val (.int b), .val (.int d), .val (.int (a &&& (255 : Int32))), .val (.int (b &&& (255 : Int32))), .val (.int (d &&& (255 : Int32))), .val (.int (1 : Int32))] [.int (a &&& (255 : Int32)), .int (0 : Int32), .ref a6, .ref a6, .ref a1, .ref a1])
  refine X6.stC hx V9 (j := (0 : Int32)) (x := (a &&& (255 : Int32))) (i := 0) (by decide) rfl (nlt rfl) (List.mem_of_getElem? (i := 0) rfl) (hb hby d1_62) ?_
  intro T10 h10 X10 W10 G10
  have K11 : Keep h h10 [] := K8.wr W10 (Or.inr ge7)
  have V12 : Arv Z h10 a6 k6 .char (1 : Int32) [(.int (a &&& (255 : Int32)))] (.int (0 : Int32)) := by have q := G10; rw [nar255] at q; exact q
  show Wo _ _ _ _ _ _ _ _ _ _ _ T10 (mkF m 63 #[.val (.int n), .val (.int a), .val (.int b), .val (.int d), .val (.int (a &&& (255 : Int32))), .val (.int (b &&& (255 : Int32))), .val (.int (d &&& (255 : Int32))), .val (.int (1 : Int32))] [.ref a6, .ref a1, .ref a1])
  have F13 : Exa Z h10 a1 "java/lang/String" := ((A1.ext E6).wr W10)
  have F14 : Fld Z h10 a1 "java/lang/String" "value" "[B" .null := ((D4.ext E6).other W10 (Or.inl (X10.ne (i := 1) (j := 0) rfl rfl (by decide))))
  have F15 : Fld Z h10 a1 "java/lang/String" "coder" "B" (.int (0 : Int32)) := ((D5.ext E6).other W10 (Or.inl (X10.ne (i := 1) (j := 0) rfl rfl (by decide))))
  refine X10.callC hx rfl (w8 cx) (w9 cx) (w10 cx) (by decide) (pay_new (W := 1) (hws cx) (w5 cx) (cs := [(a &&& (255 : Int32))]) (n := 1) (X10.ge (List.mem_of_getElem? (i := 1) rfl)) X10.n0le (List.mem_of_getElem? (i := 1) rfl) F13 F14 F15 V12 (X10.sta (S_C cx)) (N_C cx) rfl rfl (nle rfl) (nle rfl) (fcS (rng255 a) fc0) (nle rfl) (nle rfl)) (by rw [hml]; rfl) (argsL := [.ref a6]) (rest := [.ref a1]) (lenOf pd1 rfl) rfl rfl (Nat.le_of_eq rfl) (hb hby d1_63) (nle rfl) (nle rfl) ?_
  rintro T16 h16 _ _ _ X16 ⟨a17, rfl, rfl, rfl, J16, G18⟩
  have K19 : Keep h h16 [] := K11.trans J16 (allS (Or.inr ge2) all0)
  show Wo _ _ _ _ _ _ _ _ _ _ _ T16 (mkF m 66 #[.val (.int n), .val (.int a), .val (.int b), .val (.int d), .val (.int (a &&& (255 : Int32))), .val (.int (b &&& (255 : Int32))), .val (.int (d &&& (255 : Int32))), .val (.int (1 : Int32))] [.ref a1])
  have X20 := WS.drop (A := []) (B := (a1 :: WL)) X16
  have X21 := WS.fl (FL2 := (a17 :: FL)) X20 (fun y hy => (List.mem_cons.mp hy).elim (fun q => q ▸ (List.mem_of_getElem? (i := 1) rfl)) (fun q0 => (List.mem_append_right [a6, a17] q0)))
  exact WS.retA X21 (WL' := [a1]) (FL' := [a17]) hx hret rfl rfl hlk (hb hby d1_66) (nle rfl) (nle rfl) ⟨a1, a17, [(a &&& (255 : Int32))], rfl, rfl, rfl, K19, G18⟩
set_option maxRecDepth 65536 in
set_option maxHeartbeats 4000000 in
theorem ct_draw_2 {l : Launch} {Z : State} {a0 : Array Value} {G1 : Int32} {eo : Addr} (cx : Cx a0 Z G1 eo) {n0 : Nat} (n : Int32) (a : Int32) (b : Int32) (d : Int32) (h : Heap) (WL FL : List Addr)  (en : n &&& 3 = 2) :
    Ct l Z EL1 n0 (⟨"com/example/need_to_know/needtoknow/admin/AdminNoticeRefusalPinLaw", "draw", "(IIII)Ljava/lang/String;"⟩ : MethodName) method_2_code 8 (Option.some (Jvm.ClassFile.FieldType.object "java/lang/String")) ({ frames := 4, cells := 6, slots := 12, locals := 66 } : Room) #[(.int n), (.int a), (.int b), (.int d)] h WL FL (Q_draw Z G1 eo n a b d h) := by
  refine Ct.of (plainFor_of_name pn1) ?_
  intro p e s m below meth c s1 hx hby hml hnm hret hlk X0
  refine Wo.cast (f' := (mkF m 0 #[.val (.int n), .val (.int a), .val (.int b), .val (.int d), .unset, .unset, .unset, .unset] [])) (by first | rfl | (simp [entryFrame, mkF, argsToLocals, Value.category]; done)) ?_
  have K0 : Keep h h [] := Keep.refl _ _
  show Wo _ _ _ _ _ _ _ _ _ _ _ s1 (mkF m 0 #[.val (.int n), .val (.int a), .val (.int b), .val (.int d), .unset, .unset, .unset, .unset] [])
  refine Wo.by (fun _ => XS.iloadN X0.here hx rfl (hb hby d1_0) rfl) ?_
  show Wo _ _ _ _ _ _ _ _ _ _ _ s1 (mkF m 1 #[.val (.int n), .val (.int a), .val (.int b), .val (.int d), .unset, .unset, .unset, .unset] [.int a])
  refine Wo.by (fun _ => XS.sipush X0.here hx rfl (hb hby d1_1)) ?_
  show Wo _ _ _ _ _ _ _ _ _ _ _ s1 (mkF m 4 #[.val (.int n), .val (.int a), .val (.int b), .val (.int d), .unset, .unset, .unset, .unset] [.int (255 : Int32), .int a])
  refine Wo.by (fun _ => XS.iand X0.here hx rfl (hb hby d1_4) rfl) ?_
  show Wo _ _ _ _ _ _ _ _ _ _ _ s1 (mkF m 5 #[.val (.int n), .val (.int a), .val (.int b), .val (.int d), .unset, .unset, .unset, .unset] [.int (a &&& (255 : Int32))])
  refine Wo.by (fun _ => XS.i2c X0.here hx rfl (hb hby d1_5) rfl) ?_
  show Wo _ _ _ _ _ _ _ _ _ _ _ s1 (mkF m 6 #[.val (.int n), .val (.int a), .val (.int b), .val (.int d), .unset, .unset, .unset, .unset] [.int ((a &&& (255 : Int32)).toUInt32.toUInt16.toUInt32.toInt32)])
  rw [i2c_mask]
  show Wo _ _ _ _ _ _ _ _ _ _ _ s1 (mkF m 6 #[.val (.int n), .val (.int a), .val (.int b), .val (.int d), .unset, .unset, .unset, .unset] [.int (a &&& (255 : Int32))])
  refine Wo.by (fun _ => XS.istore X0.here hx rfl (hb hby d1_6) rfl (l' := #[.val (.int n), .val (.int a), .val (.int b), .val (.int d), .val (.int (a &&& (255 : Int32))), .unset, .unset, .unset]) rfl) ?_
  show Wo _ _ _ _ _ _ _ _ _ _ _ s1 (mkF m 8 #[.val (.int n), .val (.int a), .val (.int b), .val (.int d), .val (.int (a &&& (255 : Int32))), .unset, .unset, .unset] [])
  refine Wo.by (fun _ => XS.iloadN X0.here hx rfl (hb hby d1_8) rfl) ?_
  show Wo _ _ _ _ _ _ _ _ _ _ _ s1 (mkF m 9 #[.val (.int n), .val (.int a), .val (.int b), .val (.int d), .val (.int (a &&& (255 : Int32))), .unset, .unset, .unset] [.int b])
  refine Wo.by (fun _ => XS.sipush X0.here hx rfl (hb hby d1_9)) ?_
  show Wo _ _ _ _ _ _ _ _ _ _ _ s1 (mkF m 12 #[.val (.int n), .val (.int a), .val (.int b), .val (.int d), .val (.int (a &&& (255 : Int32))), .unset, .unset, .unset] [.int (255 : Int32), .int b])
  refine Wo.by (fun _ => XS.iand X0.here hx rfl (hb hby d1_12) rfl) ?_
  show Wo _ _ _ _ _ _ _ _ _ _ _ s1 (mkF m 13 #[.val (.int n), .val (.int a), .val (.int b), .val (.int d), .val (.int (a &&& (255 : Int32))), .unset, .unset, .unset] [.int (b &&& (255 : Int32))])
  refine Wo.by (fun _ => XS.i2c X0.here hx rfl (hb hby d1_13) rfl) ?_
  show Wo _ _ _ _ _ _ _ _ _ _ _ s1 (mkF m 14 #[.val (.int n), .val (.int a), .val (.int b), .val (.int d), .val (.int (a &&& (255 : Int32))), .unset, .unset, .unset] [.int ((b &&& (255 : Int32)).toUInt32.toUInt16.toUInt32.toInt32)])
  rw [i2c_mask]
  show Wo _ _ _ _ _ _ _ _ _ _ _ s1 (mkF m 14 #[.val (.int n), .val (.int a), .val (.int b), .val (.int d), .val (.int (a &&& (255 : Int32))), .unset, .unset, .unset] [.int (b &&& (255 : Int32))])
  refine Wo.by (fun _ => XS.istore X0.here hx rfl (hb hby d1_14) rfl (l' := #[.val (.int n), .val (.int a), .val (.int b), .val (.int d), .val (.int (a &&& (255 : Int32))), .val (.int (b &&& (255 : Int32))), .unset, .unset]) rfl) ?_
  show Wo _ _ _ _ _ _ _ _ _ _ _ s1 (mkF m 16 #[.val (.int n), .val (.int a), .val (.int b), .val (.int d), .val (.int (a &&& (255 : Int32))), .val (.int (b &&& (255 : Int32))), .unset, .unset] [])
  refine Wo.by (fun _ => XS.iloadN X0.here hx rfl (hb hby d1_16) rfl) ?_
  show Wo _ _ _ _ _ _ _ _ _ _ _ s1 (mkF m 17 #[.val (.int n), .val (.int a), .val (.int b), .val (.int d), .val (.int (a &&& (255 : Int32))), .val (.int (b &&& (255 : Int32))), .unset, .unset] [.int d])
  refine Wo.by (fun _ => XS.sipush X0.here hx rfl (hb hby d1_17)) ?_
  show Wo _ _ _ _ _ _ _ _ _ _ _ s1 (mkF m 20 #[.val (.int n), .val (.int a), .val (.int b), .val (.int d), .val (.int (a &&& (255 : Int32))), .val (.int (b &&& (255 : Int32))), .unset, .unset] [.int (255 : Int32), .int d])
  refine Wo.by (fun _ => XS.iand X0.here hx rfl (hb hby d1_20) rfl) ?_
  show Wo _ _ _ _ _ _ _ _ _ _ _ s1 (mkF m 21 #[.val (.int n), .val (.int a), .val (.int b), .val (.int d), .val (.int (a &&& (255 : Int32))), .val (.int (b &&& (255 : Int32))), .unset, .unset] [.int (d &&& (255 : Int32))])
  refine Wo.by (fun _ => XS.i2c X0.here hx rfl (hb hby d1_21) rfl) ?_
  show Wo _ _ _ _ _ _ _ _ _ _ _ s1 (mkF m 22 #[.val (.int n), .val (.int a), .val (.int b), .val (.int d), .val (.int (a &&& (255 : Int32))), .val (.int (b &&& (255 : Int32))), .unset, .unset] [.int ((d &&& (255 : Int32)).toUInt32.toUInt16.toUInt32.toInt32)])
  rw [i2c_mask]
  show Wo _ _ _ _ _ _ _ _ _ _ _ s1 (mkF m 22 #[.val (.int n), .val (.int a), .val (.int b), .val (.int d), .val (.int (a &&& (255 : Int32))), .val (.int (b &&& (255 : Int32))), .unset, .unset] [.int (d &&& (255 : Int32))])
  refine Wo.by (fun _ => XS.istore X0.here hx rfl (hb hby d1_22) rfl (l' := #[.val (.int n), .val (.int a), .val (.int b), .val (.int d), .val (.int (a &&& (255 : Int32))), .val (.int (b &&& (255 : Int32))), .val (.int (d &&& (255 : Int32))), .unset]) rfl) ?_
  show Wo _ _ _ _ _ _ _ _ _ _ _ s1 (mkF m 24 #[.val (.int n), .val (.int a), .val (.int b), .val (.int d), .val (.int (a &&& (255 : Int32))), .val (.int (b &&& (255 : Int32))), .val (.int (d &&& (255 : Int32))), .unset] [])
  refine Wo.by (fun _ => XS.iloadN X0.here hx rfl (hb hby d1_24) rfl) ?_
  show Wo _ _ _ _ _ _ _ _ _ _ _ s1 (mkF m 25 #[.val (.int n), .val (.int a), .val (.int b), .val (.int d), .val (.int (a &&& (255 : Int32))), .val (.int (b &&& (255 : Int32))), .val (.int (d &&& (255 : Int32))), .unset] [.int n])
  refine Wo.by (fun _ => XS.iconst X0.here hx rfl (hb hby d1_25)) ?_
  show Wo _ _ _ _ _ _ _ _ _ _ _ s1 (mkF m 26 #[.val (.int n), .val (.int a), .val (.int b), .val (.int d), .val (.int (a &&& (255 : Int32))), .val (.int (b &&& (255 : Int32))), .val (.int (d &&& (255 : Int32))), .unset] [.int (3 : Int32), .int n])
  refine Wo.by (fun _ => XS.iand X0.here hx rfl (hb hby d1_26) rfl) ?_
  show Wo _ _ _ _ _ _ _ _ _ _ _ s1 (mkF m 27 #[.val (.int n), .val (.int a), .val (.int b), .val (.int d), .val (.int (a &&& (255 : Int32))), .val (.int (b &&& (255 : Int32))), .val (.int (d &&& (255 : Int32))), .unset] [.int (n &&& (3 : Int32))])
  rw [en]
  show Wo _ _ _ _ _ _ _ _ _ _ _ s1 (mkF m 27 #[.val (.int n), .val (.int a), .val (.int b), .val (.int d), .val (.int (a &&& (255 : Int32))), .val (.int (b &&& (255 : Int32))), .val (.int (d &&& (255 : Int32))), .unset] [.int (2 : Int32)])
  refine Wo.by (fun _ => XS.istore X0.here hx rfl (hb hby d1_27) rfl (l' := #[.val (.int n), .val (.int a), .val (.int b), .val (.int d), .val (.int (a &&& (255 : Int32))), .val (.int (b &&& (255 : Int32))), .val (.int (d &&& (255 : Int32))), .val (.int (2 : Int32))]) rfl) ?_
  show Wo _ _ _ _ _ _ _ _ _ _ _ s1 (mkF m 29 #[.val (.int n), .val (.int a), .val (.int b), .val (.int d), .val (.int (a &&& (255 : Int32))), .val (.int (b &&& (255 : Int32))), .val (.int (d &&& (255 : Int32))), .val (.int (2 : Int32))] [])
  refine Wo.by (fun _ => XS.iload X0.here hx rfl (hb hby d1_29) rfl) ?_
  show Wo _ _ _ _ _ _ _ _ _ _ _ s1 (mkF m 31 #[.val (.int n), .val (.int a), .val (.int b), .val (.int d), .val (.int (a &&& (255 : Int32))), .val (.int (b &&& (255 : Int32))), .val (.int (d &&& (255 : Int32))), .val (.int (2 : Int32))] [.int (2 : Int32)])
  refine Wo.by (fun _ => XS.ifYes X0.here hx rfl (pc0 := 31) (pc' := 45) rfl (hb hby d1_31) rfl (by decide) (by decide) (by decide)) ?_
  show Wo _ _ _ _ _ _ _ _ _ _ _ s1 (mkF m 45 #[.val (.int n), .val (.int a), .val (.int b), .val (.int d), .val (.int (a &&& (255 : Int32))), .val (.int (b &&& (255 : Int32))), .val (.int (d &&& (255 : Int32))), .val (.int (2 : Int32))] [])
  refine Wo.by (fun _ => XS.iload X0.here hx rfl (hb hby d1_45) rfl) ?_
  show Wo _ _ _ _ _ _ _ _ _ _ _ s1 (mkF m 47 #[.val (.int n), .val (.int a), .val (.int b), .val (.int d), .val (.int (a &&& (255 : Int32))), .val (.int (b &&& (255 : Int32))), .val (.int (d &&& (255 : Int32))), .val (.int (2 : Int32))] [.int (2 : Int32)])
  refine Wo.by (fun _ => XS.iconst X0.here hx rfl (hb hby d1_47)) ?_
  show Wo _ _ _ _ _ _ _ _ _ _ _ s1 (mkF m 48 #[.val (.int n), .val (.int a), .val (.int b), .val (.int d), .val (.int (a &&& (255 : Int32))), .val (.int (b &&& (255 : Int32))), .val (.int (d &&& (255 : Int32))), .val (.int (2 : Int32))] [.int (1 : Int32), .int (2 : Int32)])
  refine Wo.by (fun _ => XS.icmpYes X0.here hx rfl (pc0 := 48) (pc' := 67) rfl (hb hby d1_48) rfl (by decide) (by decide) (by decide)) ?_
  show Wo _ _ _ _ _ _ _ _ _ _ _ s1 (mkF m 67 #[.val (.int n), .val (.int a), .val (.int b), .val (.int d), .val (.int (a &&& (255 : Int32))), .val (.int (b &&& (255 : Int32))), .val (.int (d &&& (255 : Int32))), .val (.int (2 : Int32))] [])
  refine Wo.by (fun _ => XS.iload X0.here hx rfl (hb hby d1_67) rfl) ?_
  show Wo _ _ _ _ _ _ _ _ _ _ _ s1 (mkF m 69 #[.val (.int n), .val (.int a), .val (.int b), .val (.int d), .val (.int (a &&& (255 : Int32))), .val (.int (b &&& (255 : Int32))), .val (.int (d &&& (255 : Int32))), .val (.int (2 : Int32))] [.int (2 : Int32)])
  refine Wo.by (fun _ => XS.iconst X0.here hx rfl (hb hby d1_69)) ?_
  show Wo _ _ _ _ _ _ _ _ _ _ _ s1 (mkF m 70 #[.val (.int n), .val (.int a), .val (.int b), .val (.int d), .val (.int (a &&& (255 : Int32))), .val (.int (b &&& (255 : Int32))), .val (.int (d &&& (255 : Int32))), .val (.int (2 : Int32))] [.int (2 : Int32), .int (2 : Int32)])
  refine Wo.by (fun _ => XS.icmpNo X0.here hx rfl (hb hby d1_70) rfl (by decide)) ?_
  show Wo _ _ _ _ _ _ _ _ _ _ _ s1 (mkF m 73 #[.val (.int n), .val (.int a), .val (.int b), .val (.int d), .val (.int (a &&& (255 : Int32))), .val (.int (b &&& (255 : Int32))), .val (.int (d &&& (255 : Int32))), .val (.int (2 : Int32))] [])
  refine X0.newO hx (w4 cx) (w5 cx) (w6 cx) (hb hby d1_73) (nle rfl) (nle rfl) ?_
  intro T1 h1 a1 X1 E1 g1 A1 D1
  have ge2 : h.size ≤ a1 := Nat.le_trans K0.1 g1
  have K3 : Keep h h1 [] := K0.ext E1
  have D4 : Fld Z h1 a1 "java/lang/String" "value" "[B" .null := D1 (Or.inr (w20 cx)) (ty := (.array .byte)) (by decide)
  have D5 : Fld Z h1 a1 "java/lang/String" "coder" "B" (.int (0 : Int32)) := D1 (Or.inr (w21 cx)) (ty := .byte) (by decide)
  show Wo _ _ _ _ _ _ _ _ _ _ _ T1 (mkF m 76 #[.val (.int n), .val (.int a), .val (.int b), .val (.int d), .val (.int (a &&& (255 : Int32))), .val (.int (b &&& (255 : Int32))), .val (.int (d &&& (255 : Int32))), .val (.int (2 : Int32))] [.ref a1])
  refine Wo.by (fun _ => XS.dup X1.here hx rfl (hb hby d1_76) rfl rfl) ?_
  show Wo _ _ _ _ _ _ _ _ _ _ _ T1 (mkF m 77 #[.val (.int n), .val (.int a), .val (.int b), .val (.int d), .val (.int (a &&& (255 : Int32))), .val (.int (b &&& (255 : Int32))), .val (.int (d &&& (255 : Int32))), .val (.int (2 : Int32))] [.ref a1, .ref a1])
  refine Wo.by (fun _ => XS.iconst X1.here hx rfl (hb hby d1_77)) ?_
  show Wo _ _ _ _ _ _ _ _ _ _ _ T1 (mkF m 78 #[.val (.int n), .val (.int a), .val (.int b), .val (.int d), .val (.int (a &&& (255 : Int32))), .val (.int (b &&& (255 : Int32))), .val (.int (d &&& (255 : Int32))), .val (.int (2 : Int32))] [.int (2 : Int32), .ref a1, .ref a1])
  refine X1.newP (aty := .char) hx (w7 cx) (hb hby d1_78) (by decide) (cap := 2) (nle rfl) (nle rfl) (nle rfl) (nle rfl) ?_
  intro T6 h6 a6 k6 X6 E6 g6 A6
  have ge7 : h.size ≤ a6 := Nat.le_trans K3.1 g6
  have K8 : Keep h h6 [] := K3.ext E6
  have V9 : Arv Z h6 a6 k6 .char (2 : Int32) [(.int (0 : Int32)), (.int (0 : Int32))] (.int (0 : Int32)) := Arv.pad A6 (pad_rep [] _ 2)
  show Wo _ _ _ _ _ _ _ _ _ _ _ T6 (mkF m 80 #[.val (.int n), .val (.int a), .val (.int b), .val (.int d), .val (.int (a &&& (255 : Int32))), .val (.int (b &&& (255 : Int32))), .val (.int (d &&& (255 : Int32))), .val (.int (2 : Int32))] [.ref a6, .ref a1, .ref a1])
  refine Wo.by (fun _ => XS.dup X6.here hx rfl (hb hby d1_80) rfl rfl) ?_
  show Wo _ _ _ _ _ _ _ _ _ _ _ T6 (mkF m 81 #[.val (.int n), .val (.int a), .val (.int b), .val (.int d), .val (.int (a &&& (255 : Int32))), .val (.int (b &&& (255 : Int32))), .val (.int (d &&& (255 : Int32))), .val (.int (2 : Int32))] [.ref a6, .ref a6, .ref a1, .ref a1])
  refine Wo.by (fun _ => XS.iconst X6.here hx rfl (hb hby d1_81)) ?_
  show Wo _ _ _ _ _ _ _ _ _ _ _ T6 (mkF m 82 #[.val (.int n), .val (.int a), .val (.int b), .val (.int d), .val (.int (a &&& (255 : Int32))), .val (.int (b &&& (255 : Int32))), .val (.int (d &&& (255 : Int32))), .val (.int (2 : Int32))] [.int (0 : Int32), .ref a6, .ref a6, .ref a1, .ref a1])
  refine Wo.by (fun _ => XS.iload X6.here hx rfl (hb hby d1_82) rfl) ?_
  show Wo _ _ _ _ _ _ _ _ _ _ _ T6 (mkF m 84 #[.val (.int n), .val (.int a), .val (.int b), .val (.int d), .val (.int (a &&& (255 : Int32))), .val (.int (b &&& (255 : Int32))), .val (.int (d &&& (255 : Int32))), .val (.int (2 : Int32))] [.int (a &&& (255 : Int32)), .int (0 : Int32), .ref a6, .ref a6, .ref a1, .ref a1])
  refine X6.stC hx V9 (j := (0 : Int32)) (x := (a &&& (255 : Int32))) (i := 0) (by decide) rfl (nlt rfl) (List.mem_of_getElem? (i := 0) rfl) (hb hby d1_84) ?_
  intro T10 h10 X10 W10 G10
  have K11 : Keep h h10 [] := K8.wr W10 (Or.inr ge7)
  have V12 : Arv Z h10 a6 k6 .char (2 : Int32) [(.int (a &&& (255 : Int32))), (.int (0 : Int32))] (.int (0 : Int32)) := by have q := G10; rw [nar255] at q; exact q
  show Wo _ _ _ _ _ _ _ _ _ _ _ T10 (mkF m 85 #[.val (.int n), .val (.int a), .val (.int b), .val (.int d), .val (.int (a &&& (255 : Int32))), .val (.int (b &&& (255 : Int32))), .val (.int (d &&& (255 : Int32))), .val (.int (2 : Int32))] [.ref a6, .ref a1, .ref a1])
  refine Wo.by (fun _ => XS.dup X10.here hx rfl (hb hby d1_85) rfl rfl) ?_
  show Wo _ _ _ _ _ _ _ _ _ _ _ T10 (mkF m 86 #[.val (.int n), .val (.int a), .val (.int b), .val (.int d), .val (.int (a &&& (255 : Int32))), .val (.int (b &&& (255 : Int32))), .val (.int (d &&& (255 : Int32))), .val (.int (2 : Int32))] [.ref a6, .ref a6, .ref a1, .ref a1])
  refine Wo.by (fun _ => XS.iconst X10.here hx rfl (hb hby d1_86)) ?_
  show Wo _ _ _ _ _ _ _ _ _ _ _ T10 (mkF m 87 #[.val (.int n), .val (.int a), .val (.int b), .val (.int d), .val (.int (a &&& (255 : Int32))), .val (.int (b &&& (255 : Int32))), .val (.int (d &&& (255 : Int32))), .val (.int (2 : Int32))] [.int (1 : Int32), .ref a6, .ref a6, .ref a1, .ref a1])
  refine Wo.by (fun _ => XS.iload X10.here hx rfl (hb hby d1_87) rfl) ?_
  show Wo _ _ _ _ _ _ _ _ _ _ _ T10 (mkF m 89 #[.val (.int n), .val (.int a), .val (.int b), .val (.int d), .val (.int (a &&& (255 : Int32))), .val (.int (b &&& (255 : Int32))), .val (.int (d &&& (255 : Int32))), .val (.int (2 : Int32))] [.int (b &&& (255 : Int32)), .int (1 : Int32), .ref a6, .ref a6, .ref a1, .ref a1])
  refine X10.stC hx V12 (j := (1 : Int32)) (x := (b &&& (255 : Int32))) (i := 1) (by decide) rfl (nlt rfl) (List.mem_of_getElem? (i := 0) rfl) (hb hby d1_89) ?_
  intro T13 h13 X13 W13 G13
  have K14 : Keep h h13 [] := K11.wr W13 (Or.inr ge7)
  have V15 : Arv Z h13 a6 k6 .char (2 : Int32) [(.int (a &&& (255 : Int32))), (.int (b &&& (255 : Int32)))] (.int (0 : Int32)) := by have q := G13; rw [nar255] at q; exact q
  show Wo _ _ _ _ _ _ _ _ _ _ _ T13 (mkF m 90 #[.val (.int n), .val (.int a), .val (.int b), .val (.int d), .val (.int (a &&& (255 : Int32))), .val (.int (b &&& (255 : Int32))), .val (.int (d &&& (255 : Int32))), .val (.int (2 : Int32))] [.ref a6, .ref a1, .ref a1])
  have F16 : Exa Z h13 a1 "java/lang/String" := (((A1.ext E6).wr W10).wr W13)
  have F17 : Fld Z h13 a1 "java/lang/String" "value" "[B" .null := (((D4.ext E6).other W10 (Or.inl (X13.ne (i := 1) (j := 0) rfl rfl (by decide)))).other W13 (Or.inl (X13.ne (i := 1) (j := 0) rfl rfl (by decide))))
  have F18 : Fld Z h13 a1 "java/lang/String" "coder" "B" (.int (0 : Int32)) := (((D5.ext E6).other W10 (Or.inl (X13.ne (i := 1) (j := 0) rfl rfl (by decide)))).other W13 (Or.inl (X13.ne (i := 1) (j := 0) rfl rfl (by decide))))
  refine X13.callC hx rfl (w8 cx) (w9 cx) (w10 cx) (by decide) (pay_new (W := 1) (hws cx) (w5 cx) (cs := [(a &&& (255 : Int32)), (b &&& (255 : Int32))]) (n := 2) (X13.ge (List.mem_of_getElem? (i := 1) rfl)) X13.n0le (List.mem_of_getElem? (i := 1) rfl) F16 F17 F18 V15 (X13.sta (S_C cx)) (N_C cx) rfl rfl (nle rfl) (nle rfl) (fcS (rng255 a) (fcS (rng255 b) fc0)) (nle rfl) (nle rfl)) (by rw [hml]; rfl) (argsL := [.ref a6]) (rest := [.ref a1]) (lenOf pd1 rfl) rfl rfl (Nat.le_of_eq rfl) (hb hby d1_90) (nle rfl) (nle rfl) ?_
  rintro T19 h19 _ _ _ X19 ⟨a20, rfl, rfl, rfl, J19, G21⟩
  have K22 : Keep h h19 [] := K14.trans J19 (allS (Or.inr ge2) all0)
  show Wo _ _ _ _ _ _ _ _ _ _ _ T19 (mkF m 93 #[.val (.int n), .val (.int a), .val (.int b), .val (.int d), .val (.int (a &&& (255 : Int32))), .val (.int (b &&& (255 : Int32))), .val (.int (d &&& (255 : Int32))), .val (.int (2 : Int32))] [.ref a1])
  have X23 := WS.drop (A := []) (B := (a1 :: WL)) X19
  have X24 := WS.fl (FL2 := (a20 :: FL)) X23 (fun y hy => (List.mem_cons.mp hy).elim (fun q => q ▸ (List.mem_of_getElem? (i := 1) rfl)) (fun q0 => (List.mem_append_right [a6, a20] q0)))
  exact WS.retA X24 (WL' := [a1]) (FL' := [a20]) hx hret rfl rfl hlk (hb hby d1_93) (nle rfl) (nle rfl) ⟨a1, a20, [(a &&& (255 : Int32)), (b &&& (255 : Int32))], rfl, rfl, rfl, K22, G21⟩
set_option maxRecDepth 65536 in
set_option maxHeartbeats 4000000 in
theorem ct_draw_3 {l : Launch} {Z : State} {a0 : Array Value} {G1 : Int32} {eo : Addr} (cx : Cx a0 Z G1 eo) {n0 : Nat} (n : Int32) (a : Int32) (b : Int32) (d : Int32) (h : Heap) (WL FL : List Addr)  (en : n &&& 3 = 3) :
    Ct l Z EL1 n0 (⟨"com/example/need_to_know/needtoknow/admin/AdminNoticeRefusalPinLaw", "draw", "(IIII)Ljava/lang/String;"⟩ : MethodName) method_2_code 8 (Option.some (Jvm.ClassFile.FieldType.object "java/lang/String")) ({ frames := 4, cells := 6, slots := 12, locals := 66 } : Room) #[(.int n), (.int a), (.int b), (.int d)] h WL FL (Q_draw Z G1 eo n a b d h) := by
  refine Ct.of (plainFor_of_name pn1) ?_
  intro p e s m below meth c s1 hx hby hml hnm hret hlk X0
  refine Wo.cast (f' := (mkF m 0 #[.val (.int n), .val (.int a), .val (.int b), .val (.int d), .unset, .unset, .unset, .unset] [])) (by first | rfl | (simp [entryFrame, mkF, argsToLocals, Value.category]; done)) ?_
  have K0 : Keep h h [] := Keep.refl _ _
  show Wo _ _ _ _ _ _ _ _ _ _ _ s1 (mkF m 0 #[.val (.int n), .val (.int a), .val (.int b), .val (.int d), .unset, .unset, .unset, .unset] [])
  refine Wo.by (fun _ => XS.iloadN X0.here hx rfl (hb hby d1_0) rfl) ?_
  show Wo _ _ _ _ _ _ _ _ _ _ _ s1 (mkF m 1 #[.val (.int n), .val (.int a), .val (.int b), .val (.int d), .unset, .unset, .unset, .unset] [.int a])
  refine Wo.by (fun _ => XS.sipush X0.here hx rfl (hb hby d1_1)) ?_
  show Wo _ _ _ _ _ _ _ _ _ _ _ s1 (mkF m 4 #[.val (.int n), .val (.int a), .val (.int b), .val (.int d), .unset, .unset, .unset, .unset] [.int (255 : Int32), .int a])
  refine Wo.by (fun _ => XS.iand X0.here hx rfl (hb hby d1_4) rfl) ?_
  show Wo _ _ _ _ _ _ _ _ _ _ _ s1 (mkF m 5 #[.val (.int n), .val (.int a), .val (.int b), .val (.int d), .unset, .unset, .unset, .unset] [.int (a &&& (255 : Int32))])
  refine Wo.by (fun _ => XS.i2c X0.here hx rfl (hb hby d1_5) rfl) ?_
  show Wo _ _ _ _ _ _ _ _ _ _ _ s1 (mkF m 6 #[.val (.int n), .val (.int a), .val (.int b), .val (.int d), .unset, .unset, .unset, .unset] [.int ((a &&& (255 : Int32)).toUInt32.toUInt16.toUInt32.toInt32)])
  rw [i2c_mask]
  show Wo _ _ _ _ _ _ _ _ _ _ _ s1 (mkF m 6 #[.val (.int n), .val (.int a), .val (.int b), .val (.int d), .unset, .unset, .unset, .unset] [.int (a &&& (255 : Int32))])
  refine Wo.by (fun _ => XS.istore X0.here hx rfl (hb hby d1_6) rfl (l' := #[.val (.int n), .val (.int a), .val (.int b), .val (.int d), .val (.int (a &&& (255 : Int32))), .unset, .unset, .unset]) rfl) ?_
  show Wo _ _ _ _ _ _ _ _ _ _ _ s1 (mkF m 8 #[.val (.int n), .val (.int a), .val (.int b), .val (.int d), .val (.int (a &&& (255 : Int32))), .unset, .unset, .unset] [])
  refine Wo.by (fun _ => XS.iloadN X0.here hx rfl (hb hby d1_8) rfl) ?_
  show Wo _ _ _ _ _ _ _ _ _ _ _ s1 (mkF m 9 #[.val (.int n), .val (.int a), .val (.int b), .val (.int d), .val (.int (a &&& (255 : Int32))), .unset, .unset, .unset] [.int b])
  refine Wo.by (fun _ => XS.sipush X0.here hx rfl (hb hby d1_9)) ?_
  show Wo _ _ _ _ _ _ _ _ _ _ _ s1 (mkF m 12 #[.val (.int n), .val (.int a), .val (.int b), .val (.int d), .val (.int (a &&& (255 : Int32))), .unset, .unset, .unset] [.int (255 : Int32), .int b])
  refine Wo.by (fun _ => XS.iand X0.here hx rfl (hb hby d1_12) rfl) ?_
  show Wo _ _ _ _ _ _ _ _ _ _ _ s1 (mkF m 13 #[.val (.int n), .val (.int a), .val (.int b), .val (.int d), .val (.int (a &&& (255 : Int32))), .unset, .unset, .unset] [.int (b &&& (255 : Int32))])
  refine Wo.by (fun _ => XS.i2c X0.here hx rfl (hb hby d1_13) rfl) ?_
  show Wo _ _ _ _ _ _ _ _ _ _ _ s1 (mkF m 14 #[.val (.int n), .val (.int a), .val (.int b), .val (.int d), .val (.int (a &&& (255 : Int32))), .unset, .unset, .unset] [.int ((b &&& (255 : Int32)).toUInt32.toUInt16.toUInt32.toInt32)])
  rw [i2c_mask]
  show Wo _ _ _ _ _ _ _ _ _ _ _ s1 (mkF m 14 #[.val (.int n), .val (.int a), .val (.int b), .val (.int d), .val (.int (a &&& (255 : Int32))), .unset, .unset, .unset] [.int (b &&& (255 : Int32))])
  refine Wo.by (fun _ => XS.istore X0.here hx rfl (hb hby d1_14) rfl (l' := #[.val (.int n), .val (.int a), .val (.int b), .val (.int d), .val (.int (a &&& (255 : Int32))), .val (.int (b &&& (255 : Int32))), .unset, .unset]) rfl) ?_
  show Wo _ _ _ _ _ _ _ _ _ _ _ s1 (mkF m 16 #[.val (.int n), .val (.int a), .val (.int b), .val (.int d), .val (.int (a &&& (255 : Int32))), .val (.int (b &&& (255 : Int32))), .unset, .unset] [])
  refine Wo.by (fun _ => XS.iloadN X0.here hx rfl (hb hby d1_16) rfl) ?_
  show Wo _ _ _ _ _ _ _ _ _ _ _ s1 (mkF m 17 #[.val (.int n), .val (.int a), .val (.int b), .val (.int d), .val (.int (a &&& (255 : Int32))), .val (.int (b &&& (255 : Int32))), .unset, .unset] [.int d])
  refine Wo.by (fun _ => XS.sipush X0.here hx rfl (hb hby d1_17)) ?_
  show Wo _ _ _ _ _ _ _ _ _ _ _ s1 (mkF m 20 #[.val (.int n), .val (.int a), .val (.int b), .val (.int d), .val (.int (a &&& (255 : Int32))), .val (.int (b &&& (255 : Int32))), .unset, .unset] [.int (255 : Int32), .int d])
  refine Wo.by (fun _ => XS.iand X0.here hx rfl (hb hby d1_20) rfl) ?_
  show Wo _ _ _ _ _ _ _ _ _ _ _ s1 (mkF m 21 #[.val (.int n), .val (.int a), .val (.int b), .val (.int d), .val (.int (a &&& (255 : Int32))), .val (.int (b &&& (255 : Int32))), .unset, .unset] [.int (d &&& (255 : Int32))])
  refine Wo.by (fun _ => XS.i2c X0.here hx rfl (hb hby d1_21) rfl) ?_
  show Wo _ _ _ _ _ _ _ _ _ _ _ s1 (mkF m 22 #[.val (.int n), .val (.int a), .val (.int b), .val (.int d), .val (.int (a &&& (255 : Int32))), .val (.int (b &&& (255 : Int32))), .unset, .unset] [.int ((d &&& (255 : Int32)).toUInt32.toUInt16.toUInt32.toInt32)])
  rw [i2c_mask]
  show Wo _ _ _ _ _ _ _ _ _ _ _ s1 (mkF m 22 #[.val (.int n), .val (.int a), .val (.int b), .val (.int d), .val (.int (a &&& (255 : Int32))), .val (.int (b &&& (255 : Int32))), .unset, .unset] [.int (d &&& (255 : Int32))])
  refine Wo.by (fun _ => XS.istore X0.here hx rfl (hb hby d1_22) rfl (l' := #[.val (.int n), .val (.int a), .val (.int b), .val (.int d), .val (.int (a &&& (255 : Int32))), .val (.int (b &&& (255 : Int32))), .val (.int (d &&& (255 : Int32))), .unset]) rfl) ?_
  show Wo _ _ _ _ _ _ _ _ _ _ _ s1 (mkF m 24 #[.val (.int n), .val (.int a), .val (.int b), .val (.int d), .val (.int (a &&& (255 : Int32))), .val (.int (b &&& (255 : Int32))), .val (.int (d &&& (255 : Int32))), .unset] [])
  refine Wo.by (fun _ => XS.iloadN X0.here hx rfl (hb hby d1_24) rfl) ?_
  show Wo _ _ _ _ _ _ _ _ _ _ _ s1 (mkF m 25 #[.val (.int n), .val (.int a), .val (.int b), .val (.int d), .val (.int (a &&& (255 : Int32))), .val (.int (b &&& (255 : Int32))), .val (.int (d &&& (255 : Int32))), .unset] [.int n])
  refine Wo.by (fun _ => XS.iconst X0.here hx rfl (hb hby d1_25)) ?_
  show Wo _ _ _ _ _ _ _ _ _ _ _ s1 (mkF m 26 #[.val (.int n), .val (.int a), .val (.int b), .val (.int d), .val (.int (a &&& (255 : Int32))), .val (.int (b &&& (255 : Int32))), .val (.int (d &&& (255 : Int32))), .unset] [.int (3 : Int32), .int n])
  refine Wo.by (fun _ => XS.iand X0.here hx rfl (hb hby d1_26) rfl) ?_
  show Wo _ _ _ _ _ _ _ _ _ _ _ s1 (mkF m 27 #[.val (.int n), .val (.int a), .val (.int b), .val (.int d), .val (.int (a &&& (255 : Int32))), .val (.int (b &&& (255 : Int32))), .val (.int (d &&& (255 : Int32))), .unset] [.int (n &&& (3 : Int32))])
  rw [en]
  show Wo _ _ _ _ _ _ _ _ _ _ _ s1 (mkF m 27 #[.val (.int n), .val (.int a), .val (.int b), .val (.int d), .val (.int (a &&& (255 : Int32))), .val (.int (b &&& (255 : Int32))), .val (.int (d &&& (255 : Int32))), .unset] [.int (3 : Int32)])
  refine Wo.by (fun _ => XS.istore X0.here hx rfl (hb hby d1_27) rfl (l' := #[.val (.int n), .val (.int a), .val (.int b), .val (.int d), .val (.int (a &&& (255 : Int32))), .val (.int (b &&& (255 : Int32))), .val (.int (d &&& (255 : Int32))), .val (.int (3 : Int32))]) rfl) ?_
  show Wo _ _ _ _ _ _ _ _ _ _ _ s1 (mkF m 29 #[.val (.int n), .val (.int a), .val (.int b), .val (.int d), .val (.int (a &&& (255 : Int32))), .val (.int (b &&& (255 : Int32))), .val (.int (d &&& (255 : Int32))), .val (.int (3 : Int32))] [])
  refine Wo.by (fun _ => XS.iload X0.here hx rfl (hb hby d1_29) rfl) ?_
  show Wo _ _ _ _ _ _ _ _ _ _ _ s1 (mkF m 31 #[.val (.int n), .val (.int a), .val (.int b), .val (.int d), .val (.int (a &&& (255 : Int32))), .val (.int (b &&& (255 : Int32))), .val (.int (d &&& (255 : Int32))), .val (.int (3 : Int32))] [.int (3 : Int32)])
  refine Wo.by (fun _ => XS.ifYes X0.here hx rfl (pc0 := 31) (pc' := 45) rfl (hb hby d1_31) rfl (by decide) (by decide) (by decide)) ?_
  show Wo _ _ _ _ _ _ _ _ _ _ _ s1 (mkF m 45 #[.val (.int n), .val (.int a), .val (.int b), .val (.int d), .val (.int (a &&& (255 : Int32))), .val (.int (b &&& (255 : Int32))), .val (.int (d &&& (255 : Int32))), .val (.int (3 : Int32))] [])
  refine Wo.by (fun _ => XS.iload X0.here hx rfl (hb hby d1_45) rfl) ?_
  show Wo _ _ _ _ _ _ _ _ _ _ _ s1 (mkF m 47 #[.val (.int n), .val (.int a), .val (.int b), .val (.int d), .val (.int (a &&& (255 : Int32))), .val (.int (b &&& (255 : Int32))), .val (.int (d &&& (255 : Int32))), .val (.int (3 : Int32))] [.int (3 : Int32)])
  refine Wo.by (fun _ => XS.iconst X0.here hx rfl (hb hby d1_47)) ?_
  show Wo _ _ _ _ _ _ _ _ _ _ _ s1 (mkF m 48 #[.val (.int n), .val (.int a), .val (.int b), .val (.int d), .val (.int (a &&& (255 : Int32))), .val (.int (b &&& (255 : Int32))), .val (.int (d &&& (255 : Int32))), .val (.int (3 : Int32))] [.int (1 : Int32), .int (3 : Int32)])
  refine Wo.by (fun _ => XS.icmpYes X0.here hx rfl (pc0 := 48) (pc' := 67) rfl (hb hby d1_48) rfl (by decide) (by decide) (by decide)) ?_
  show Wo _ _ _ _ _ _ _ _ _ _ _ s1 (mkF m 67 #[.val (.int n), .val (.int a), .val (.int b), .val (.int d), .val (.int (a &&& (255 : Int32))), .val (.int (b &&& (255 : Int32))), .val (.int (d &&& (255 : Int32))), .val (.int (3 : Int32))] [])
  refine Wo.by (fun _ => XS.iload X0.here hx rfl (hb hby d1_67) rfl) ?_
  show Wo _ _ _ _ _ _ _ _ _ _ _ s1 (mkF m 69 #[.val (.int n), .val (.int a), .val (.int b), .val (.int d), .val (.int (a &&& (255 : Int32))), .val (.int (b &&& (255 : Int32))), .val (.int (d &&& (255 : Int32))), .val (.int (3 : Int32))] [.int (3 : Int32)])
  refine Wo.by (fun _ => XS.iconst X0.here hx rfl (hb hby d1_69)) ?_
  show Wo _ _ _ _ _ _ _ _ _ _ _ s1 (mkF m 70 #[.val (.int n), .val (.int a), .val (.int b), .val (.int d), .val (.int (a &&& (255 : Int32))), .val (.int (b &&& (255 : Int32))), .val (.int (d &&& (255 : Int32))), .val (.int (3 : Int32))] [.int (2 : Int32), .int (3 : Int32)])
  refine Wo.by (fun _ => XS.icmpYes X0.here hx rfl (pc0 := 70) (pc' := 94) rfl (hb hby d1_70) rfl (by decide) (by decide) (by decide)) ?_
  show Wo _ _ _ _ _ _ _ _ _ _ _ s1 (mkF m 94 #[.val (.int n), .val (.int a), .val (.int b), .val (.int d), .val (.int (a &&& (255 : Int32))), .val (.int (b &&& (255 : Int32))), .val (.int (d &&& (255 : Int32))), .val (.int (3 : Int32))] [])
  refine X0.newO hx (w4 cx) (w5 cx) (w6 cx) (hb hby d1_94) (nle rfl) (nle rfl) ?_
  intro T1 h1 a1 X1 E1 g1 A1 D1
  have ge2 : h.size ≤ a1 := Nat.le_trans K0.1 g1
  have K3 : Keep h h1 [] := K0.ext E1
  have D4 : Fld Z h1 a1 "java/lang/String" "value" "[B" .null := D1 (Or.inr (w20 cx)) (ty := (.array .byte)) (by decide)
  have D5 : Fld Z h1 a1 "java/lang/String" "coder" "B" (.int (0 : Int32)) := D1 (Or.inr (w21 cx)) (ty := .byte) (by decide)
  show Wo _ _ _ _ _ _ _ _ _ _ _ T1 (mkF m 97 #[.val (.int n), .val (.int a), .val (.int b), .val (.int d), .val (.int (a &&& (255 : Int32))), .val (.int (b &&& (255 : Int32))), .val (.int (d &&& (255 : Int32))), .val (.int (3 : Int32))] [.ref a1])
  refine Wo.by (fun _ => XS.dup X1.here hx rfl (hb hby d1_97) rfl rfl) ?_
  show Wo _ _ _ _ _ _ _ _ _ _ _ T1 (mkF m 98 #[.val (.int n), .val (.int a), .val (.int b), .val (.int d), .val (.int (a &&& (255 : Int32))), .val (.int (b &&& (255 : Int32))), .val (.int (d &&& (255 : Int32))), .val (.int (3 : Int32))] [.ref a1, .ref a1])
  refine Wo.by (fun _ => XS.iconst X1.here hx rfl (hb hby d1_98)) ?_
  show Wo _ _ _ _ _ _ _ _ _ _ _ T1 (mkF m 99 #[.val (.int n), .val (.int a), .val (.int b), .val (.int d), .val (.int (a &&& (255 : Int32))), .val (.int (b &&& (255 : Int32))), .val (.int (d &&& (255 : Int32))), .val (.int (3 : Int32))] [.int (3 : Int32), .ref a1, .ref a1])
  refine X1.newP (aty := .char) hx (w7 cx) (hb hby d1_99) (by decide) (cap := 3) (nle rfl) (nle rfl) (nle rfl) (nle rfl) ?_
  intro T6 h6 a6 k6 X6 E6 g6 A6
  have ge7 : h.size ≤ a6 := Nat.le_trans K3.1 g6
  have K8 : Keep h h6 [] := K3.ext E6
  have V9 : Arv Z h6 a6 k6 .char (3 : Int32) [(.int (0 : Int32)), (.int (0 : Int32)), (.int (0 : Int32))] (.int (0 : Int32)) := Arv.pad A6 (pad_rep [] _ 3)
  show Wo _ _ _ _ _ _ _ _ _ _ _ T6 (mkF m 101 #[.val (.int n), .val (.int a), .val (.int b), .val (.int d), .val (.int (a &&& (255 : Int32))), .val (.int (b &&& (255 : Int32))), .val (.int (d &&& (255 : Int32))), .val (.int (3 : Int32))] [.ref a6, .ref a1, .ref a1])
  refine Wo.by (fun _ => XS.dup X6.here hx rfl (hb hby d1_101) rfl rfl) ?_
  show Wo _ _ _ _ _ _ _ _ _ _ _ T6 (mkF m 102 #[.val (.int n), .val (.int a), .val (.int b), .val (.int d), .val (.int (a &&& (255 : Int32))), .val (.int (b &&& (255 : Int32))), .val (.int (d &&& (255 : Int32))), .val (.int (3 : Int32))] [.ref a6, .ref a6, .ref a1, .ref a1])
  refine Wo.by (fun _ => XS.iconst X6.here hx rfl (hb hby d1_102)) ?_
  show Wo _ _ _ _ _ _ _ _ _ _ _ T6 (mkF m 103 #[.val (.int n), .val (.int a), .val (.int b), .val (.int d), .val (.int (a &&& (255 : Int32))), .val (.int (b &&& (255 : Int32))), .val (.int (d &&& (255 : Int32))), .val (.int (3 : Int32))] [.int (0 : Int32), .ref a6, .ref a6, .ref a1, .ref a1])
  refine Wo.by (fun _ => XS.iload X6.here hx rfl (hb hby d1_103) rfl) ?_
  show Wo _ _ _ _ _ _ _ _ _ _ _ T6 (mkF m 105 #[.val (.int n), .val (.int a), .val (.int b), .val (.int d), .val (.int (a &&& (255 : Int32))), .val (.int (b &&& (255 : Int32))), .val (.int (d &&& (255 : Int32))), .val (.int (3 : Int32))] [.int (a &&& (255 : Int32)), .int (0 : Int32), .ref a6, .ref a6, .ref a1, .ref a1])
  refine X6.stC hx V9 (j := (0 : Int32)) (x := (a &&& (255 : Int32))) (i := 0) (by decide) rfl (nlt rfl) (List.mem_of_getElem? (i := 0) rfl) (hb hby d1_105) ?_
  intro T10 h10 X10 W10 G10
  have K11 : Keep h h10 [] := K8.wr W10 (Or.inr ge7)
  have V12 : Arv Z h10 a6 k6 .char (3 : Int32) [(.int (a &&& (255 : Int32))), (.int (0 : Int32)), (.int (0 : Int32))] (.int (0 : Int32)) := by have q := G10; rw [nar255] at q; exact q
  show Wo _ _ _ _ _ _ _ _ _ _ _ T10 (mkF m 106 #[.val (.int n), .val (.int a), .val (.int b), .val (.int d), .val (.int (a &&& (255 : Int32))), .val (.int (b &&& (255 : Int32))), .val (.int (d &&& (255 : Int32))), .val (.int (3 : Int32))] [.ref a6, .ref a1, .ref a1])
  refine Wo.by (fun _ => XS.dup X10.here hx rfl (hb hby d1_106) rfl rfl) ?_
  show Wo _ _ _ _ _ _ _ _ _ _ _ T10 (mkF m 107 #[.val (.int n), .val (.int a), .val (.int b), .val (.int d), .val (.int (a &&& (255 : Int32))), .val (.int (b &&& (255 : Int32))), .val (.int (d &&& (255 : Int32))), .val (.int (3 : Int32))] [.ref a6, .ref a6, .ref a1, .ref a1])
  refine Wo.by (fun _ => XS.iconst X10.here hx rfl (hb hby d1_107)) ?_
  show Wo _ _ _ _ _ _ _ _ _ _ _ T10 (mkF m 108 #[.val (.int n), .val (.int a), .val (.int b), .val (.int d), .val (.int (a &&& (255 : Int32))), .val (.int (b &&& (255 : Int32))), .val (.int (d &&& (255 : Int32))), .val (.int (3 : Int32))] [.int (1 : Int32), .ref a6, .ref a6, .ref a1, .ref a1])
  refine Wo.by (fun _ => XS.iload X10.here hx rfl (hb hby d1_108) rfl) ?_
  show Wo _ _ _ _ _ _ _ _ _ _ _ T10 (mkF m 110 #[.val (.int n), .val (.int a), .val (.int b), .val (.int d), .val (.int (a &&& (255 : Int32))), .val (.int (b &&& (255 : Int32))), .val (.int (d &&& (255 : Int32))), .val (.int (3 : Int32))] [.int (b &&& (255 : Int32)), .int (1 : Int32), .ref a6, .ref a6, .ref a1, .ref a1])
  refine X10.stC hx V12 (j := (1 : Int32)) (x := (b &&& (255 : Int32))) (i := 1) (by decide) rfl (nlt rfl) (List.mem_of_getElem? (i := 0) rfl) (hb hby d1_110) ?_
  intro T13 h13 X13 W13 G13
  have K14 : Keep h h13 [] := K11.wr W13 (Or.inr ge7)
  have V15 : Arv Z h13 a6 k6 .char (3 : Int32) [(.int (a &&& (255 : Int32))), (.int (b &&& (255 : Int32))), (.int (0 : Int32))] (.int (0 : Int32)) := by have q := G13; rw [nar255] at q; exact q
  show Wo _ _ _ _ _ _ _ _ _ _ _ T13 (mkF m 111 #[.val (.int n), .val (.int a), .val (.int b), .val (.int d), .val (.int (a &&& (255 : Int32))), .val (.int (b &&& (255 : Int32))), .val (.int (d &&& (255 : Int32))), .val (.int (3 : Int32))] [.ref a6, .ref a1, .ref a1])
  refine Wo.by (fun _ => XS.dup X13.here hx rfl (hb hby d1_111) rfl rfl) ?_
  show Wo _ _ _ _ _ _ _ _ _ _ _ T13 (mkF m 112 #[.val (.int n), .val (.int a), .val (.int b), .val (.int d), .val (.int (a &&& (255 : Int32))), .val (.int (b &&& (255 : Int32))), .val (.int (d &&& (255 : Int32))), .val (.int (3 : Int32))] [.ref a6, .ref a6, .ref a1, .ref a1])
  refine Wo.by (fun _ => XS.iconst X13.here hx rfl (hb hby d1_112)) ?_
  show Wo _ _ _ _ _ _ _ _ _ _ _ T13 (mkF m 113 #[.val (.int n), .val (.int a), .val (.int b), .val (.int d), .val (.int (a &&& (255 : Int32))), .val (.int (b &&& (255 : Int32))), .val (.int (d &&& (255 : Int32))), .val (.int (3 : Int32))] [.int (2 : Int32), .ref a6, .ref a6, .ref a1, .ref a1])
  refine Wo.by (fun _ => XS.iload X13.here hx rfl (hb hby d1_113) rfl) ?_
  show Wo _ _ _ _ _ _ _ _ _ _ _ T13 (mkF m 115 #[.val (.int n), .val (.int a), .val (.int b), .val (.int d), .val (.int (a &&& (255 : Int32))), .val (.int (b &&& (255 : Int32))), .val (.int (d &&& (255 : Int32))), .val (.int (3 : Int32))] [.int (d &&& (255 : Int32)), .int (2 : Int32), .ref a6, .ref a6, .ref a1, .ref a1])
  refine X13.stC hx V15 (j := (2 : Int32)) (x := (d &&& (255 : Int32))) (i := 2) (by decide) rfl (nlt rfl) (List.mem_of_getElem? (i := 0) rfl) (hb hby d1_115) ?_
  intro T16 h16 X16 W16 G16
  have K17 : Keep h h16 [] := K14.wr W16 (Or.inr ge7)
  have V18 : Arv Z h16 a6 k6 .char (3 : Int32) [(.int (a &&& (255 : Int32))), (.int (b &&& (255 : Int32))), (.int (d &&& (255 : Int32)))] (.int (0 : Int32)) := by have q := G16; rw [nar255] at q; exact q
  show Wo _ _ _ _ _ _ _ _ _ _ _ T16 (mkF m 116 #[.val (.int n), .val (.int a), .val (.int b), .val (.int d), .val (.int (a &&& (255 : Int32))), .val (.int (b &&& (255 : Int32))), .val (.int (d &&& (255 : Int32))), .val (.int (3 : Int32))] [.ref a6, .ref a1, .ref a1])
  have F19 : Exa Z h16 a1 "java/lang/String" := ((((A1.ext E6).wr W10).wr W13).wr W16)
  have F20 : Fld Z h16 a1 "java/lang/String" "value" "[B" .null := ((((D4.ext E6).other W10 (Or.inl (X16.ne (i := 1) (j := 0) rfl rfl (by decide)))).other W13 (Or.inl (X16.ne (i := 1) (j := 0) rfl rfl (by decide)))).other W16 (Or.inl (X16.ne (i := 1) (j := 0) rfl rfl (by decide))))
  have F21 : Fld Z h16 a1 "java/lang/String" "coder" "B" (.int (0 : Int32)) := ((((D5.ext E6).other W10 (Or.inl (X16.ne (i := 1) (j := 0) rfl rfl (by decide)))).other W13 (Or.inl (X16.ne (i := 1) (j := 0) rfl rfl (by decide)))).other W16 (Or.inl (X16.ne (i := 1) (j := 0) rfl rfl (by decide))))
  refine X16.callC hx rfl (w8 cx) (w9 cx) (w10 cx) (by decide) (pay_new (W := 1) (hws cx) (w5 cx) (cs := [(a &&& (255 : Int32)), (b &&& (255 : Int32)), (d &&& (255 : Int32))]) (n := 3) (X16.ge (List.mem_of_getElem? (i := 1) rfl)) X16.n0le (List.mem_of_getElem? (i := 1) rfl) F19 F20 F21 V18 (X16.sta (S_C cx)) (N_C cx) rfl rfl (nle rfl) (nle rfl) (fcS (rng255 a) (fcS (rng255 b) (fcS (rng255 d) fc0))) (nle rfl) (nle rfl)) (by rw [hml]; rfl) (argsL := [.ref a6]) (rest := [.ref a1]) (lenOf pd1 rfl) rfl rfl (Nat.le_of_eq rfl) (hb hby d1_116) (nle rfl) (nle rfl) ?_
  rintro T22 h22 _ _ _ X22 ⟨a23, rfl, rfl, rfl, J22, G24⟩
  have K25 : Keep h h22 [] := K17.trans J22 (allS (Or.inr ge2) all0)
  show Wo _ _ _ _ _ _ _ _ _ _ _ T22 (mkF m 119 #[.val (.int n), .val (.int a), .val (.int b), .val (.int d), .val (.int (a &&& (255 : Int32))), .val (.int (b &&& (255 : Int32))), .val (.int (d &&& (255 : Int32))), .val (.int (3 : Int32))] [.ref a1])
  have X26 := WS.drop (A := []) (B := (a1 :: WL)) X22
  have X27 := WS.fl (FL2 := (a23 :: FL)) X26 (fun y hy => (List.mem_cons.mp hy).elim (fun q => q ▸ (List.mem_of_getElem? (i := 1) rfl)) (fun q0 => (List.mem_append_right [a6, a23] q0)))
  exact WS.retA X27 (WL' := [a1]) (FL' := [a23]) hx hret rfl rfl hlk (hb hby d1_119) (nle rfl) (nle rfl) ⟨a1, a23, [(a &&& (255 : Int32)), (b &&& (255 : Int32)), (d &&& (255 : Int32))], rfl, rfl, rfl, K25, G24⟩
set_option maxRecDepth 65536 in
theorem ct_draw {l : Launch} {Z : State} {a0 : Array Value} {G1 : Int32} {eo : Addr} (cx : Cx a0 Z G1 eo) {n0 : Nat} (n : Int32) (a : Int32) (b : Int32) (d : Int32) (h : Heap) (WL FL : List Addr)  :
    Ct l Z EL1 n0 (⟨"com/example/need_to_know/needtoknow/admin/AdminNoticeRefusalPinLaw", "draw", "(IIII)Ljava/lang/String;"⟩ : MethodName) method_2_code 8 (Option.some (Jvm.ClassFile.FieldType.object "java/lang/String")) ({ frames := 4, cells := 6, slots := 12, locals := 66 } : Room) #[(.int n), (.int a), (.int b), (.int d)] h WL FL (Q_draw Z G1 eo n a b d h) := by
  rcases and3 n with e | e | e | e
  · exact ct_draw_0 cx n a b d h WL FL e
  · exact ct_draw_1 cx n a b d h WL FL e
  · exact ct_draw_2 cx n a b d h WL FL e
  · exact ct_draw_3 cx n a b d h WL FL e
def Q_oempty (Z : State) (G1 : Int32) (eo : Addr) (h : Heap) (v : Option Value) (h' : Heap) (WL' FL' : List Addr) : Prop := v = some (.ref eo) ∧ WL' = [] ∧ FL' = [] ∧ h' = h
set_option maxRecDepth 65536 in
set_option maxHeartbeats 4000000 in
theorem ct_oempty {l : Launch} {Z : State} {a0 : Array Value} {G1 : Int32} {eo : Addr} (cx : Cx a0 Z G1 eo) {n0 : Nat} (h : Heap) (WL FL : List Addr)  :
    Ct l Z EL1 n0 (⟨"java/util/Optional", "empty", "()Ljava/util/Optional;"⟩ : MethodName) jdk_32_method_1_code 1 (Option.some (Jvm.ClassFile.FieldType.object "java/util/Optional")) ({ frames := 0, cells := 0, slots := 0, locals := 0 } : Room) #[] h WL FL (Q_oempty Z G1 eo h) := by
  refine Ct.of (plainFor_of_name pn2) ?_
  intro p e s m below meth c s1 hx hby hml hnm hret hlk X0
  refine Wo.cast (f' := (mkF m 0 #[.unset] [])) (by first | rfl | (simp [entryFrame, mkF, argsToLocals, Value.category]; done)) ?_
  show Wo _ _ _ _ _ _ _ _ _ _ _ s1 (mkF m 0 #[.unset] [])
  refine X0.getS hx (w36 cx) Via.refl (S_E cx) (hb hby d6_0) ?_
  intro T1 X1
  show Wo _ _ _ _ _ _ _ _ _ _ _ T1 (mkF m 3 #[.unset] [.ref eo])
  refine Wo.by (fun _ => XS.astoreN X1.here hx rfl (hb hby d6_3) rfl rfl (l' := #[.val (.ref eo)]) rfl) ?_
  show Wo _ _ _ _ _ _ _ _ _ _ _ T1 (mkF m 4 #[.val (.ref eo)] [])
  refine Wo.by (fun _ => XS.aloadN X1.here hx rfl (hb hby d6_4) rfl rfl) ?_
  show Wo _ _ _ _ _ _ _ _ _ _ _ T1 (mkF m 5 #[.val (.ref eo)] [.ref eo])
  exact WS.retA X1 (WL' := []) (FL' := []) hx hret rfl rfl hlk (hb hby d6_5) (nle rfl) (nle rfl) ⟨rfl, rfl, rfl, rfl⟩
def Q_aninit (Z : State) (G1 : Int32) (eo : Addr) (x : Addr) (g : Addr) (o : Addr) (h : Heap) (v : Option Value) (h' : Heap) (WL' FL' : List Addr) : Prop := v = none ∧ WL' = [] ∧ FL' = [] ∧ Keep h h' [x] ∧ Fld Z h' x "com/example/need_to_know/needtoknow/admin/AdminNotice" "refusal" "Z" (.int (1 : Int32)) ∧ Fld Z h' x "com/example/need_to_know/needtoknow/admin/AdminNotice" "message" "Ljava/lang/String;" (.ref g) ∧ Fld Z h' x "com/example/need_to_know/needtoknow/admin/AdminNotice" "madeSecret" "Ljava/util/Optional;" (.ref o)
set_option maxRecDepth 65536 in
set_option maxHeartbeats 4000000 in
theorem ct_aninit {l : Launch} {Z : State} {a0 : Array Value} {G1 : Int32} {eo : Addr} (cx : Cx a0 Z G1 eo) {n0 : Nat} (x : Addr) (g : Addr) (o : Addr) (h : Heap) (WL FL : List Addr) (P0 : Exa Z h x "com/example/need_to_know/needtoknow/admin/AdminNotice") (P1 : Fld Z h x "com/example/need_to_know/needtoknow/admin/AdminNotice" "refusal" "Z" (.int (0 : Int32))) (P2 : Fld Z h x "com/example/need_to_know/needtoknow/admin/AdminNotice" "message" "Ljava/lang/String;" .null) (P3 : Fld Z h x "com/example/need_to_know/needtoknow/admin/AdminNotice" "madeSecret" "Ljava/util/Optional;" .null) (P4 : x ∈ WL) :
    Ct l Z EL1 n0 (⟨"com/example/need_to_know/needtoknow/admin/AdminNotice", "<init>", "(ZLjava/lang/String;Ljava/util/Optional;)V"⟩ : MethodName) prog_15_method_1_code 4 (Option.none : Option Jvm.ClassFile.FieldType) ({ frames := 1, cells := 0, slots := 0, locals := 12 } : Room) #[(.ref x), (.int (1 : Int32)), (.ref g), (.ref o)] h WL FL (Q_aninit Z G1 eo x g o h) := by
  refine Ct.of (plainFor_of_name pn3) ?_
  intro p e s m below meth c s1 hx hby hml hnm hret hlk X0
  refine Wo.cast (f' := (mkF m 0 #[.val (.ref x), .val (.int (1 : Int32)), .val (.ref g), .val (.ref o)] [])) (by first | rfl | (simp [entryFrame, mkF, argsToLocals, Value.category]; done)) ?_
  have K0 : Keep h h [x] := Keep.refl _ _
  show Wo _ _ _ _ _ _ _ _ _ _ _ s1 (mkF m 0 #[.val (.ref x), .val (.int (1 : Int32)), .val (.ref g), .val (.ref o)] [])
  refine Wo.by (fun _ => XS.aloadN X0.here hx rfl (hb hby d7_0) rfl rfl) ?_
  show Wo _ _ _ _ _ _ _ _ _ _ _ s1 (mkF m 1 #[.val (.ref x), .val (.int (1 : Int32)), .val (.ref g), .val (.ref o)] [.ref x])
  refine X0.initO hx (w40 cx) (w16 cx) (w17 cx) (by rw [hml]; rfl) (hb hby d7_1) (nle rfl) (W := 0) (Nat.le_of_eq rfl) (nle rfl) ?_
  intro T1 X1
  show Wo _ _ _ _ _ _ _ _ _ _ _ T1 (mkF m 4 #[.val (.ref x), .val (.int (1 : Int32)), .val (.ref g), .val (.ref o)] [])
  refine Wo.by (fun _ => XS.aloadN X1.here hx rfl (hb hby d7_4) rfl rfl) ?_
  show Wo _ _ _ _ _ _ _ _ _ _ _ T1 (mkF m 5 #[.val (.ref x), .val (.int (1 : Int32)), .val (.ref g), .val (.ref o)] [.ref x])
  refine Wo.by (fun _ => XS.iloadN X1.here hx rfl (hb hby d7_5) rfl) ?_
  show Wo _ _ _ _ _ _ _ _ _ _ _ T1 (mkF m 6 #[.val (.ref x), .val (.int (1 : Int32)), .val (.ref g), .val (.ref o)] [.int (1 : Int32), .ref x])
  refine X1.putF hx (host := "") (Or.inl (w41 cx)) Via.refl P1 P0 (Or.inr ⟨(w42 cx), rfl, hnm⟩) (w31 cx) (ty := .boolean) (by decide) rfl rfl P4 (hb hby d7_6) ?_
  intro T2 h2 X2 W2 G2
  have K3 : Keep h h2 [x] := K0.wr W2 (Or.inl (List.mem_of_getElem? (i := 0) rfl))
  show Wo _ _ _ _ _ _ _ _ _ _ _ T2 (mkF m 9 #[.val (.ref x), .val (.int (1 : Int32)), .val (.ref g), .val (.ref o)] [])
  refine Wo.by (fun _ => XS.aloadN X2.here hx rfl (hb hby d7_9) rfl rfl) ?_
  show Wo _ _ _ _ _ _ _ _ _ _ _ T2 (mkF m 10 #[.val (.ref x), .val (.int (1 : Int32)), .val (.ref g), .val (.ref o)] [.ref x])
  refine Wo.by (fun _ => XS.aloadN X2.here hx rfl (hb hby d7_10) rfl rfl) ?_
  show Wo _ _ _ _ _ _ _ _ _ _ _ T2 (mkF m 11 #[.val (.ref x), .val (.int (1 : Int32)), .val (.ref g), .val (.ref o)] [.ref g, .ref x])
  have F4 : Fld Z h2 x "com/example/need_to_know/needtoknow/admin/AdminNotice" "message" "Ljava/lang/String;" .null := (P2.other W2 (Or.inr (slot_ne (Or.inr (w44 cx)) (Or.inr (w42 cx)) (by decide) (t := (.object "java/lang/String")) (t' := .boolean) (by decide) (by decide))))
  have F5 : Exa Z h2 x "com/example/need_to_know/needtoknow/admin/AdminNotice" := (P0.wr W2)
  refine X2.putF hx (host := "") (Or.inl (w43 cx)) Via.refl F4 F5 (Or.inr ⟨(w44 cx), rfl, hnm⟩) (w31 cx) (ty := (.object "java/lang/String")) (by decide) rfl rfl P4 (hb hby d7_11) ?_
  intro T6 h6 X6 W6 G6
  have K7 : Keep h h6 [x] := K3.wr W6 (Or.inl (List.mem_of_getElem? (i := 0) rfl))
  show Wo _ _ _ _ _ _ _ _ _ _ _ T6 (mkF m 14 #[.val (.ref x), .val (.int (1 : Int32)), .val (.ref g), .val (.ref o)] [])
  refine Wo.by (fun _ => XS.aloadN X6.here hx rfl (hb hby d7_14) rfl rfl) ?_
  show Wo _ _ _ _ _ _ _ _ _ _ _ T6 (mkF m 15 #[.val (.ref x), .val (.int (1 : Int32)), .val (.ref g), .val (.ref o)] [.ref x])
  refine Wo.by (fun _ => XS.aloadN X6.here hx rfl (hb hby d7_15) rfl rfl) ?_
  show Wo _ _ _ _ _ _ _ _ _ _ _ T6 (mkF m 16 #[.val (.ref x), .val (.int (1 : Int32)), .val (.ref g), .val (.ref o)] [.ref o, .ref x])
  have F8 : Fld Z h6 x "com/example/need_to_know/needtoknow/admin/AdminNotice" "madeSecret" "Ljava/util/Optional;" .null := ((P3.other W2 (Or.inr (slot_ne (Or.inr (w46 cx)) (Or.inr (w42 cx)) (by decide) (t := (.object "java/util/Optional")) (t' := .boolean) (by decide) (by decide)))).other W6 (Or.inr (slot_ne (Or.inr (w46 cx)) (Or.inr (w44 cx)) (by decide) (t := (.object "java/util/Optional")) (t' := (.object "java/lang/String")) (by decide) (by decide))))
  have F9 : Exa Z h6 x "com/example/need_to_know/needtoknow/admin/AdminNotice" := (F5.wr W6)
  refine X6.putF hx (host := "") (Or.inl (w45 cx)) Via.refl F8 F9 (Or.inr ⟨(w46 cx), rfl, hnm⟩) (w31 cx) (ty := (.object "java/util/Optional")) (by decide) rfl rfl P4 (hb hby d7_16) ?_
  intro T10 h10 X10 W10 G10
  have K11 : Keep h h10 [x] := K7.wr W10 (Or.inl (List.mem_of_getElem? (i := 0) rfl))
  show Wo _ _ _ _ _ _ _ _ _ _ _ T10 (mkF m 19 #[.val (.ref x), .val (.int (1 : Int32)), .val (.ref g), .val (.ref o)] [])
  have F12 : Fld Z h10 x "com/example/need_to_know/needtoknow/admin/AdminNotice" "refusal" "Z" (.int (1 : Int32)) := ((G2.other W6 (Or.inr (slot_ne (Or.inr (w42 cx)) (Or.inr (w44 cx)) (by decide) (t := .boolean) (t' := (.object "java/lang/String")) (by decide) (by decide)))).other W10 (Or.inr (slot_ne (Or.inr (w42 cx)) (Or.inr (w46 cx)) (by decide) (t := .boolean) (t' := (.object "java/util/Optional")) (by decide) (by decide))))
  have F13 : Fld Z h10 x "com/example/need_to_know/needtoknow/admin/AdminNotice" "message" "Ljava/lang/String;" (.ref g) := (G6.other W10 (Or.inr (slot_ne (Or.inr (w44 cx)) (Or.inr (w46 cx)) (by decide) (t := (.object "java/lang/String")) (t' := (.object "java/util/Optional")) (by decide) (by decide))))
  exact WS.retV X10 (WL' := []) (FL' := []) hx hret hlk (hb hby d7_19) (nle rfl) (nle rfl) ⟨rfl, rfl, rfl, K11, F12, F13, G10⟩
def Q_refusal (Z : State) (G1 : Int32) (eo : Addr) (g : Addr) (h : Heap) (v : Option Value) (h' : Heap) (WL' FL' : List Addr) : Prop := ∃ x : Addr, v = some (.ref x) ∧ WL' = [x] ∧ FL' = [] ∧ Keep h h' [] ∧ Exa Z h' x "com/example/need_to_know/needtoknow/admin/AdminNotice" ∧ Fld Z h' x "com/example/need_to_know/needtoknow/admin/AdminNotice" "refusal" "Z" (.int (1 : Int32)) ∧ Fld Z h' x "com/example/need_to_know/needtoknow/admin/AdminNotice" "message" "Ljava/lang/String;" (.ref g) ∧ Fld Z h' x "com/example/need_to_know/needtoknow/admin/AdminNotice" "madeSecret" "Ljava/util/Optional;" (.ref eo)
set_option maxRecDepth 65536 in
set_option maxHeartbeats 4000000 in
theorem ct_refusal {l : Launch} {Z : State} {a0 : Array Value} {G1 : Int32} {eo : Addr} (cx : Cx a0 Z G1 eo) {n0 : Nat} (g : Addr) (h : Heap) (WL FL : List Addr)  :
    Ct l Z EL1 n0 (⟨"com/example/need_to_know/needtoknow/admin/AdminNotice", "refusal", "(Ljava/lang/String;)Lcom/example/need_to_know/needtoknow/admin/AdminNotice;"⟩ : MethodName) prog_15_method_2_code 1 (Option.some (Jvm.ClassFile.FieldType.object "com/example/need_to_know/needtoknow/admin/AdminNotice")) ({ frames := 2, cells := 1, slots := 3, locals := 28 } : Room) #[(.ref g)] h WL FL (Q_refusal Z G1 eo g h) := by
  refine Ct.of (plainFor_of_name pn3) ?_
  intro p e s m below meth c s1 hx hby hml hnm hret hlk X0
  refine Wo.cast (f' := (mkF m 0 #[.val (.ref g)] [])) (by first | rfl | (simp [entryFrame, mkF, argsToLocals, Value.category]; done)) ?_
  have K0 : Keep h h [] := Keep.refl _ _
  show Wo _ _ _ _ _ _ _ _ _ _ _ s1 (mkF m 0 #[.val (.ref g)] [])
  refine X0.newO hx (w30 cx) (w31 cx) (w28 cx) (hb hby d5_0) (nle rfl) (nle rfl) ?_
  intro T1 h1 a1 X1 E1 g1 A1 D1
  have ge2 : h.size ≤ a1 := Nat.le_trans K0.1 g1
  have K3 : Keep h h1 [] := K0.ext E1
  have D4 : Fld Z h1 a1 "com/example/need_to_know/needtoknow/admin/AdminNotice" "refusal" "Z" (.int (0 : Int32)) := D1 (Or.inr (w42 cx)) (ty := .boolean) (by decide)
  have D5 : Fld Z h1 a1 "com/example/need_to_know/needtoknow/admin/AdminNotice" "message" "Ljava/lang/String;" .null := D1 (Or.inr (w44 cx)) (ty := (.object "java/lang/String")) (by decide)
  have D6 : Fld Z h1 a1 "com/example/need_to_know/needtoknow/admin/AdminNotice" "madeSecret" "Ljava/util/Optional;" .null := D1 (Or.inr (w46 cx)) (ty := (.object "java/util/Optional")) (by decide)
  show Wo _ _ _ _ _ _ _ _ _ _ _ T1 (mkF m 3 #[.val (.ref g)] [.ref a1])
  refine Wo.by (fun _ => XS.dup X1.here hx rfl (hb hby d5_3) rfl rfl) ?_
  show Wo _ _ _ _ _ _ _ _ _ _ _ T1 (mkF m 4 #[.val (.ref g)] [.ref a1, .ref a1])
  refine Wo.by (fun _ => XS.iconst X1.here hx rfl (hb hby d5_4)) ?_
  show Wo _ _ _ _ _ _ _ _ _ _ _ T1 (mkF m 5 #[.val (.ref g)] [.int (1 : Int32), .ref a1, .ref a1])
  refine Wo.by (fun _ => XS.aloadN X1.here hx rfl (hb hby d5_5) rfl rfl) ?_
  show Wo _ _ _ _ _ _ _ _ _ _ _ T1 (mkF m 6 #[.val (.ref g)] [.ref g, .int (1 : Int32), .ref a1, .ref a1])
  refine X1.callS hx (w32 cx) (w33 cx) (w34 cx) (w35 cx) (by decide) (Ct.pay (W := 4) (ct_oempty cx  h1 _ _ ) (w35 cx) (w34 cx) (nle rfl) (nle rfl)) (by rw [hml]; rfl) (argsL := []) (rest := [.ref g, .int (1 : Int32), .ref a1, .ref a1]) (lenOf pd2 rfl) rfl rfl (Nat.le_of_eq rfl) (hb hby d5_6) (nle rfl) (nle rfl) ?_
  rintro T7 h7 _ _ _ X7 ⟨rfl, rfl, rfl, J7⟩
  rw [J7] at X7
  show Wo _ _ _ _ _ _ _ _ _ _ _ T7 (mkF m 9 #[.val (.ref g)] [.ref eo, .ref g, .int (1 : Int32), .ref a1, .ref a1])
  refine X7.callC hx rfl (w37 cx) (w38 cx) (w39 cx) (by decide) (Ct.pay (W := 1) (ct_aninit cx a1 g eo h1 _ _ A1 D4 D5 D6 (List.mem_of_getElem? (i := 0) rfl)) (w39 cx) (w28 cx) (nle rfl) (nle rfl)) (by rw [hml]; rfl) (argsL := [.int (1 : Int32), .ref g, .ref eo]) (rest := [.ref a1]) (lenOf pd3 rfl) rfl rfl (Nat.le_of_eq rfl) (hb hby d5_9) (nle rfl) (nle rfl) ?_
  rintro T8 h8 _ _ _ X8 ⟨rfl, rfl, rfl, J8, G9, G10, G11⟩
  have K12 : Keep h h8 [] := K3.trans J8 (allS (Or.inr ge2) all0)
  show Wo _ _ _ _ _ _ _ _ _ _ _ T8 (mkF m 12 #[.val (.ref g)] [.ref a1])
  have F13 : Exa Z h8 a1 "com/example/need_to_know/needtoknow/admin/AdminNotice" := (A1.keep J8)
  exact WS.retA X8 (WL' := [a1]) (FL' := []) hx hret rfl rfl hlk (hb hby d5_12) (nle rfl) (nle rfl) ⟨a1, rfl, rfl, rfl, K12, F13, G9, G10, G11⟩
def Q_isref (Z : State) (G1 : Int32) (eo : Addr) (x : Addr) (h : Heap) (v : Option Value) (h' : Heap) (WL' FL' : List Addr) : Prop := v = some (.int (1 : Int32)) ∧ WL' = [] ∧ FL' = [] ∧ h' = h
set_option maxRecDepth 65536 in
set_option maxHeartbeats 4000000 in
theorem ct_isref {l : Launch} {Z : State} {a0 : Array Value} {G1 : Int32} {eo : Addr} (cx : Cx a0 Z G1 eo) {n0 : Nat} (x : Addr) (h : Heap) (WL FL : List Addr) (P0 : Fld Z h x "com/example/need_to_know/needtoknow/admin/AdminNotice" "refusal" "Z" (.int (1 : Int32))) :
    Ct l Z EL1 n0 (⟨"com/example/need_to_know/needtoknow/admin/AdminNotice", "isRefusal", "()Z"⟩ : MethodName) prog_15_method_4_code 1 (Option.some Jvm.ClassFile.FieldType.boolean) ({ frames := 0, cells := 0, slots := 0, locals := 0 } : Room) #[(.ref x)] h WL FL (Q_isref Z G1 eo x h) := by
  refine Ct.of (plainFor_of_name pn3) ?_
  intro p e s m below meth c s1 hx hby hml hnm hret hlk X0
  refine Wo.cast (f' := (mkF m 0 #[.val (.ref x)] [])) (by first | rfl | (simp [entryFrame, mkF, argsToLocals, Value.category]; done)) ?_
  show Wo _ _ _ _ _ _ _ _ _ _ _ s1 (mkF m 0 #[.val (.ref x)] [])
  refine Wo.by (fun _ => XS.aloadN X0.here hx rfl (hb hby d8_0) rfl rfl) ?_
  show Wo _ _ _ _ _ _ _ _ _ _ _ s1 (mkF m 1 #[.val (.ref x)] [.ref x])
  refine X0.getF hx (host := "") (Or.inl (w41 cx)) Via.refl P0 (hb hby d8_1) ?_
  intro T1 X1
  show Wo _ _ _ _ _ _ _ _ _ _ _ T1 (mkF m 4 #[.val (.ref x)] [.int (1 : Int32)])
  exact WS.retN X1 (WL' := []) (FL' := []) hx (t := .boolean) hret (by simp) hlk (hb hby d8_4) (nle rfl) (nle rfl) ⟨rfl, rfl, rfl, rfl⟩
def Q_mess (Z : State) (G1 : Int32) (eo : Addr) (x : Addr) (g : Addr) (h : Heap) (v : Option Value) (h' : Heap) (WL' FL' : List Addr) : Prop := v = some (.ref g) ∧ WL' = [] ∧ FL' = [] ∧ h' = h
set_option maxRecDepth 65536 in
set_option maxHeartbeats 4000000 in
theorem ct_mess {l : Launch} {Z : State} {a0 : Array Value} {G1 : Int32} {eo : Addr} (cx : Cx a0 Z G1 eo) {n0 : Nat} (x : Addr) (g : Addr) (h : Heap) (WL FL : List Addr) (P0 : Fld Z h x "com/example/need_to_know/needtoknow/admin/AdminNotice" "message" "Ljava/lang/String;" (.ref g)) :
    Ct l Z EL1 n0 (⟨"com/example/need_to_know/needtoknow/admin/AdminNotice", "message", "()Ljava/lang/String;"⟩ : MethodName) prog_15_method_5_code 1 (Option.some (Jvm.ClassFile.FieldType.object "java/lang/String")) ({ frames := 0, cells := 0, slots := 0, locals := 0 } : Room) #[(.ref x)] h WL FL (Q_mess Z G1 eo x g h) := by
  refine Ct.of (plainFor_of_name pn3) ?_
  intro p e s m below meth c s1 hx hby hml hnm hret hlk X0
  refine Wo.cast (f' := (mkF m 0 #[.val (.ref x)] [])) (by first | rfl | (simp [entryFrame, mkF, argsToLocals, Value.category]; done)) ?_
  show Wo _ _ _ _ _ _ _ _ _ _ _ s1 (mkF m 0 #[.val (.ref x)] [])
  refine Wo.by (fun _ => XS.aloadN X0.here hx rfl (hb hby d9_0) rfl rfl) ?_
  show Wo _ _ _ _ _ _ _ _ _ _ _ s1 (mkF m 1 #[.val (.ref x)] [.ref x])
  refine X0.getF hx (host := "") (Or.inl (w43 cx)) Via.refl P0 (hb hby d9_1) ?_
  intro T1 X1
  show Wo _ _ _ _ _ _ _ _ _ _ _ T1 (mkF m 4 #[.val (.ref x)] [.ref g])
  exact WS.retA X1 (WL' := []) (FL' := []) hx hret rfl rfl hlk (hb hby d9_4) (nle rfl) (nle rfl) ⟨rfl, rfl, rfl, rfl⟩
def Q_msec (Z : State) (G1 : Int32) (eo : Addr) (x : Addr) (g : Addr) (h : Heap) (v : Option Value) (h' : Heap) (WL' FL' : List Addr) : Prop := v = some (.ref g) ∧ WL' = [] ∧ FL' = [] ∧ h' = h
set_option maxRecDepth 65536 in
set_option maxHeartbeats 4000000 in
theorem ct_msec {l : Launch} {Z : State} {a0 : Array Value} {G1 : Int32} {eo : Addr} (cx : Cx a0 Z G1 eo) {n0 : Nat} (x : Addr) (g : Addr) (h : Heap) (WL FL : List Addr) (P0 : Fld Z h x "com/example/need_to_know/needtoknow/admin/AdminNotice" "madeSecret" "Ljava/util/Optional;" (.ref g)) :
    Ct l Z EL1 n0 (⟨"com/example/need_to_know/needtoknow/admin/AdminNotice", "madeSecret", "()Ljava/util/Optional;"⟩ : MethodName) prog_15_method_6_code 1 (Option.some (Jvm.ClassFile.FieldType.object "java/util/Optional")) ({ frames := 0, cells := 0, slots := 0, locals := 0 } : Room) #[(.ref x)] h WL FL (Q_msec Z G1 eo x g h) := by
  refine Ct.of (plainFor_of_name pn3) ?_
  intro p e s m below meth c s1 hx hby hml hnm hret hlk X0
  refine Wo.cast (f' := (mkF m 0 #[.val (.ref x)] [])) (by first | rfl | (simp [entryFrame, mkF, argsToLocals, Value.category]; done)) ?_
  show Wo _ _ _ _ _ _ _ _ _ _ _ s1 (mkF m 0 #[.val (.ref x)] [])
  refine Wo.by (fun _ => XS.aloadN X0.here hx rfl (hb hby d11_0) rfl rfl) ?_
  show Wo _ _ _ _ _ _ _ _ _ _ _ s1 (mkF m 1 #[.val (.ref x)] [.ref x])
  refine X0.getF hx (host := "") (Or.inl (w45 cx)) Via.refl P0 (hb hby d11_1) ?_
  intro T1 X1
  show Wo _ _ _ _ _ _ _ _ _ _ _ T1 (mkF m 4 #[.val (.ref x)] [.ref g])
  exact WS.retA X1 (WL' := []) (FL' := []) hx hret rfl rfl hlk (hb hby d11_4) (nle rfl) (nle rfl) ⟨rfl, rfl, rfl, rfl⟩
def Q_eqself (Z : State) (G1 : Int32) (eo : Addr) (x : Addr) (h : Heap) (v : Option Value) (h' : Heap) (WL' FL' : List Addr) : Prop := v = some (.int (1 : Int32)) ∧ WL' = [] ∧ FL' = [] ∧ h' = h
set_option maxRecDepth 65536 in
set_option maxHeartbeats 4000000 in
theorem ct_eqself {l : Launch} {Z : State} {a0 : Array Value} {G1 : Int32} {eo : Addr} (cx : Cx a0 Z G1 eo) {n0 : Nat} (x : Addr) (h : Heap) (WL FL : List Addr)  :
    Ct l Z EL1 n0 (⟨"java/lang/String", "equals", "(Ljava/lang/Object;)Z"⟩ : MethodName) jdk_42_method_66_code 3 (Option.some Jvm.ClassFile.FieldType.boolean) ({ frames := 0, cells := 0, slots := 0, locals := 0 } : Room) #[(.ref x), (.ref x)] h WL FL (Q_eqself Z G1 eo x h) := by
  refine Ct.of (plainFor_of_name pn0) ?_
  intro p e s m below meth c s1 hx hby hml hnm hret hlk X0
  refine Wo.cast (f' := (mkF m 0 #[.val (.ref x), .val (.ref x), .unset] [])) (by first | rfl | (simp [entryFrame, mkF, argsToLocals, Value.category]; done)) ?_
  show Wo _ _ _ _ _ _ _ _ _ _ _ s1 (mkF m 0 #[.val (.ref x), .val (.ref x), .unset] [])
  refine Wo.by (fun _ => XS.aloadN X0.here hx rfl (hb hby d10_0) rfl rfl) ?_
  show Wo _ _ _ _ _ _ _ _ _ _ _ s1 (mkF m 1 #[.val (.ref x), .val (.ref x), .unset] [.ref x])
  refine Wo.by (fun _ => XS.aloadN X0.here hx rfl (hb hby d10_1) rfl rfl) ?_
  show Wo _ _ _ _ _ _ _ _ _ _ _ s1 (mkF m 2 #[.val (.ref x), .val (.ref x), .unset] [.ref x, .ref x])
  refine WS.acmp X0 hx (x := (.ref x)) (y := (.ref x)) rfl rfl (pc' := 5) (same := true) (hb hby d10_2) (decide_eq_true rfl) (by decide) (by decide) ?_
  show Wo _ _ _ _ _ _ _ _ _ _ _ s1 (mkF m 5 #[.val (.ref x), .val (.ref x), .unset] [])
  refine Wo.by (fun _ => XS.iconst X0.here hx rfl (hb hby d10_5)) ?_
  show Wo _ _ _ _ _ _ _ _ _ _ _ s1 (mkF m 6 #[.val (.ref x), .val (.ref x), .unset] [.int (1 : Int32)])
  exact WS.retN X0 (WL' := []) (FL' := []) hx (t := .boolean) hret (by simp) hlk (hb hby d10_6) (nle rfl) (nle rfl) ⟨rfl, rfl, rfl, rfl⟩
def Q_ispres (Z : State) (G1 : Int32) (eo : Addr) (x : Addr) (h : Heap) (v : Option Value) (h' : Heap) (WL' FL' : List Addr) : Prop := v = some (.int (0 : Int32)) ∧ WL' = [] ∧ FL' = [] ∧ h' = h
set_option maxRecDepth 65536 in
set_option maxHeartbeats 4000000 in
theorem ct_ispres {l : Launch} {Z : State} {a0 : Array Value} {G1 : Int32} {eo : Addr} (cx : Cx a0 Z G1 eo) {n0 : Nat} (x : Addr) (h : Heap) (WL FL : List Addr) (P0 : Fld Z h x "java/util/Optional" "value" "Ljava/lang/Object;" .null) :
    Ct l Z EL1 n0 (⟨"java/util/Optional", "isPresent", "()Z"⟩ : MethodName) jdk_32_method_6_code 1 (Option.some Jvm.ClassFile.FieldType.boolean) ({ frames := 0, cells := 0, slots := 0, locals := 0 } : Room) #[(.ref x)] h WL FL (Q_ispres Z G1 eo x h) := by
  refine Ct.of (plainFor_of_name pn2) ?_
  intro p e s m below meth c s1 hx hby hml hnm hret hlk X0
  refine Wo.cast (f' := (mkF m 0 #[.val (.ref x)] [])) (by first | rfl | (simp [entryFrame, mkF, argsToLocals, Value.category]; done)) ?_
  show Wo _ _ _ _ _ _ _ _ _ _ _ s1 (mkF m 0 #[.val (.ref x)] [])
  refine Wo.by (fun _ => XS.aloadN X0.here hx rfl (hb hby d12_0) rfl rfl) ?_
  show Wo _ _ _ _ _ _ _ _ _ _ _ s1 (mkF m 1 #[.val (.ref x)] [.ref x])
  refine X0.getF hx (host := "") (Or.inl (w72 cx)) Via.refl P0 (hb hby d12_1) ?_
  intro T1 X1
  show Wo _ _ _ _ _ _ _ _ _ _ _ T1 (mkF m 4 #[.val (.ref x)] [.null])
  refine Wo.by (fun _ => XS.ifnullYes X1.here hx rfl (pc0 := 4) (pc' := 11) rfl (hb hby d12_4) rfl (by decide) (by decide)) ?_
  show Wo _ _ _ _ _ _ _ _ _ _ _ T1 (mkF m 11 #[.val (.ref x)] [])
  refine Wo.by (fun _ => XS.iconst X1.here hx rfl (hb hby d12_11)) ?_
  show Wo _ _ _ _ _ _ _ _ _ _ _ T1 (mkF m 12 #[.val (.ref x)] [.int (0 : Int32)])
  exact WS.retN X1 (WL' := []) (FL' := []) hx (t := .boolean) hret (by simp) hlk (hb hby d12_12) (nle rfl) (nle rfl) ⟨rfl, rfl, rfl, rfl⟩
def Q_law (Z : State) (G1 : Int32) (eo : Addr) (p0 : Int32) (p1 : Int32) (p2 : Int32) (p3 : Int32) (p4 : Int32) (p5 : Int32) (h : Heap) (v : Option Value) (h' : Heap) (WL' FL' : List Addr) : Prop := v = some (.int (1 : Int32)) ∧ WL' = [] ∧ FL' = [] ∧ Keep h h' []
set_option maxRecDepth 65536 in
set_option maxHeartbeats 4000000 in
theorem ct_law {l : Launch} {Z : State} {a0 : Array Value} {G1 : Int32} {eo : Addr} (cx : Cx a0 Z G1 eo) {n0 : Nat} (p0 : Int32) (p1 : Int32) (p2 : Int32) (p3 : Int32) (p4 : Int32) (p5 : Int32) (h : Heap) (WL FL : List Addr)  :
    Ct l Z EL1 n0 x code maxLocals ret room_1 #[(.int p0), (.int p1), (.int p2), (.int p3), (.int p4), (.int p5)] h WL FL (Q_law Z G1 eo p0 p1 p2 p3 p4 p5 h) := by
  refine Ct.of (plainFor_of_name pn1) ?_
  intro p e s m below meth c s1 hx hby hml hnm hret hlk X0
  refine Wo.cast (f' := (mkF m 0 #[.val (.int p0), .val (.int p1), .val (.int p2), .val (.int p3), .val (.int p4), .val (.int p5), .unset, .unset, .unset, .unset, .unset, .unset] [])) (by first | rfl | (simp [entryFrame, mkF, argsToLocals, Value.category]; done)) ?_
  have K0 : Keep h h [] := Keep.refl _ _
  show Wo _ _ _ _ _ _ _ _ _ _ _ s1 (mkF m 0 #[.val (.int p0), .val (.int p1), .val (.int p2), .val (.int p3), .val (.int p4), .val (.int p5), .unset, .unset, .unset, .unset, .unset, .unset] [])
  refine Wo.by (fun _ => XS.iloadN X0.here hx rfl (hb hby at_0) rfl) ?_
  show Wo _ _ _ _ _ _ _ _ _ _ _ s1 (mkF m 1 #[.val (.int p0), .val (.int p1), .val (.int p2), .val (.int p3), .val (.int p4), .val (.int p5), .unset, .unset, .unset, .unset, .unset, .unset] [.int p0])
  refine Wo.by (fun _ => XS.iloadN X0.here hx rfl (hb hby at_1) rfl) ?_
  show Wo _ _ _ _ _ _ _ _ _ _ _ s1 (mkF m 2 #[.val (.int p0), .val (.int p1), .val (.int p2), .val (.int p3), .val (.int p4), .val (.int p5), .unset, .unset, .unset, .unset, .unset, .unset] [.int p1, .int p0])
  refine Wo.by (fun _ => XS.iloadN X0.here hx rfl (hb hby at_2) rfl) ?_
  show Wo _ _ _ _ _ _ _ _ _ _ _ s1 (mkF m 3 #[.val (.int p0), .val (.int p1), .val (.int p2), .val (.int p3), .val (.int p4), .val (.int p5), .unset, .unset, .unset, .unset, .unset, .unset] [.int p2, .int p1, .int p0])
  refine Wo.by (fun _ => XS.iloadN X0.here hx rfl (hb hby at_3) rfl) ?_
  show Wo _ _ _ _ _ _ _ _ _ _ _ s1 (mkF m 4 #[.val (.int p0), .val (.int p1), .val (.int p2), .val (.int p3), .val (.int p4), .val (.int p5), .unset, .unset, .unset, .unset, .unset, .unset] [.int p3, .int p2, .int p1, .int p0])
  refine X0.callS hx (w0 cx) (w1 cx) (w2 cx) (w3 cx) (by decide) (Ct.pay (W := 0) (ct_draw cx p0 p1 p2 p3 h _ _ ) (w3 cx) (w2 cx) (nle rfl) (nle rfl)) (by rw [hml]; rfl) (argsL := [.int p0, .int p1, .int p2, .int p3]) (rest := []) (lenOf pd4 rfl) rfl rfl (Nat.le_of_eq rfl) (hb hby at_4) (nle rfl) (nle rfl) ?_
  rintro T1 h1 _ _ _ X1 ⟨a2, a3, x4, rfl, rfl, rfl, J1, G5⟩
  have K6 : Keep h h1 [] := K0.trans J1 all0
  show Wo _ _ _ _ _ _ _ _ _ _ _ T1 (mkF m 7 #[.val (.int p0), .val (.int p1), .val (.int p2), .val (.int p3), .val (.int p4), .val (.int p5), .unset, .unset, .unset, .unset, .unset, .unset] [.ref a2])
  refine Wo.by (fun _ => XS.astore X1.here hx rfl (hb hby at_7) rfl rfl (l' := #[.val (.int p0), .val (.int p1), .val (.int p2), .val (.int p3), .val (.int p4), .val (.int p5), .val (.ref a2), .unset, .unset, .unset, .unset, .unset]) rfl) ?_
  show Wo _ _ _ _ _ _ _ _ _ _ _ T1 (mkF m 9 #[.val (.int p0), .val (.int p1), .val (.int p2), .val (.int p3), .val (.int p4), .val (.int p5), .val (.ref a2), .unset, .unset, .unset, .unset, .unset] [])
  refine Wo.by (fun _ => XS.iload X1.here hx rfl (hb hby at_9) rfl) ?_
  show Wo _ _ _ _ _ _ _ _ _ _ _ T1 (mkF m 11 #[.val (.int p0), .val (.int p1), .val (.int p2), .val (.int p3), .val (.int p4), .val (.int p5), .val (.ref a2), .unset, .unset, .unset, .unset, .unset] [.int p4])
  refine Wo.by (fun _ => XS.iload X1.here hx rfl (hb hby at_11) rfl) ?_
  show Wo _ _ _ _ _ _ _ _ _ _ _ T1 (mkF m 13 #[.val (.int p0), .val (.int p1), .val (.int p2), .val (.int p3), .val (.int p4), .val (.int p5), .val (.ref a2), .unset, .unset, .unset, .unset, .unset] [.int p5, .int p4])
  refine Wo.by (fun _ => XS.iloadN X1.here hx rfl (hb hby at_13) rfl) ?_
  show Wo _ _ _ _ _ _ _ _ _ _ _ T1 (mkF m 14 #[.val (.int p0), .val (.int p1), .val (.int p2), .val (.int p3), .val (.int p4), .val (.int p5), .val (.ref a2), .unset, .unset, .unset, .unset, .unset] [.int p1, .int p5, .int p4])
  refine Wo.by (fun _ => XS.iloadN X1.here hx rfl (hb hby at_14) rfl) ?_
  show Wo _ _ _ _ _ _ _ _ _ _ _ T1 (mkF m 15 #[.val (.int p0), .val (.int p1), .val (.int p2), .val (.int p3), .val (.int p4), .val (.int p5), .val (.ref a2), .unset, .unset, .unset, .unset, .unset] [.int p2, .int p1, .int p5, .int p4])
  refine X1.callS hx (w0 cx) (w1 cx) (w2 cx) (w3 cx) (by decide) (Ct.pay (W := 0) (ct_draw cx p4 p5 p1 p2 h1 _ _ ) (w3 cx) (w2 cx) (nle rfl) (nle rfl)) (by rw [hml]; rfl) (argsL := [.int p4, .int p5, .int p1, .int p2]) (rest := []) (lenOf pd4 rfl) rfl rfl (Nat.le_of_eq rfl) (hb hby at_15) (nle rfl) (nle rfl) ?_
  rintro T7 h7 _ _ _ X7 ⟨a8, a9, x10, rfl, rfl, rfl, J7, G11⟩
  have K12 : Keep h h7 [] := K6.trans J7 all0
  show Wo _ _ _ _ _ _ _ _ _ _ _ T7 (mkF m 18 #[.val (.int p0), .val (.int p1), .val (.int p2), .val (.int p3), .val (.int p4), .val (.int p5), .val (.ref a2), .unset, .unset, .unset, .unset, .unset] [.ref a8])
  refine Wo.by (fun _ => XS.astore X7.here hx rfl (hb hby at_18) rfl rfl (l' := #[.val (.int p0), .val (.int p1), .val (.int p2), .val (.int p3), .val (.int p4), .val (.int p5), .val (.ref a2), .val (.ref a8), .unset, .unset, .unset, .unset]) rfl) ?_
  show Wo _ _ _ _ _ _ _ _ _ _ _ T7 (mkF m 20 #[.val (.int p0), .val (.int p1), .val (.int p2), .val (.int p3), .val (.int p4), .val (.int p5), .val (.ref a2), .val (.ref a8), .unset, .unset, .unset, .unset] [])
  refine Wo.by (fun _ => XS.aload X7.here hx rfl (hb hby at_20) rfl rfl) ?_
  show Wo _ _ _ _ _ _ _ _ _ _ _ T7 (mkF m 22 #[.val (.int p0), .val (.int p1), .val (.int p2), .val (.int p3), .val (.int p4), .val (.int p5), .val (.ref a2), .val (.ref a8), .unset, .unset, .unset, .unset] [.ref a2])
  refine X7.callS hx (w26 cx) (w27 cx) (w28 cx) (w29 cx) (by decide) (Ct.pay (W := 0) (ct_refusal cx a2 h7 _ _ ) (w29 cx) (w28 cx) (nle rfl) (nle rfl)) (by rw [hml]; rfl) (argsL := [.ref a2]) (rest := []) (lenOf pd5 rfl) rfl rfl (Nat.le_of_eq rfl) (hb hby at_22) (nle rfl) (nle rfl) ?_
  rintro T13 h13 _ _ _ X13 ⟨a14, rfl, rfl, rfl, J13, G15, G16, G17, G18⟩
  have K19 : Keep h h13 [] := K12.trans J13 all0
  show Wo _ _ _ _ _ _ _ _ _ _ _ T13 (mkF m 25 #[.val (.int p0), .val (.int p1), .val (.int p2), .val (.int p3), .val (.int p4), .val (.int p5), .val (.ref a2), .val (.ref a8), .unset, .unset, .unset, .unset] [.ref a14])
  refine Wo.by (fun _ => XS.astore X13.here hx rfl (hb hby at_25) rfl rfl (l' := #[.val (.int p0), .val (.int p1), .val (.int p2), .val (.int p3), .val (.int p4), .val (.int p5), .val (.ref a2), .val (.ref a8), .val (.ref a14), .unset, .unset, .unset]) rfl) ?_
  show Wo _ _ _ _ _ _ _ _ _ _ _ T13 (mkF m 27 #[.val (.int p0), .val (.int p1), .val (.int p2), .val (.int p3), .val (.int p4), .val (.int p5), .val (.ref a2), .val (.ref a8), .val (.ref a14), .unset, .unset, .unset] [])
  refine Wo.by (fun _ => XS.aload X13.here hx rfl (hb hby at_27) rfl rfl) ?_
  show Wo _ _ _ _ _ _ _ _ _ _ _ T13 (mkF m 29 #[.val (.int p0), .val (.int p1), .val (.int p2), .val (.int p3), .val (.int p4), .val (.int p5), .val (.ref a2), .val (.ref a8), .val (.ref a14), .unset, .unset, .unset] [.ref a8])
  refine X13.callS hx (w26 cx) (w27 cx) (w28 cx) (w29 cx) (by decide) (Ct.pay (W := 0) (ct_refusal cx a8 h13 _ _ ) (w29 cx) (w28 cx) (nle rfl) (nle rfl)) (by rw [hml]; rfl) (argsL := [.ref a8]) (rest := []) (lenOf pd5 rfl) rfl rfl (Nat.le_of_eq rfl) (hb hby at_29) (nle rfl) (nle rfl) ?_
  rintro T20 h20 _ _ _ X20 ⟨a21, rfl, rfl, rfl, J20, G22, G23, G24, G25⟩
  have K26 : Keep h h20 [] := K19.trans J20 all0
  show Wo _ _ _ _ _ _ _ _ _ _ _ T20 (mkF m 32 #[.val (.int p0), .val (.int p1), .val (.int p2), .val (.int p3), .val (.int p4), .val (.int p5), .val (.ref a2), .val (.ref a8), .val (.ref a14), .unset, .unset, .unset] [.ref a21])
  refine Wo.by (fun _ => XS.astore X20.here hx rfl (hb hby at_32) rfl rfl (l' := #[.val (.int p0), .val (.int p1), .val (.int p2), .val (.int p3), .val (.int p4), .val (.int p5), .val (.ref a2), .val (.ref a8), .val (.ref a14), .val (.ref a21), .unset, .unset]) rfl) ?_
  show Wo _ _ _ _ _ _ _ _ _ _ _ T20 (mkF m 34 #[.val (.int p0), .val (.int p1), .val (.int p2), .val (.int p3), .val (.int p4), .val (.int p5), .val (.ref a2), .val (.ref a8), .val (.ref a14), .val (.ref a21), .unset, .unset] [])
  refine Wo.by (fun _ => XS.aload X20.here hx rfl (hb hby at_34) rfl rfl) ?_
  show Wo _ _ _ _ _ _ _ _ _ _ _ T20 (mkF m 36 #[.val (.int p0), .val (.int p1), .val (.int p2), .val (.int p3), .val (.int p4), .val (.int p5), .val (.ref a2), .val (.ref a8), .val (.ref a14), .val (.ref a21), .unset, .unset] [.ref a14])
  have F27 : Exa Z h20 a14 "com/example/need_to_know/needtoknow/admin/AdminNotice" := (G15.keep J20)
  have F28 : Fld Z h20 a14 "com/example/need_to_know/needtoknow/admin/AdminNotice" "refusal" "Z" (.int (1 : Int32)) := (G16.keep J20 nin0)
  refine X20.callV hx (w47 cx) (w48 cx) (w50 cx) (w49 cx) (fun _ hZ => nf hZ (w50 cx)) (by decide) F27 (Ct.pay (W := 0) (ct_isref cx a14 h20 _ _ F28) (w51 cx) (w28 cx) (nle rfl) (nle rfl)) (by rw [hml]; rfl) (argsL := []) (rest := []) (lenOf pd6 rfl) rfl rfl (Nat.le_of_eq rfl) (hb hby at_36) (nle rfl) (nle rfl) ?_
  rintro T29 h29 _ _ _ X29 ⟨rfl, rfl, rfl, J29⟩
  rw [J29] at X29
  show Wo _ _ _ _ _ _ _ _ _ _ _ T29 (mkF m 39 #[.val (.int p0), .val (.int p1), .val (.int p2), .val (.int p3), .val (.int p4), .val (.int p5), .val (.ref a2), .val (.ref a8), .val (.ref a14), .val (.ref a21), .unset, .unset] [.int (1 : Int32)])
  refine Wo.by (fun _ => XS.ifNo X29.here hx rfl (hb hby at_39) rfl (by decide)) ?_
  show Wo _ _ _ _ _ _ _ _ _ _ _ T29 (mkF m 42 #[.val (.int p0), .val (.int p1), .val (.int p2), .val (.int p3), .val (.int p4), .val (.int p5), .val (.ref a2), .val (.ref a8), .val (.ref a14), .val (.ref a21), .unset, .unset] [])
  refine Wo.by (fun _ => XS.aload X29.here hx rfl (hb hby at_42) rfl rfl) ?_
  show Wo _ _ _ _ _ _ _ _ _ _ _ T29 (mkF m 44 #[.val (.int p0), .val (.int p1), .val (.int p2), .val (.int p3), .val (.int p4), .val (.int p5), .val (.ref a2), .val (.ref a8), .val (.ref a14), .val (.ref a21), .unset, .unset] [.ref a2])
  refine Wo.by (fun _ => XS.aload X29.here hx rfl (hb hby at_44) rfl rfl) ?_
  show Wo _ _ _ _ _ _ _ _ _ _ _ T29 (mkF m 46 #[.val (.int p0), .val (.int p1), .val (.int p2), .val (.int p3), .val (.int p4), .val (.int p5), .val (.ref a2), .val (.ref a8), .val (.ref a14), .val (.ref a21), .unset, .unset] [.ref a14, .ref a2])
  have F30 : Fld Z h20 a14 "com/example/need_to_know/needtoknow/admin/AdminNotice" "message" "Ljava/lang/String;" (.ref a2) := (G17.keep J20 nin0)
  refine X29.callV hx (w52 cx) (w53 cx) (w55 cx) (w54 cx) (fun _ hZ => nf hZ (w55 cx)) (by decide) F27 (Ct.pay (W := 1) (ct_mess cx a14 a2 h20 _ _ F30) (w56 cx) (w28 cx) (nle rfl) (nle rfl)) (by rw [hml]; rfl) (argsL := []) (rest := [.ref a2]) (lenOf pd7 rfl) rfl rfl (Nat.le_of_eq rfl) (hb hby at_46) (nle rfl) (nle rfl) ?_
  rintro T31 h31 _ _ _ X31 ⟨rfl, rfl, rfl, J31⟩
  rw [J31] at X31
  show Wo _ _ _ _ _ _ _ _ _ _ _ T31 (mkF m 49 #[.val (.int p0), .val (.int p1), .val (.int p2), .val (.int p3), .val (.int p4), .val (.int p5), .val (.ref a2), .val (.ref a8), .val (.ref a14), .val (.ref a21), .unset, .unset] [.ref a2, .ref a2])
  have F32 : Exa Z h20 a2 "java/lang/String" := (((G5.1.keep J7).keep J13).keep J20)
  refine X31.callV hx (w57 cx) (w58 cx) (w60 cx) (w59 cx) (fun _ hZ => nf hZ (w60 cx)) (by decide) F32 (Ct.pay (W := 0) (ct_eqself cx a2 h20 _ _ ) (w61 cx) (w6 cx) (nle rfl) (nle rfl)) (by rw [hml]; rfl) (argsL := [.ref a2]) (rest := []) (lenOf pd8 rfl) rfl rfl (Nat.le_of_eq rfl) (hb hby at_49) (nle rfl) (nle rfl) ?_
  rintro T33 h33 _ _ _ X33 ⟨rfl, rfl, rfl, J33⟩
  rw [J33] at X33
  show Wo _ _ _ _ _ _ _ _ _ _ _ T33 (mkF m 52 #[.val (.int p0), .val (.int p1), .val (.int p2), .val (.int p3), .val (.int p4), .val (.int p5), .val (.ref a2), .val (.ref a8), .val (.ref a14), .val (.ref a21), .unset, .unset] [.int (1 : Int32)])
  refine Wo.by (fun _ => XS.ifNo X33.here hx rfl (hb hby at_52) rfl (by decide)) ?_
  show Wo _ _ _ _ _ _ _ _ _ _ _ T33 (mkF m 55 #[.val (.int p0), .val (.int p1), .val (.int p2), .val (.int p3), .val (.int p4), .val (.int p5), .val (.ref a2), .val (.ref a8), .val (.ref a14), .val (.ref a21), .unset, .unset] [])
  refine Wo.by (fun _ => XS.aload X33.here hx rfl (hb hby at_55) rfl rfl) ?_
  show Wo _ _ _ _ _ _ _ _ _ _ _ T33 (mkF m 57 #[.val (.int p0), .val (.int p1), .val (.int p2), .val (.int p3), .val (.int p4), .val (.int p5), .val (.ref a2), .val (.ref a8), .val (.ref a14), .val (.ref a21), .unset, .unset] [.ref a14])
  have F34 : Fld Z h20 a14 "com/example/need_to_know/needtoknow/admin/AdminNotice" "madeSecret" "Ljava/util/Optional;" (.ref eo) := (G18.keep J20 nin0)
  refine X33.callV hx (w62 cx) (w63 cx) (w65 cx) (w64 cx) (fun _ hZ => nf hZ (w65 cx)) (by decide) F27 (Ct.pay (W := 0) (ct_msec cx a14 eo h20 _ _ F34) (w66 cx) (w28 cx) (nle rfl) (nle rfl)) (by rw [hml]; rfl) (argsL := []) (rest := []) (lenOf pd2 rfl) rfl rfl (Nat.le_of_eq rfl) (hb hby at_57) (nle rfl) (nle rfl) ?_
  rintro T35 h35 _ _ _ X35 ⟨rfl, rfl, rfl, J35⟩
  rw [J35] at X35
  show Wo _ _ _ _ _ _ _ _ _ _ _ T35 (mkF m 60 #[.val (.int p0), .val (.int p1), .val (.int p2), .val (.int p3), .val (.int p4), .val (.int p5), .val (.ref a2), .val (.ref a8), .val (.ref a14), .val (.ref a21), .unset, .unset] [.ref eo])
  refine X35.callV hx (w67 cx) (w68 cx) (w70 cx) (w69 cx) (fun _ hZ => nf hZ (w70 cx)) (by decide) ((E_E cx).ext X35.old.2) (Ct.pay (W := 0) (ct_ispres cx eo h20 _ _ ((F_E0 cx).ext X35.old.2)) (w71 cx) (w34 cx) (nle rfl) (nle rfl)) (by rw [hml]; rfl) (argsL := []) (rest := []) (lenOf pd6 rfl) rfl rfl (Nat.le_of_eq rfl) (hb hby at_60) (nle rfl) (nle rfl) ?_
  rintro T36 h36 _ _ _ X36 ⟨rfl, rfl, rfl, J36⟩
  rw [J36] at X36
  show Wo _ _ _ _ _ _ _ _ _ _ _ T36 (mkF m 63 #[.val (.int p0), .val (.int p1), .val (.int p2), .val (.int p3), .val (.int p4), .val (.int p5), .val (.ref a2), .val (.ref a8), .val (.ref a14), .val (.ref a21), .unset, .unset] [.int (0 : Int32)])
  refine Wo.by (fun _ => XS.ifNo X36.here hx rfl (hb hby at_63) rfl (by decide)) ?_
  show Wo _ _ _ _ _ _ _ _ _ _ _ T36 (mkF m 66 #[.val (.int p0), .val (.int p1), .val (.int p2), .val (.int p3), .val (.int p4), .val (.int p5), .val (.ref a2), .val (.ref a8), .val (.ref a14), .val (.ref a21), .unset, .unset] [])
  refine Wo.by (fun _ => XS.iconst X36.here hx rfl (hb hby at_66)) ?_
  show Wo _ _ _ _ _ _ _ _ _ _ _ T36 (mkF m 67 #[.val (.int p0), .val (.int p1), .val (.int p2), .val (.int p3), .val (.int p4), .val (.int p5), .val (.ref a2), .val (.ref a8), .val (.ref a14), .val (.ref a21), .unset, .unset] [.int (1 : Int32)])
  refine Wo.by (fun _ => XS.goto X36.here hx rfl (pc0 := 67) (pc' := 71) rfl (hb hby at_67) (by decide) (by decide)) ?_
  show Wo _ _ _ _ _ _ _ _ _ _ _ T36 (mkF m 71 #[.val (.int p0), .val (.int p1), .val (.int p2), .val (.int p3), .val (.int p4), .val (.int p5), .val (.ref a2), .val (.ref a8), .val (.ref a14), .val (.ref a21), .unset, .unset] [.int (1 : Int32)])
  refine Wo.by (fun _ => XS.istore X36.here hx rfl (hb hby at_71) rfl (l' := #[.val (.int p0), .val (.int p1), .val (.int p2), .val (.int p3), .val (.int p4), .val (.int p5), .val (.ref a2), .val (.ref a8), .val (.ref a14), .val (.ref a21), .val (.int (1 : Int32)), .unset]) rfl) ?_
  show Wo _ _ _ _ _ _ _ _ _ _ _ T36 (mkF m 73 #[.val (.int p0), .val (.int p1), .val (.int p2), .val (.int p3), .val (.int p4), .val (.int p5), .val (.ref a2), .val (.ref a8), .val (.ref a14), .val (.ref a21), .val (.int (1 : Int32)), .unset] [])
  refine Wo.by (fun _ => XS.aload X36.here hx rfl (hb hby at_73) rfl rfl) ?_
  show Wo _ _ _ _ _ _ _ _ _ _ _ T36 (mkF m 75 #[.val (.int p0), .val (.int p1), .val (.int p2), .val (.int p3), .val (.int p4), .val (.int p5), .val (.ref a2), .val (.ref a8), .val (.ref a14), .val (.ref a21), .val (.int (1 : Int32)), .unset] [.ref a21])
  refine X36.callV hx (w47 cx) (w48 cx) (w50 cx) (w49 cx) (fun _ hZ => nf hZ (w50 cx)) (by decide) G22 (Ct.pay (W := 0) (ct_isref cx a21 h20 _ _ G23) (w51 cx) (w28 cx) (nle rfl) (nle rfl)) (by rw [hml]; rfl) (argsL := []) (rest := []) (lenOf pd6 rfl) rfl rfl (Nat.le_of_eq rfl) (hb hby at_75) (nle rfl) (nle rfl) ?_
  rintro T37 h37 _ _ _ X37 ⟨rfl, rfl, rfl, J37⟩
  rw [J37] at X37
  show Wo _ _ _ _ _ _ _ _ _ _ _ T37 (mkF m 78 #[.val (.int p0), .val (.int p1), .val (.int p2), .val (.int p3), .val (.int p4), .val (.int p5), .val (.ref a2), .val (.ref a8), .val (.ref a14), .val (.ref a21), .val (.int (1 : Int32)), .unset] [.int (1 : Int32)])
  refine Wo.by (fun _ => XS.ifNo X37.here hx rfl (hb hby at_78) rfl (by decide)) ?_
  show Wo _ _ _ _ _ _ _ _ _ _ _ T37 (mkF m 81 #[.val (.int p0), .val (.int p1), .val (.int p2), .val (.int p3), .val (.int p4), .val (.int p5), .val (.ref a2), .val (.ref a8), .val (.ref a14), .val (.ref a21), .val (.int (1 : Int32)), .unset] [])
  refine Wo.by (fun _ => XS.aload X37.here hx rfl (hb hby at_81) rfl rfl) ?_
  show Wo _ _ _ _ _ _ _ _ _ _ _ T37 (mkF m 83 #[.val (.int p0), .val (.int p1), .val (.int p2), .val (.int p3), .val (.int p4), .val (.int p5), .val (.ref a2), .val (.ref a8), .val (.ref a14), .val (.ref a21), .val (.int (1 : Int32)), .unset] [.ref a8])
  refine Wo.by (fun _ => XS.aload X37.here hx rfl (hb hby at_83) rfl rfl) ?_
  show Wo _ _ _ _ _ _ _ _ _ _ _ T37 (mkF m 85 #[.val (.int p0), .val (.int p1), .val (.int p2), .val (.int p3), .val (.int p4), .val (.int p5), .val (.ref a2), .val (.ref a8), .val (.ref a14), .val (.ref a21), .val (.int (1 : Int32)), .unset] [.ref a21, .ref a8])
  refine X37.callV hx (w52 cx) (w53 cx) (w55 cx) (w54 cx) (fun _ hZ => nf hZ (w55 cx)) (by decide) G22 (Ct.pay (W := 1) (ct_mess cx a21 a8 h20 _ _ G24) (w56 cx) (w28 cx) (nle rfl) (nle rfl)) (by rw [hml]; rfl) (argsL := []) (rest := [.ref a8]) (lenOf pd7 rfl) rfl rfl (Nat.le_of_eq rfl) (hb hby at_85) (nle rfl) (nle rfl) ?_
  rintro T38 h38 _ _ _ X38 ⟨rfl, rfl, rfl, J38⟩
  rw [J38] at X38
  show Wo _ _ _ _ _ _ _ _ _ _ _ T38 (mkF m 88 #[.val (.int p0), .val (.int p1), .val (.int p2), .val (.int p3), .val (.int p4), .val (.int p5), .val (.ref a2), .val (.ref a8), .val (.ref a14), .val (.ref a21), .val (.int (1 : Int32)), .unset] [.ref a8, .ref a8])
  have F39 : Exa Z h20 a8 "java/lang/String" := ((G11.1.keep J13).keep J20)
  refine X38.callV hx (w57 cx) (w58 cx) (w60 cx) (w59 cx) (fun _ hZ => nf hZ (w60 cx)) (by decide) F39 (Ct.pay (W := 0) (ct_eqself cx a8 h20 _ _ ) (w61 cx) (w6 cx) (nle rfl) (nle rfl)) (by rw [hml]; rfl) (argsL := [.ref a8]) (rest := []) (lenOf pd8 rfl) rfl rfl (Nat.le_of_eq rfl) (hb hby at_88) (nle rfl) (nle rfl) ?_
  rintro T40 h40 _ _ _ X40 ⟨rfl, rfl, rfl, J40⟩
  rw [J40] at X40
  show Wo _ _ _ _ _ _ _ _ _ _ _ T40 (mkF m 91 #[.val (.int p0), .val (.int p1), .val (.int p2), .val (.int p3), .val (.int p4), .val (.int p5), .val (.ref a2), .val (.ref a8), .val (.ref a14), .val (.ref a21), .val (.int (1 : Int32)), .unset] [.int (1 : Int32)])
  refine Wo.by (fun _ => XS.ifNo X40.here hx rfl (hb hby at_91) rfl (by decide)) ?_
  show Wo _ _ _ _ _ _ _ _ _ _ _ T40 (mkF m 94 #[.val (.int p0), .val (.int p1), .val (.int p2), .val (.int p3), .val (.int p4), .val (.int p5), .val (.ref a2), .val (.ref a8), .val (.ref a14), .val (.ref a21), .val (.int (1 : Int32)), .unset] [])
  refine Wo.by (fun _ => XS.aload X40.here hx rfl (hb hby at_94) rfl rfl) ?_
  show Wo _ _ _ _ _ _ _ _ _ _ _ T40 (mkF m 96 #[.val (.int p0), .val (.int p1), .val (.int p2), .val (.int p3), .val (.int p4), .val (.int p5), .val (.ref a2), .val (.ref a8), .val (.ref a14), .val (.ref a21), .val (.int (1 : Int32)), .unset] [.ref a21])
  refine X40.callV hx (w62 cx) (w63 cx) (w65 cx) (w64 cx) (fun _ hZ => nf hZ (w65 cx)) (by decide) G22 (Ct.pay (W := 0) (ct_msec cx a21 eo h20 _ _ G25) (w66 cx) (w28 cx) (nle rfl) (nle rfl)) (by rw [hml]; rfl) (argsL := []) (rest := []) (lenOf pd2 rfl) rfl rfl (Nat.le_of_eq rfl) (hb hby at_96) (nle rfl) (nle rfl) ?_
  rintro T41 h41 _ _ _ X41 ⟨rfl, rfl, rfl, J41⟩
  rw [J41] at X41
  show Wo _ _ _ _ _ _ _ _ _ _ _ T41 (mkF m 99 #[.val (.int p0), .val (.int p1), .val (.int p2), .val (.int p3), .val (.int p4), .val (.int p5), .val (.ref a2), .val (.ref a8), .val (.ref a14), .val (.ref a21), .val (.int (1 : Int32)), .unset] [.ref eo])
  refine X41.callV hx (w67 cx) (w68 cx) (w70 cx) (w69 cx) (fun _ hZ => nf hZ (w70 cx)) (by decide) ((E_E cx).ext X41.old.2) (Ct.pay (W := 0) (ct_ispres cx eo h20 _ _ ((F_E0 cx).ext X41.old.2)) (w71 cx) (w34 cx) (nle rfl) (nle rfl)) (by rw [hml]; rfl) (argsL := []) (rest := []) (lenOf pd6 rfl) rfl rfl (Nat.le_of_eq rfl) (hb hby at_99) (nle rfl) (nle rfl) ?_
  rintro T42 h42 _ _ _ X42 ⟨rfl, rfl, rfl, J42⟩
  rw [J42] at X42
  show Wo _ _ _ _ _ _ _ _ _ _ _ T42 (mkF m 102 #[.val (.int p0), .val (.int p1), .val (.int p2), .val (.int p3), .val (.int p4), .val (.int p5), .val (.ref a2), .val (.ref a8), .val (.ref a14), .val (.ref a21), .val (.int (1 : Int32)), .unset] [.int (0 : Int32)])
  refine Wo.by (fun _ => XS.ifNo X42.here hx rfl (hb hby at_102) rfl (by decide)) ?_
  show Wo _ _ _ _ _ _ _ _ _ _ _ T42 (mkF m 105 #[.val (.int p0), .val (.int p1), .val (.int p2), .val (.int p3), .val (.int p4), .val (.int p5), .val (.ref a2), .val (.ref a8), .val (.ref a14), .val (.ref a21), .val (.int (1 : Int32)), .unset] [])
  refine Wo.by (fun _ => XS.iconst X42.here hx rfl (hb hby at_105)) ?_
  show Wo _ _ _ _ _ _ _ _ _ _ _ T42 (mkF m 106 #[.val (.int p0), .val (.int p1), .val (.int p2), .val (.int p3), .val (.int p4), .val (.int p5), .val (.ref a2), .val (.ref a8), .val (.ref a14), .val (.ref a21), .val (.int (1 : Int32)), .unset] [.int (1 : Int32)])
  refine Wo.by (fun _ => XS.goto X42.here hx rfl (pc0 := 106) (pc' := 110) rfl (hb hby at_106) (by decide) (by decide)) ?_
  show Wo _ _ _ _ _ _ _ _ _ _ _ T42 (mkF m 110 #[.val (.int p0), .val (.int p1), .val (.int p2), .val (.int p3), .val (.int p4), .val (.int p5), .val (.ref a2), .val (.ref a8), .val (.ref a14), .val (.ref a21), .val (.int (1 : Int32)), .unset] [.int (1 : Int32)])
  refine Wo.by (fun _ => XS.istore X42.here hx rfl (hb hby at_110) rfl (l' := #[.val (.int p0), .val (.int p1), .val (.int p2), .val (.int p3), .val (.int p4), .val (.int p5), .val (.ref a2), .val (.ref a8), .val (.ref a14), .val (.ref a21), .val (.int (1 : Int32)), .val (.int (1 : Int32))]) rfl) ?_
  show Wo _ _ _ _ _ _ _ _ _ _ _ T42 (mkF m 112 #[.val (.int p0), .val (.int p1), .val (.int p2), .val (.int p3), .val (.int p4), .val (.int p5), .val (.ref a2), .val (.ref a8), .val (.ref a14), .val (.ref a21), .val (.int (1 : Int32)), .val (.int (1 : Int32))] [])
  refine Wo.by (fun _ => XS.iload X42.here hx rfl (hb hby at_112) rfl) ?_
  show Wo _ _ _ _ _ _ _ _ _ _ _ T42 (mkF m 114 #[.val (.int p0), .val (.int p1), .val (.int p2), .val (.int p3), .val (.int p4), .val (.int p5), .val (.ref a2), .val (.ref a8), .val (.ref a14), .val (.ref a21), .val (.int (1 : Int32)), .val (.int (1 : Int32))] [.int (1 : Int32)])
  refine Wo.by (fun _ => XS.ifNo X42.here hx rfl (hb hby at_114) rfl (by decide)) ?_
  show Wo _ _ _ _ _ _ _ _ _ _ _ T42 (mkF m 117 #[.val (.int p0), .val (.int p1), .val (.int p2), .val (.int p3), .val (.int p4), .val (.int p5), .val (.ref a2), .val (.ref a8), .val (.ref a14), .val (.ref a21), .val (.int (1 : Int32)), .val (.int (1 : Int32))] [])
  refine Wo.by (fun _ => XS.iload X42.here hx rfl (hb hby at_117) rfl) ?_
  show Wo _ _ _ _ _ _ _ _ _ _ _ T42 (mkF m 119 #[.val (.int p0), .val (.int p1), .val (.int p2), .val (.int p3), .val (.int p4), .val (.int p5), .val (.ref a2), .val (.ref a8), .val (.ref a14), .val (.ref a21), .val (.int (1 : Int32)), .val (.int (1 : Int32))] [.int (1 : Int32)])
  refine Wo.by (fun _ => XS.ifNo X42.here hx rfl (hb hby at_119) rfl (by decide)) ?_
  show Wo _ _ _ _ _ _ _ _ _ _ _ T42 (mkF m 122 #[.val (.int p0), .val (.int p1), .val (.int p2), .val (.int p3), .val (.int p4), .val (.int p5), .val (.ref a2), .val (.ref a8), .val (.ref a14), .val (.ref a21), .val (.int (1 : Int32)), .val (.int (1 : Int32))] [])
  refine Wo.by (fun _ => XS.iconst X42.here hx rfl (hb hby at_122)) ?_
  show Wo _ _ _ _ _ _ _ _ _ _ _ T42 (mkF m 123 #[.val (.int p0), .val (.int p1), .val (.int p2), .val (.int p3), .val (.int p4), .val (.int p5), .val (.ref a2), .val (.ref a8), .val (.ref a14), .val (.ref a21), .val (.int (1 : Int32)), .val (.int (1 : Int32))] [.int (1 : Int32)])
  refine Wo.by (fun _ => XS.goto X42.here hx rfl (pc0 := 123) (pc' := 127) rfl (hb hby at_123) (by decide) (by decide)) ?_
  show Wo _ _ _ _ _ _ _ _ _ _ _ T42 (mkF m 127 #[.val (.int p0), .val (.int p1), .val (.int p2), .val (.int p3), .val (.int p4), .val (.int p5), .val (.ref a2), .val (.ref a8), .val (.ref a14), .val (.ref a21), .val (.int (1 : Int32)), .val (.int (1 : Int32))] [.int (1 : Int32)])
  have X43 := WS.drop (A := []) (B := (a14 :: a8 :: a2 :: WL)) X42
  have X44 := WS.drop (A := []) (B := (a8 :: a2 :: WL)) X43
  have X45 := WS.drop (A := []) (B := (a2 :: WL)) X44
  have X46 := WS.drop (A := []) (B := WL) X45
  have X47 := WS.fl (FL2 := FL) X46 (fun y hy => (List.mem_append_right [a2, a8, a14, a21, a9, a3] hy))
  exact WS.retN X47 (WL' := []) (FL' := []) hx (t := .boolean) hret (by simp) hlk (hb hby at_127) (nle rfl) (nle rfl) ⟨rfl, rfl, rfl, K26⟩

set_option maxRecDepth 65536 in
set_option maxHeartbeats 4000000 in
theorem comes_1 {Post : Tables → Env → Array Value → State → Outcome → State → Prop} (hpost : ∀ tb e args s v u, (limb_1_1.after args s (.returned v) u = true ∧ limb_1_2.after args s (.returned v) u = true ∧ True) → Jvm.Pilot.@@N@@.Jvm.D.FramedW s (.returned v) u (Jvm.fieldLocs frame_1_writes args s ++ Jvm.arrayLocs frame_1_arrays args s ++ Jvm.staticLocs frame_1_statics s) 32 1152 → Post tb e args s (.returned v) u) :
    ArmFor flags0 classFile x code maxLocals ret World_1 tables_1 room_1 Calls_1 rest_1 Pre_1 Post := by
  intro l hfl _ _ p e ha hc hk s m args below hf hA hF happ hP
  obtain ⟨hcalls, hrest, hpre⟩ := hP
  obtain ⟨-, -, -, hnamed, -, -, -, hat⟩ := (Spec.applies_iff hf).mp happ
  obtain ⟨hg, hn⟩ := and_e (Cond.before_iff.mp (show (Jvm.Cond.and given_1 narrow_1).before args s = true from hpre))
  obtain ⟨h1, g0⟩ := and_e hg
  obtain ⟨b0, g1⟩ := and_e g0
  obtain ⟨b1, g2⟩ := and_e g1
  obtain ⟨b2, g3⟩ := and_e g2
  obtain ⟨b3, g4⟩ := and_e g3
  obtain ⟨b4, g5⟩ := and_e g4
  obtain ⟨z0, z1, z2, z3, z4, z5, rfl⟩ : ∃ z0 z1 z2 z3 z4 z5 : Value, args = #[z0, z1, z2, z3, z4, z5] := by
    have hs : args.size = 6 := by simpa [Cond.value, given_1] using h1
    obtain ⟨L⟩ := args
    match L, hs with
    | [z0, z1, z2, z3, z4, z5], _ => exact ⟨z0, z1, z2, z3, z4, z5, rfl⟩
  have hw := fun d (hd : d ∈ tables_1) => atoms_spec (ws := Jvm.Cond.code x code maxLocals ret :: tables_1) hat d (List.mem_cons_of_mem _ hd)
  obtain ⟨hsets, hown0⟩ := atoms_of _ (rest_1_c_eq ▸ (show rest_1_c.before _ s = true from hrest))
  have hfit : Fit s := fun {y c} hc i hi => by
    obtain ⟨ha, rfl⟩ := Array.getElem?_eq_some_iff.mp hc
    have q := List.all_eq_true.mp ((Array.all_eq_true_iff_forall_mem.mp hF) _ (Array.getElem_mem ha)) i (List.mem_range.mpr hi)
    simpa [Array.getElem?_eq_getElem hi] using q
  obtain ⟨i_0, e_0⟩ := is_v b0
  obtain rfl : z0 = (.int i_0) := Option.some.inj e_0
  obtain ⟨i_1, e_1⟩ := is_v b1
  obtain rfl : z1 = (.int i_1) := Option.some.inj e_1
  obtain ⟨i_2, e_2⟩ := is_v b2
  obtain rfl : z2 = (.int i_2) := Option.some.inj e_2
  obtain ⟨i_3, e_3⟩ := is_v b3
  obtain rfl : z3 = (.int i_3) := Option.some.inj e_3
  obtain ⟨i_4, e_4⟩ := is_v b4
  obtain rfl : z4 = (.int i_4) := Option.some.inj e_4
  obtain ⟨i_5, e_5⟩ := is_v g5
  obtain rfl : z5 = (.int i_5) := Option.some.inj e_5
  obtain ⟨i7, e7⟩ := is_v (Cond.before_iff.mp (hsets _ (List.mem_of_getElem? (i := 5) rfl)))
  have S7 : Sta s s.heap "java/lang/String" "COMPACT_STRINGS" "Z" (.int i7) := Sta.start e7 (Or.inl (hsets _ (List.mem_of_getElem? (i := 4) rfl)))
  have n7 := not_v (Cond.before_iff.mp (hsets _ (List.mem_of_getElem? (i := 6) rfl)))
  have c7 : ¬ (i7 = (0 : Int32)) := gotF (Cond.eq_ints e7 (Term.int_eval (0))) n7
  obtain ⟨a_E, e_E⟩ := exa_v (Cond.before_iff.mp (hsets _ (List.mem_of_getElem? (i := 2) rfl)))
  have S_E : Sta s s.heap "java/util/Optional" "EMPTY" "Ljava/util/Optional;" (.ref a_E) := Sta.start e_E (Or.inl (hsets _ (List.mem_of_getElem? (i := 1) rfl)))
  have E_E : Exa s s.heap a_E "java/util/Optional" := Exa.start e_E (Cond.before_iff.mp (hsets _ (List.mem_of_getElem? (i := 2) rfl)))
  have q_F_E0 := null_v (Cond.before_iff.mp (hsets _ (List.mem_of_getElem? (i := 3) rfl)))
  rw [fld_at e_E] at q_F_E0
  have F_E0 := Fld.start q_F_E0
  have cx : Cx #[(.int i_0), (.int i_1), (.int i_2), (.int i_3), (.int i_4), (.int i_5)] s i7 a_E := ⟨hw, S7, c7, S_E, E_E, F_E0⟩
  have ew : EW s #[(.int i_0), (.int i_1), (.int i_2), (.int i_3), (.int i_4), (.int i_5)] EL1 := (EW.cons (w18 cx) (by decide) EW.nil)
  have inv0 : Inv s EL1 s.heap.size s.vm s.heap [] [] := ⟨⟨_, ew⟩, CHv.start ew (fun p hp => hcalls.1 p hp) (hsets _ (List.mem_of_getElem? (i := 6) rfl)) (strAtoms cx _ (by simp [Bundle.stringAtoms])) (strAtoms cx _ (by simp [Bundle.stringAtoms, Bundle.sN])), Old.start s, fun _ q => (nomatch q), List.nodup_nil, fun _ q => (nomatch q)⟩
  obtain ⟨n, o, h1, h2, h3, _, L, WL', FL', rfl, I', N, ⟨rfl, -⟩, hq⟩ := ct_law (l := l) (Z := s) cx (n0 := s.heap.size) i_0 i_1 i_2 i_3 i_4 i_5 s.heap [] [] tables_1 p e ha hc hk s m _ below hf ((Spec.applies_iff_loose hf).mp happ).1 ⟨rfl, State.Warmed39.refl s, rfl, inv0⟩ trivial
  exact ⟨n, _, h1, h2, h3, hpost _ _ _ _ _ _ ⟨Cond.after_iff.mpr rfl, Cond.after_iff.mpr (eq_i res_at (Term.int_eval (1)) rfl), trivial⟩ ⟨hq.1, hq.2.1, hq.2.2.1, (hq.2.2.2.sift fun y hy => Or.inr (N y hy)).mono (by decide) (by decide)⟩⟩
theorem main_1_1 : Claimed_1_1 := comes_1 fun _ _ _ _ _ _ h hF => ⟨h.1, hF⟩
theorem main_1_2 : Claimed_1_2 := comes_1 fun _ _ _ _ _ _ h hF => ⟨h.2.1, hF⟩
end Jvm.Pilot.@@N@@
namespace Jvm.Pilot.@@N@@
open Jvm Jvm.ClassFile Sem Op Lib Jvm.Free Jvm.Stand Jvm.Pilot.@@N@@.Jvm.D
/-! MADE BY PROGRAM (witnessworld.py) out of the Statement's table words and the real class files: 21 classes; the members and pool entries that the words name. The judged class is class 1, her method 2. -/
namespace start1
open Jvm.ClassFile
def u (s : String) : CpInfo := .utf8 (stringToUtf16 s)
/-- a pool by its gaps: so many unusable entries, then the entry; so many at the end -/
def gap : Nat → List CpInfo → List CpInfo
  | 0, r => r
  | n + 1, r => .unusable :: gap n r
def poolList (es : List (Nat × CpInfo)) (last : Nat) : List CpInfo := es.foldr (fun e r => gap e.1 (e.2 :: r)) (gap last [])
def pool (es : List (Nat × CpInfo)) (last : Nat) : Array CpInfo := ⟨poolList es last⟩
def fileOf (pool : Array CpInfo) (this : Nat) (attrs : Array Attribute := #[]) (ms : Array MethodInfo := #[]) (fl : Nat := 33) (sup : Nat := 0) (ifs : Array Nat := #[]) (fds : Array FieldInfo := #[]) : ClassFile where
  minorVersion := 0
  majorVersion := 65
  constantPool := pool
  accessFlags := fl
  thisClass := this
  superClass := sup
  interfaces := ifs
  fields := fds
  methods := ms
  attributes := attrs
def plain (name : String) (sup : Option ClassId) : Class where
  name := name
  kind := .ordinary
  loader := none
  accessFlags := 33
  super := sup
  interfaces := #[]
  cf := none
  fields := #[]
  methods := #[]
  instanceTypes := #[]
  staticTypes := #[]
  resolved := #[]
  callSites := []
  init := .initialized
  statics := none
  mirror := none

def pool0 : Array CpInfo := pool [(5, u "<init>"), (0, u "()V"), (1, .class_ 10), (1, u "java/lang/Object")] 113

def k0c0 : Code := { maxStack := 0, maxLocals := 1, code := object_method_1_code, exceptionTable := #[], attributes := #[] }
def k0m0 : Method := { name := "<init>", desc := "()V", sig := { parameters := [], returnType := none }, accessFlags := 1, code := some k0c0 }
/-- java/lang/Object -/
def k0 : Class := { plain "java/lang/Object" none with
  accessFlags := 33
  interfaces := #[]
  cf := some (fileOf pool0 8 #[] #[{ accessFlags := 1, nameIndex := 5, descriptorIndex := 6, attributes := #[] }] 33 0 #[] #[])
  fields := #[]
  methods := #[k0m0]
  instanceTypes := #[]
  staticTypes := #[]
  resolved := Array.replicate 124 none
  statics := none }

def pool1 : Array CpInfo := pool [(2, .class_ 4), (1, u "java/lang/Object"), (0, u "<init>"), (0, u "()V"), (0, .class_ 8), (0, u "java/lang/String"), (0, .methodref 7 10), (0, .nameAndType 5 11), (0, u "([C)V"), (0, .methodref 13 14), (0, .class_ 15), (0, .nameAndType 16 17), (0, u "com/example/need_to_know/needtoknow/admin/AdminNoticeRefusalPinLaw"), (0, u "draw"), (0, u "(IIII)Ljava/lang/String;"), (0, .methodref 19 20), (0, .class_ 21), (0, .nameAndType 22 23), (0, u "com/example/need_to_know/needtoknow/admin/AdminNotice"), (0, u "refusal"), (0, u "(Ljava/lang/String;)Lcom/example/need_to_know/needtoknow/admin/AdminNotice;"), (0, .methodref 19 25), (0, .nameAndType 26 27), (0, u "isRefusal"), (0, u "()Z"), (0, .methodref 19 29), (0, .nameAndType 30 31), (0, u "message"), (0, u "()Ljava/lang/String;"), (0, .methodref 7 33), (0, .nameAndType 34 35), (0, u "equals"), (0, u "(Ljava/lang/Object;)Z"), (0, .methodref 19 37), (0, .nameAndType 38 39), (0, u "madeSecret"), (0, u "()Ljava/util/Optional;"), (0, .methodref 41 42), (0, .class_ 43), (0, .nameAndType 44 27), (0, u "java/util/Optional"), (0, u "isPresent"), (3, u "law"), (0, u "(IIIIII)Z")] 2

def k1m0 : Method := { name := "<init>", desc := "()V", sig := { parameters := [], returnType := none }, accessFlags := 2, code := none }
def k1c1 : Code := { maxStack := 6, maxLocals := 8, code := method_2_code, exceptionTable := #[], attributes := #[] }
def k1m1 : Method := { name := "draw", desc := "(IIII)Ljava/lang/String;", sig := { parameters := [.int, .int, .int, .int], returnType := some (.object "java/lang/String") }, accessFlags := 10, code := some k1c1 }
def k1c2 : Code := { maxStack := 4, maxLocals := 12, code := code, exceptionTable := #[], attributes := #[] }
def k1m2 : Method := { name := "law", desc := "(IIIIII)Z", sig := { parameters := [.int, .int, .int, .int, .int, .int], returnType := some .boolean }, accessFlags := 9, code := some k1c2 }
/-- com/example/need_to_know/needtoknow/admin/AdminNoticeRefusalPinLaw -/
def k1 : Class := { plain "com/example/need_to_know/needtoknow/admin/AdminNoticeRefusalPinLaw" (some 0) with
  accessFlags := 49
  interfaces := #[]
  cf := some (fileOf pool1 13 #[] #[{ accessFlags := 2, nameIndex := 5, descriptorIndex := 6, attributes := #[] }, { accessFlags := 10, nameIndex := 16, descriptorIndex := 17, attributes := #[] }, { accessFlags := 9, nameIndex := 48, descriptorIndex := 49, attributes := #[] }] 49 2 #[] #[])
  fields := #[]
  methods := #[k1m0, k1m1, k1m2]
  instanceTypes := #[]
  staticTypes := #[]
  resolved := Array.replicate 52 none
  statics := none }

def pool2 : Array CpInfo := pool [(1, .class_ 2), (0, u "java/io/Serializable"), (0, .class_ 4), (0, u "java/lang/Object")] 2

/-- java/io/Serializable -/
def k2 : Class := { plain "java/io/Serializable" (some 0) with
  accessFlags := 1537
  interfaces := #[]
  cf := some (fileOf pool2 1 #[] #[] 1537 3 #[] #[])
  fields := #[]
  methods := #[]
  instanceTypes := #[]
  staticTypes := #[]
  resolved := Array.replicate 7 none
  statics := none }

def pool3 : Array CpInfo := pool [(1, .class_ 2), (0, u "java/lang/Comparable"), (0, .class_ 4), (0, u "java/lang/Object")] 7

/-- java/lang/Comparable -/
def k3 : Class := { plain "java/lang/Comparable" (some 0) with
  accessFlags := 1537
  interfaces := #[]
  cf := some (fileOf pool3 1 #[] #[] 1537 3 #[] #[])
  fields := #[]
  methods := #[]
  instanceTypes := #[]
  staticTypes := #[]
  resolved := Array.replicate 12 none
  statics := none }

def pool4 : Array CpInfo := pool [(2, .class_ 4), (1, u "java/lang/CharSequence"), (42, .class_ 48), (0, u "java/lang/CharSequence$1CodePointIterator"), (10, .class_ 60), (0, u "java/lang/CharSequence$1CharIterator"), (5, .class_ 67), (0, u "java/lang/Object")] 63

/-- java/lang/CharSequence -/
def k4 : Class := { plain "java/lang/CharSequence" (some 0) with
  accessFlags := 1537
  interfaces := #[]
  cf := some (fileOf pool4 2 #[.nestMembers #[47, 59]] #[] 1537 66 #[] #[])
  fields := #[]
  methods := #[]
  instanceTypes := #[]
  staticTypes := #[]
  resolved := Array.replicate 131 none
  statics := none }

def pool5 : Array CpInfo := pool [(1, .class_ 2), (0, u "java/lang/constant/Constable"), (0, .class_ 4), (0, u "java/lang/Object")] 6

/-- java/lang/constant/Constable -/
def k5 : Class := { plain "java/lang/constant/Constable" (some 0) with
  accessFlags := 1537
  interfaces := #[]
  cf := some (fileOf pool5 1 #[] #[] 1537 3 #[] #[])
  fields := #[]
  methods := #[]
  instanceTypes := #[]
  staticTypes := #[]
  resolved := Array.replicate 11 none
  statics := none }

def pool6 : Array CpInfo := pool [(1, .class_ 2), (0, u "java/lang/constant/ConstantDesc"), (0, .class_ 4), (0, u "java/lang/Object")] 32

/-- java/lang/constant/ConstantDesc -/
def k6 : Class := { plain "java/lang/constant/ConstantDesc" (some 0) with
  accessFlags := 1537
  interfaces := #[]
  cf := some (fileOf pool6 1 #[] #[] 1537 3 #[] #[])
  fields := #[]
  methods := #[]
  instanceTypes := #[]
  staticTypes := #[]
  resolved := Array.replicate 37 none
  statics := none }

def pool7 : Array CpInfo := pool [(1, .methodref 2 3), (0, .class_ 4), (0, .nameAndType 5 6), (0, u "java/lang/Object"), (0, u "<init>"), (0, u "()V"), (0, .string 8), (0, u ""), (0, .fieldref 10 11), (0, .class_ 12), (0, .nameAndType 13 14), (0, u "java/lang/String"), (0, u "value"), (0, u "[B"), (0, .fieldref 10 16), (0, .nameAndType 17 18), (0, u "coder"), (0, u "B"), (2, u "hash"), (0, u "I"), (2, u "hashIsZero"), (0, u "Z"), (0, .methodref 10 28), (0, .nameAndType 5 29), (0, u "([CIILjava/lang/Void;)V"), (8, .fieldref 10 39), (0, .nameAndType 40 26), (0, u "COMPACT_STRINGS"), (1, .class_ 44), (1, u "java/lang/StringUTF16"), (0, u "compress"), (1, .methodref 42 48), (0, .nameAndType 49 50), (0, u "coderFromArrayLen"), (0, u "([BI)B"), (126, .methodref 42 178), (0, .nameAndType 45 179), (0, u "([CII)[B"), (363, u "equals"), (29, u "(Ljava/lang/Object;)Z"), (1, .class_ 576), (0, u "java/lang/CharSequence"), (22, u "CASE_INSENSITIVE_ORDER"), (0, u "Ljava/util/Comparator;"), (409, u "([C)V"), (90, u "serialPersistentFields"), (0, u "[Ljava/io/ObjectStreamField;"), (0, .class_ 1104), (0, u "java/lang/String$CaseInsensitiveComparator"), (1, .class_ 1107), (0, u "java/io/Serializable"), (0, .class_ 1109), (0, u "java/lang/Comparable"), (0, .class_ 1111), (0, u "java/lang/constant/Constable"), (0, .class_ 1113), (0, u "java/lang/constant/ConstantDesc"), (2, u "serialVersionUID"), (0, u "J"), (3, u "REPL"), (0, u "C"), (2, u "LATIN1"), (1, u "UTF16")] 323

def k7m0 : Method := { name := "<init>", desc := "()V", sig := { parameters := [], returnType := none }, accessFlags := 1, code := none }
def k7c1 : Code := { maxStack := 5, maxLocals := 2, code := jdk_42_method_3_code, exceptionTable := #[], attributes := #[] }
def k7m1 : Method := { name := "<init>", desc := "([C)V", sig := { parameters := [(.array .char)], returnType := none }, accessFlags := 1, code := some k7c1 }
def k7c2 : Code := { maxStack := 2, maxLocals := 3, code := jdk_42_method_66_code, exceptionTable := #[], attributes := #[] }
def k7m2 : Method := { name := "equals", desc := "(Ljava/lang/Object;)Z", sig := { parameters := [(.object "java/lang/Object")], returnType := some .boolean }, accessFlags := 1, code := some k7c2 }
def k7c3 : Code := { maxStack := 4, maxLocals := 6, code := jdk_42_method_149_code, exceptionTable := #[], attributes := #[] }
def k7m3 : Method := { name := "<init>", desc := "([CIILjava/lang/Void;)V", sig := { parameters := [(.array .char), .int, .int, (.object "java/lang/Void")], returnType := none }, accessFlags := 2, code := some k7c3 }
/-- java/lang/String -/
def k7 : Class := { plain "java/lang/String" (some 0) with
  accessFlags := 49
  interfaces := #[2, 3, 4, 5, 6]
  cf := some (fileOf pool7 10 #[.nestMembers #[1103]] #[{ accessFlags := 1, nameIndex := 5, descriptorIndex := 6, attributes := #[] }, { accessFlags := 1, nameIndex := 5, descriptorIndex := 1010, attributes := #[] }, { accessFlags := 1, nameIndex := 543, descriptorIndex := 573, attributes := #[] }, { accessFlags := 2, nameIndex := 5, descriptorIndex := 29, attributes := #[] }] 49 2 #[1106, 1108, 575, 1110, 1112] #[{ accessFlags := 18, nameIndex := 13, descriptorIndex := 14, attributes := #[] }, { accessFlags := 18, nameIndex := 17, descriptorIndex := 18, attributes := #[] }, { accessFlags := 2, nameIndex := 21, descriptorIndex := 22, attributes := #[] }, { accessFlags := 2, nameIndex := 25, descriptorIndex := 26, attributes := #[] }, { accessFlags := 26, nameIndex := 1116, descriptorIndex := 1117, attributes := #[] }, { accessFlags := 24, nameIndex := 40, descriptorIndex := 26, attributes := #[] }, { accessFlags := 26, nameIndex := 1101, descriptorIndex := 1102, attributes := #[] }, { accessFlags := 26, nameIndex := 1121, descriptorIndex := 1122, attributes := #[] }, { accessFlags := 25, nameIndex := 599, descriptorIndex := 600, attributes := #[] }, { accessFlags := 24, nameIndex := 1125, descriptorIndex := 18, attributes := #[] }, { accessFlags := 24, nameIndex := 1127, descriptorIndex := 18, attributes := #[] }])
  fields := #[{ name := "value", type := (.array .byte), accessFlags := 18, slot := 0, constantValue := 0 }, { name := "coder", type := .byte, accessFlags := 18, slot := 1, constantValue := 0 }, { name := "hash", type := .int, accessFlags := 2, slot := 2, constantValue := 0 }, { name := "hashIsZero", type := .boolean, accessFlags := 2, slot := 3, constantValue := 0 }, { name := "serialVersionUID", type := .long, accessFlags := 26, slot := 0, constantValue := 0 }, { name := "COMPACT_STRINGS", type := .boolean, accessFlags := 24, slot := 1, constantValue := 0 }, { name := "serialPersistentFields", type := (.array (.object "java/io/ObjectStreamField")), accessFlags := 26, slot := 2, constantValue := 0 }, { name := "REPL", type := .char, accessFlags := 26, slot := 3, constantValue := 0 }, { name := "CASE_INSENSITIVE_ORDER", type := (.object "java/util/Comparator"), accessFlags := 25, slot := 4, constantValue := 0 }, { name := "LATIN1", type := .byte, accessFlags := 24, slot := 5, constantValue := 0 }, { name := "UTF16", type := .byte, accessFlags := 24, slot := 6, constantValue := 0 }]
  methods := #[k7m0, k7m1, k7m2, k7m3]
  instanceTypes := #[(.array .byte), .byte, .int, .boolean]
  staticTypes := #[.long, .boolean, (.array (.object "java/io/ObjectStreamField")), .char, (.object "java/util/Comparator"), .byte, .byte]
  resolved := Array.replicate 1451 none
  statics := some 0 }

def pool8 : Array CpInfo := pool [(1, .methodref 2 3), (0, .class_ 4), (0, .nameAndType 5 6), (0, u "java/lang/Object"), (0, u "<init>"), (0, u "()V"), (0, .fieldref 8 9), (0, .class_ 10), (0, .nameAndType 11 12), (0, u "com/example/need_to_know/needtoknow/admin/AdminNotice"), (0, u "refusal"), (0, u "Z"), (0, .fieldref 8 14), (0, .nameAndType 15 16), (0, u "message"), (0, u "Ljava/lang/String;"), (0, .fieldref 8 18), (0, .nameAndType 19 20), (0, u "madeSecret"), (0, u "Ljava/util/Optional;"), (0, .methodref 22 23), (0, .class_ 24), (0, .nameAndType 25 26), (0, u "java/util/Optional"), (0, u "empty"), (0, u "()Ljava/util/Optional;"), (0, .methodref 8 28), (0, .nameAndType 5 29), (0, u "(ZLjava/lang/String;Ljava/util/Optional;)V"), (5, u "(Ljava/lang/String;)Lcom/example/need_to_know/needtoknow/admin/AdminNotice;"), (3, u "isRefusal"), (0, u "()Z"), (0, u "()Ljava/lang/String;")] 3

def k8c0 : Code := { maxStack := 2, maxLocals := 4, code := prog_15_method_1_code, exceptionTable := #[], attributes := #[] }
def k8m0 : Method := { name := "<init>", desc := "(ZLjava/lang/String;Ljava/util/Optional;)V", sig := { parameters := [.boolean, (.object "java/lang/String"), (.object "java/util/Optional")], returnType := none }, accessFlags := 2, code := some k8c0 }
def k8c1 : Code := { maxStack := 5, maxLocals := 1, code := prog_15_method_2_code, exceptionTable := #[], attributes := #[] }
def k8m1 : Method := { name := "refusal", desc := "(Ljava/lang/String;)Lcom/example/need_to_know/needtoknow/admin/AdminNotice;", sig := { parameters := [(.object "java/lang/String")], returnType := some (.object "com/example/need_to_know/needtoknow/admin/AdminNotice") }, accessFlags := 8, code := some k8c1 }
def k8c2 : Code := { maxStack := 1, maxLocals := 1, code := prog_15_method_4_code, exceptionTable := #[], attributes := #[] }
def k8m2 : Method := { name := "isRefusal", desc := "()Z", sig := { parameters := [], returnType := some .boolean }, accessFlags := 0, code := some k8c2 }
def k8c3 : Code := { maxStack := 1, maxLocals := 1, code := prog_15_method_5_code, exceptionTable := #[], attributes := #[] }
def k8m3 : Method := { name := "message", desc := "()Ljava/lang/String;", sig := { parameters := [], returnType := some (.object "java/lang/String") }, accessFlags := 0, code := some k8c3 }
def k8c4 : Code := { maxStack := 1, maxLocals := 1, code := prog_15_method_6_code, exceptionTable := #[], attributes := #[] }
def k8m4 : Method := { name := "madeSecret", desc := "()Ljava/util/Optional;", sig := { parameters := [], returnType := some (.object "java/util/Optional") }, accessFlags := 0, code := some k8c4 }
/-- com/example/need_to_know/needtoknow/admin/AdminNotice -/
def k8 : Class := { plain "com/example/need_to_know/needtoknow/admin/AdminNotice" (some 0) with
  accessFlags := 48
  interfaces := #[]
  cf := some (fileOf pool8 8 #[] #[{ accessFlags := 2, nameIndex := 5, descriptorIndex := 29, attributes := #[] }, { accessFlags := 8, nameIndex := 11, descriptorIndex := 35, attributes := #[] }, { accessFlags := 0, nameIndex := 39, descriptorIndex := 40, attributes := #[] }, { accessFlags := 0, nameIndex := 15, descriptorIndex := 41, attributes := #[] }, { accessFlags := 0, nameIndex := 19, descriptorIndex := 26, attributes := #[] }] 48 2 #[] #[{ accessFlags := 18, nameIndex := 11, descriptorIndex := 12, attributes := #[] }, { accessFlags := 18, nameIndex := 15, descriptorIndex := 16, attributes := #[] }, { accessFlags := 18, nameIndex := 19, descriptorIndex := 20, attributes := #[] }])
  fields := #[{ name := "refusal", type := .boolean, accessFlags := 18, slot := 0, constantValue := 0 }, { name := "message", type := (.object "java/lang/String"), accessFlags := 18, slot := 1, constantValue := 0 }, { name := "madeSecret", type := (.object "java/util/Optional"), accessFlags := 18, slot := 2, constantValue := 0 }]
  methods := #[k8m0, k8m1, k8m2, k8m3, k8m4]
  instanceTypes := #[.boolean, (.object "java/lang/String"), (.object "java/util/Optional")]
  staticTypes := #[]
  resolved := Array.replicate 45 none
  statics := none }

def pool9 : Array CpInfo := pool [(1, .fieldref 2 3), (0, .class_ 4), (0, .nameAndType 5 6), (0, u "java/util/Optional"), (0, u "EMPTY"), (0, u "Ljava/util/Optional;"), (1, .class_ 10), (1, u "java/lang/Object"), (2, .fieldref 2 14), (0, .nameAndType 15 16), (0, u "value"), (0, u "Ljava/lang/Object;"), (29, u "()Z"), (8, u "empty"), (0, u "()Ljava/util/Optional;"), (11, u "isPresent")] 118

def k9c0 : Code := { maxStack := 1, maxLocals := 1, code := jdk_32_method_1_code, exceptionTable := #[], attributes := #[] }
def k9m0 : Method := { name := "empty", desc := "()Ljava/util/Optional;", sig := { parameters := [], returnType := some (.object "java/util/Optional") }, accessFlags := 9, code := some k9c0 }
def k9c1 : Code := { maxStack := 1, maxLocals := 1, code := jdk_32_method_6_code, exceptionTable := #[], attributes := #[] }
def k9m1 : Method := { name := "isPresent", desc := "()Z", sig := { parameters := [], returnType := some .boolean }, accessFlags := 1, code := some k9c1 }
/-- java/util/Optional -/
def k9 : Class := { plain "java/util/Optional" (some 0) with
  accessFlags := 49
  interfaces := #[]
  cf := some (fileOf pool9 2 #[] #[{ accessFlags := 9, nameIndex := 55, descriptorIndex := 56, attributes := #[] }, { accessFlags := 1, nameIndex := 68, descriptorIndex := 46, attributes := #[] }] 49 8 #[] #[{ accessFlags := 26, nameIndex := 5, descriptorIndex := 6, attributes := #[] }, { accessFlags := 18, nameIndex := 15, descriptorIndex := 16, attributes := #[] }])
  fields := #[{ name := "EMPTY", type := (.object "java/util/Optional"), accessFlags := 26, slot := 0, constantValue := 0 }, { name := "value", type := (.object "java/lang/Object"), accessFlags := 18, slot := 0, constantValue := 0 }]
  methods := #[k9m0, k9m1]
  instanceTypes := #[(.object "java/lang/Object")]
  staticTypes := #[(.object "java/util/Optional")]
  resolved := Array.replicate 187 none
  statics := some 1 }

def pool10 : Array CpInfo := pool [(6, .class_ 8), (1, u "java/lang/Object"), (0, u "<init>"), (0, u "()V"), (1, .class_ 14), (1, u "java/lang/StringUTF16"), (31, u "$assertionsDisabled"), (0, u "Z"), (13, u "HI_BYTE_SHIFT"), (0, u "I"), (2, u "LO_BYTE_SHIFT"), (49, .methodref 12 116), (0, .nameAndType 117 118), (0, u "compress"), (0, u "([CI[BII)I"), (3, u "([CII)[B"), (138, u "coderFromArrayLen"), (0, u "([BI)B"), (106, .class_ 371), (1, u "java/lang/StringUTF16$LinesSpliterator"), (58, u "MAX_LENGTH"), (196, .class_ 628), (0, u "java/lang/StringUTF16$CodePointsSpliterator"), (0, .class_ 630), (0, u "java/lang/StringUTF16$CharsSpliterator")] 4

def k10m0 : Method := { name := "<init>", desc := "()V", sig := { parameters := [], returnType := none }, accessFlags := 0, code := none }
def k10c1 : Code := { maxStack := 2, maxLocals := 2, code := jdk_52_method_15_code, exceptionTable := #[], attributes := #[] }
def k10m1 : Method := { name := "coderFromArrayLen", desc := "([BI)B", sig := { parameters := [(.array .byte), .int], returnType := some .byte }, accessFlags := 8, code := some k10c1 }
def k10c2 : Code := { maxStack := 5, maxLocals := 6, code := jdk_52_method_16_code, exceptionTable := #[], attributes := #[] }
def k10m2 : Method := { name := "compress", desc := "([CII)[B", sig := { parameters := [(.array .char), .int, .int], returnType := some (.array .byte) }, accessFlags := 9, code := some k10c2 }
def k10c3 : Code := { maxStack := 3, maxLocals := 7, code := jdk_52_method_21_code, exceptionTable := #[], attributes := #[] }
def k10m3 : Method := { name := "compress", desc := "([CI[BII)I", sig := { parameters := [(.array .char), .int, (.array .byte), .int, .int], returnType := some .int }, accessFlags := 9, code := some k10c3 }
/-- java/lang/StringUTF16 -/
def k10 : Class := { plain "java/lang/StringUTF16" (some 0) with
  accessFlags := 48
  interfaces := #[]
  cf := some (fileOf pool10 12 #[.nestMembers #[627, 629, 369]] #[{ accessFlags := 0, nameIndex := 9, descriptorIndex := 10, attributes := #[] }, { accessFlags := 8, nameIndex := 261, descriptorIndex := 262, attributes := #[] }, { accessFlags := 9, nameIndex := 117, descriptorIndex := 122, attributes := #[] }, { accessFlags := 9, nameIndex := 117, descriptorIndex := 118, attributes := #[] }] 48 6 #[] #[{ accessFlags := 26, nameIndex := 61, descriptorIndex := 62, attributes := #[] }, { accessFlags := 26, nameIndex := 65, descriptorIndex := 62, attributes := #[] }, { accessFlags := 24, nameIndex := 430, descriptorIndex := 62, attributes := #[] }, { accessFlags := 4120, nameIndex := 46, descriptorIndex := 47, attributes := #[] }])
  fields := #[{ name := "HI_BYTE_SHIFT", type := .int, accessFlags := 26, slot := 0, constantValue := 0 }, { name := "LO_BYTE_SHIFT", type := .int, accessFlags := 26, slot := 1, constantValue := 0 }, { name := "MAX_LENGTH", type := .int, accessFlags := 24, slot := 2, constantValue := 0 }, { name := "$assertionsDisabled", type := .boolean, accessFlags := 4120, slot := 3, constantValue := 0 }]
  methods := #[k10m0, k10m1, k10m2, k10m3]
  instanceTypes := #[]
  staticTypes := #[.int, .int, .int, .boolean]
  resolved := Array.replicate 635 none
  statics := none }

def pool11 : Array CpInfo := pool [(4, .class_ 6), (1, u "java/lang/Object"), (0, u "<init>"), (0, u "()V"), (5, .class_ 16), (1, u "java/lang/StringLatin1"), (104, u "$assertionsDisabled"), (0, u "Z"), (98, .class_ 223), (1, u "java/lang/StringLatin1$LinesSpliterator"), (166, .class_ 391), (0, u "java/lang/StringLatin1$CharsSpliterator")] 3

def k11m0 : Method := { name := "<init>", desc := "()V", sig := { parameters := [], returnType := none }, accessFlags := 0, code := none }
/-- java/lang/StringLatin1 -/
def k11 : Class := { plain "java/lang/StringLatin1" (some 0) with
  accessFlags := 48
  interfaces := #[]
  cf := some (fileOf pool11 14 #[.nestMembers #[390, 221]] #[{ accessFlags := 0, nameIndex := 7, descriptorIndex := 8, attributes := #[] }] 48 4 #[] #[{ accessFlags := 4120, nameIndex := 121, descriptorIndex := 122, attributes := #[] }])
  fields := #[{ name := "$assertionsDisabled", type := .boolean, accessFlags := 4120, slot := 0, constantValue := 0 }]
  methods := #[k11m0]
  instanceTypes := #[]
  staticTypes := #[.boolean]
  resolved := Array.replicate 395 none
  statics := none }

def pool12 : Array CpInfo := pool [(2, .class_ 4), (1, u "java/lang/Object"), (0, u "<init>"), (0, u "()V"), (17, .class_ 26), (1, u "jdk/internal/util/Preconditions"), (28, .class_ 56), (0, u "jdk/internal/util/Preconditions$4"), (57, .class_ 115), (0, u "jdk/internal/util/Preconditions$1"), (7, u "SIOOBE_FORMATTER"), (0, u "Ljava/util/function/BiFunction;"), (0, .class_ 126), (0, u "jdk/internal/util/Preconditions$2"), (3, u "AIOOBE_FORMATTER"), (0, .class_ 132), (0, u "jdk/internal/util/Preconditions$3"), (3, u "IOOBE_FORMATTER")] 57

def k12m0 : Method := { name := "<init>", desc := "()V", sig := { parameters := [], returnType := none }, accessFlags := 1, code := none }
/-- jdk/internal/util/Preconditions -/
def k12 : Class := { plain "jdk/internal/util/Preconditions" (some 0) with
  accessFlags := 33
  interfaces := #[]
  cf := some (fileOf pool12 24 #[.nestMembers #[55, 131, 125, 114]] #[{ accessFlags := 1, nameIndex := 5, descriptorIndex := 6, attributes := #[] }] 33 2 #[] #[{ accessFlags := 25, nameIndex := 123, descriptorIndex := 124, attributes := #[] }, { accessFlags := 25, nameIndex := 130, descriptorIndex := 124, attributes := #[] }, { accessFlags := 25, nameIndex := 136, descriptorIndex := 124, attributes := #[] }])
  fields := #[{ name := "SIOOBE_FORMATTER", type := (.object "java/util/function/BiFunction"), accessFlags := 25, slot := 0, constantValue := 0 }, { name := "AIOOBE_FORMATTER", type := (.object "java/util/function/BiFunction"), accessFlags := 25, slot := 1, constantValue := 0 }, { name := "IOOBE_FORMATTER", type := (.object "java/util/function/BiFunction"), accessFlags := 25, slot := 2, constantValue := 0 }]
  methods := #[k12m0]
  instanceTypes := #[]
  staticTypes := #[(.object "java/util/function/BiFunction"), (.object "java/util/function/BiFunction"), (.object "java/util/function/BiFunction")]
  resolved := Array.replicate 194 none
  statics := some 2 }

def pool13 : Array CpInfo := pool [(9, u "<init>"), (6, .class_ 18), (1, u "java/lang/Object"), (0, u "()V"), (1, .class_ 23), (1, u "jdk/internal/util/ArraysSupport"), (0, u "LOG2_ARRAY_LONG_INDEX_SCALE"), (0, u "I"), (2, u "U"), (0, u "Ljdk/internal/misc/Unsafe;"), (8, u "BIG_ENDIAN"), (0, u "Z"), (8, u "LOG2_BYTE_BIT_SIZE"), (4, u "LOG2_ARRAY_INT_INDEX_SCALE"), (54, u "JLA"), (0, u "Ljdk/internal/access/JavaLangAccess;"), (11, u "LOG2_ARRAY_BOOLEAN_INDEX_SCALE"), (9, u "LOG2_ARRAY_BYTE_INDEX_SCALE"), (5, u "LOG2_ARRAY_CHAR_INDEX_SCALE"), (5, u "LOG2_ARRAY_SHORT_INDEX_SCALE"), (18, u "LOG2_ARRAY_FLOAT_INDEX_SCALE"), (24, u "LOG2_ARRAY_DOUBLE_INDEX_SCALE"), (89, u "T_BOOLEAN"), (2, u "T_CHAR"), (1, u "T_FLOAT"), (1, u "T_DOUBLE"), (1, u "T_BYTE"), (1, u "T_SHORT"), (1, u "T_INT"), (1, u "T_LONG"), (1, u "SOFT_MAX_ARRAY_LENGTH")] 83

def k13m0 : Method := { name := "<init>", desc := "()V", sig := { parameters := [], returnType := none }, accessFlags := 2, code := none }
/-- jdk/internal/util/ArraysSupport -/
def k13 : Class := { plain "jdk/internal/util/ArraysSupport" (some 0) with
  accessFlags := 33
  interfaces := #[]
  cf := some (fileOf pool13 21 #[] #[{ accessFlags := 2, nameIndex := 9, descriptorIndex := 19, attributes := #[] }] 33 16 #[] #[{ accessFlags := 24, nameIndex := 28, descriptorIndex := 29, attributes := #[] }, { accessFlags := 26, nameIndex := 38, descriptorIndex := 39, attributes := #[] }, { accessFlags := 25, nameIndex := 121, descriptorIndex := 25, attributes := #[] }, { accessFlags := 25, nameIndex := 131, descriptorIndex := 25, attributes := #[] }, { accessFlags := 25, nameIndex := 137, descriptorIndex := 25, attributes := #[] }, { accessFlags := 25, nameIndex := 143, descriptorIndex := 25, attributes := #[] }, { accessFlags := 25, nameIndex := 53, descriptorIndex := 25, attributes := #[] }, { accessFlags := 25, nameIndex := 24, descriptorIndex := 25, attributes := #[] }, { accessFlags := 25, nameIndex := 162, descriptorIndex := 25, attributes := #[] }, { accessFlags := 25, nameIndex := 187, descriptorIndex := 25, attributes := #[] }, { accessFlags := 26, nameIndex := 48, descriptorIndex := 25, attributes := #[] }, { accessFlags := 25, nameIndex := 277, descriptorIndex := 25, attributes := #[] }, { accessFlags := 25, nameIndex := 280, descriptorIndex := 25, attributes := #[] }, { accessFlags := 25, nameIndex := 282, descriptorIndex := 25, attributes := #[] }, { accessFlags := 25, nameIndex := 284, descriptorIndex := 25, attributes := #[] }, { accessFlags := 25, nameIndex := 286, descriptorIndex := 25, attributes := #[] }, { accessFlags := 25, nameIndex := 288, descriptorIndex := 25, attributes := #[] }, { accessFlags := 25, nameIndex := 290, descriptorIndex := 25, attributes := #[] }, { accessFlags := 25, nameIndex := 292, descriptorIndex := 25, attributes := #[] }, { accessFlags := 26, nameIndex := 108, descriptorIndex := 109, attributes := #[] }, { accessFlags := 25, nameIndex := 294, descriptorIndex := 25, attributes := #[] }])
  fields := #[{ name := "U", type := (.object "jdk/internal/misc/Unsafe"), accessFlags := 24, slot := 0, constantValue := 0 }, { name := "BIG_ENDIAN", type := .boolean, accessFlags := 26, slot := 1, constantValue := 0 }, { name := "LOG2_ARRAY_BOOLEAN_INDEX_SCALE", type := .int, accessFlags := 25, slot := 2, constantValue := 0 }, { name := "LOG2_ARRAY_BYTE_INDEX_SCALE", type := .int, accessFlags := 25, slot := 3, constantValue := 0 }, { name := "LOG2_ARRAY_CHAR_INDEX_SCALE", type := .int, accessFlags := 25, slot := 4, constantValue := 0 }, { name := "LOG2_ARRAY_SHORT_INDEX_SCALE", type := .int, accessFlags := 25, slot := 5, constantValue := 0 }, { name := "LOG2_ARRAY_INT_INDEX_SCALE", type := .int, accessFlags := 25, slot := 6, constantValue := 0 }, { name := "LOG2_ARRAY_LONG_INDEX_SCALE", type := .int, accessFlags := 25, slot := 7, constantValue := 0 }, { name := "LOG2_ARRAY_FLOAT_INDEX_SCALE", type := .int, accessFlags := 25, slot := 8, constantValue := 0 }, { name := "LOG2_ARRAY_DOUBLE_INDEX_SCALE", type := .int, accessFlags := 25, slot := 9, constantValue := 0 }, { name := "LOG2_BYTE_BIT_SIZE", type := .int, accessFlags := 26, slot := 10, constantValue := 0 }, { name := "T_BOOLEAN", type := .int, accessFlags := 25, slot := 11, constantValue := 0 }, { name := "T_CHAR", type := .int, accessFlags := 25, slot := 12, constantValue := 0 }, { name := "T_FLOAT", type := .int, accessFlags := 25, slot := 13, constantValue := 0 }, { name := "T_DOUBLE", type := .int, accessFlags := 25, slot := 14, constantValue := 0 }, { name := "T_BYTE", type := .int, accessFlags := 25, slot := 15, constantValue := 0 }, { name := "T_SHORT", type := .int, accessFlags := 25, slot := 16, constantValue := 0 }, { name := "T_INT", type := .int, accessFlags := 25, slot := 17, constantValue := 0 }, { name := "T_LONG", type := .int, accessFlags := 25, slot := 18, constantValue := 0 }, { name := "JLA", type := (.object "jdk/internal/access/JavaLangAccess"), accessFlags := 26, slot := 19, constantValue := 0 }, { name := "SOFT_MAX_ARRAY_LENGTH", type := .int, accessFlags := 25, slot := 20, constantValue := 0 }]
  methods := #[k13m0]
  instanceTypes := #[]
  staticTypes := #[(.object "jdk/internal/misc/Unsafe"), .boolean, .int, .int, .int, .int, .int, .int, .int, .int, .int, .int, .int, .int, .int, .int, .int, .int, .int, (.object "jdk/internal/access/JavaLangAccess"), .int]
  resolved := Array.replicate 378 none
  statics := none }

def pool14 : Array CpInfo := pool [(1, u "java/lang/Cloneable"), (0, .class_ 1), (0, u "java/lang/Object"), (0, .class_ 3)] 3

/-- java/lang/Cloneable -/
def k14 : Class := { plain "java/lang/Cloneable" (some 0) with
  accessFlags := 1537
  interfaces := #[]
  cf := some (fileOf pool14 2 #[] #[] 1537 4 #[] #[])
  fields := #[]
  methods := #[]
  instanceTypes := #[]
  staticTypes := #[]
  resolved := Array.replicate 8 none
  statics := none }

/-- the primitive byte -/
def k15 : Class := { plain "byte" none with kind := .primitive 'B', accessFlags := 0x411 }
/-- [B -/
def k16 : Class := { plain "[B" (some 0) with kind := .array 15 .byte, interfaces := #[14, 2], accessFlags := 1041 }

/-- the primitive char -/
def k17 : Class := { plain "char" none with kind := .primitive 'C', accessFlags := 0x411 }
/-- [C -/
def k18 : Class := { plain "[C" (some 0) with kind := .array 17 .char, interfaces := #[14, 2], accessFlags := 1041 }

/-- the primitive int -/
def k19 : Class := { plain "int" none with kind := .primitive 'I', accessFlags := 0x411 }
/-- [I -/
def k20 : Class := { plain "[I" (some 0) with kind := .array 19 .int, interfaces := #[14, 2], accessFlags := 1041 }

def heap : Heap := #[{ cls := 7, slots := #[.long 0, .int 1, .null, .int 0, .null, .int 0, .int 0], vm := .statics 7 },
  { cls := 9, slots := #[.ref 3], vm := .statics 9 },
  { cls := 12, slots := #[.null, .null, .null], vm := .statics 12 },
  { cls := 9, slots := #[.null], vm := .none }]
def classes : Array Class := #[k0, k1, k2, k3, k4, k5, k6, k7, k8, k9, k10, k11, k12, k13, k14, k15, k16, k17, k18, k19, k20]
def interned : List (Array UInt16 × Addr) := []
def slotsUsed : Nat := 12
def theMethod : MethodId := ⟨1, 2⟩
def args0 : Array Value := #[.int 5, .int 65, .int 66, .int 67, .int 2, .int 68]
def aboutOver (below : List Frame) : State where
  vm := { classes := classes, interned := interned.toArray }
  heap := heap
  slotsUsed := slotsUsed
  threads := #[{ frames := .invoking theMethod args0 :: below }]
def below0 : List Frame := [.native { method := ⟨0, 0⟩, args := #[] }]
def about1 : State := aboutOver below0
def p0 : Program := .bare "" "" ""
def e0 : Env := launch0.env 0 0 0
theorem w_frames : about1.frames = Frame.invoking theMethod args0 :: below0 := rfl
set_option maxRecDepth 65536 in
theorem w_args : argsFit about1.vm theMethod args0 = true := by decide +kernel
set_option maxRecDepth 65536 in
theorem w_heap : heapFits about1 = true := by decide +kernel
set_option maxRecDepth 65536 in
theorem w_runnable : about1.curStatus? = some .runnable := by decide +kernel
set_option maxRecDepth 65536 in
theorem w_alone : about1.alone = true := by decide +kernel
set_option maxRecDepth 65536 in
theorem w_named : about1.methodNamed? x = some theMethod := by decide +kernel
set_option maxRecDepth 65536 in
theorem w_hears : about1.hears theMethod below0 = true := by decide +kernel
set_option maxRecDepth 65536 in
theorem w_ripe : about1.ripe theMethod args0 below0 = true := by decide +kernel
theorem w_running : about1.status = .running := rfl
set_option maxRecDepth 65536 in
theorem w_room : about1.hasRoom e0.platform room_1 = true :=
  launch0.hasRoom_least _ room_1 (by decide +kernel) (by decide +kernel) (by decide +kernel) (by decide +kernel) (by decide +kernel) (by decide +kernel)
theorem allAtoms_all (ts : List Jvm.Cond) (a : Array Jvm.Value) (st : Jvm.State) : (allAtoms ts).before a st = ts.all (fun c => c.before a st) := by
  induction ts with
  | nil => rfl
  | cons c t ih =>
    show (Jvm.Cond.and c (allAtoms t)).before a st = _
    rw [Jvm.Cond.before_and, ih, List.all_cons]
def words1 : List Jvm.Cond := Jvm.Cond.code x code maxLocals ret :: tables_1
/-- a 'code' word, met by the world's own term for the bytes: nothing is compared byte by byte -/
theorem code_word {y : MethodName} {bytes : ByteArray} {mx : Nat} {rt : Option FieldType} {a : Array Value} {s : State} {m : MethodId} {meth : Method} {c : Code} (h1 : s.methodNamed? y = some m) (h2 : s.vm.method? m = some meth) (h3 : meth.code = some c) (h4 : c.code = bytes)
    (h5 : (c.maxLocals == mx && c.exceptionTable.isEmpty && decide (c.maxStack ≤ mostOperands) && decide (meth.sig.returnType = rt) && !meth.locks && decide (parseMethodDescriptor y.desc = some meth.sig)) = true) : (Jvm.Cond.code y bytes mx rt).before a s = true := by
  simp only [Bool.and_eq_true, beq_iff_eq, Bool.not_eq_true', decide_eq_true_eq] at h5
  obtain ⟨⟨⟨⟨⟨g1, g2⟩, g3⟩, g4⟩, g5⟩, g6⟩ := h5
  simp [Cond.before, Cond.holds, Cond.value, h1, h2, h3, h4, g1, g2, g3, g4, g5, g6]
def isCode : Jvm.Cond → Bool
  | .code _ _ _ _ => true
  | _ => false
theorem all_split {L : List Jvm.Cond} {P : Jvm.Cond → Bool} (h1 : L.all (fun c => isCode c || P c) = true) (h2 : ∀ c ∈ L.filter isCode, P c = true) : L.all P = true := by
  refine List.all_eq_true.mpr fun c hc => ?_
  have h := List.all_eq_true.mp h1 c hc
  rcases Bool.eq_false_or_eq_true (isCode c) with hi | hi
  · exact h2 c (List.mem_filter.mpr ⟨hc, hi⟩)
  · simpa [hi] using h
set_option maxRecDepth 65536 in
theorem w_c0 : (Jvm.Cond.code x code maxLocals ret).before args0 about1 = true := code_word (m := ⟨1, 2⟩) (meth := k1m2) (c := k1c2) (by decide +kernel) rfl rfl rfl (by decide +kernel)
set_option maxRecDepth 65536 in
theorem w_c1 : (Jvm.Cond.code ({ cls := "com/example/need_to_know/needtoknow/admin/AdminNoticeRefusalPinLaw", name := "draw", desc := "(IIII)Ljava/lang/String;" } : Jvm.MethodName) method_2_code (8 : Nat) (Option.some (Jvm.ClassFile.FieldType.object "java/lang/String"))).before args0 about1 = true := code_word (m := ⟨1, 1⟩) (meth := k1m1) (c := k1c1) (by decide +kernel) rfl rfl rfl (by decide +kernel)
set_option maxRecDepth 65536 in
theorem w_c2 : (Jvm.Cond.code ({ cls := "java/lang/String", name := "<init>", desc := "([C)V" } : Jvm.MethodName) jdk_42_method_3_code (2 : Nat) (Option.none : Option Jvm.ClassFile.FieldType)).before args0 about1 = true := code_word (m := ⟨7, 1⟩) (meth := k7m1) (c := k7c1) (by decide +kernel) rfl rfl rfl (by decide +kernel)
set_option maxRecDepth 65536 in
theorem w_c3 : (Jvm.Cond.code ({ cls := "java/lang/String", name := "<init>", desc := "([CIILjava/lang/Void;)V" } : Jvm.MethodName) jdk_42_method_149_code (6 : Nat) (Option.none : Option Jvm.ClassFile.FieldType)).before args0 about1 = true := code_word (m := ⟨7, 3⟩) (meth := k7m3) (c := k7c3) (by decide +kernel) rfl rfl rfl (by decide +kernel)
set_option maxRecDepth 65536 in
theorem w_c4 : (Jvm.Cond.code ({ cls := "java/lang/Object", name := "<init>", desc := "()V" } : Jvm.MethodName) object_method_1_code (1 : Nat) (Option.none : Option Jvm.ClassFile.FieldType)).before args0 about1 = true := code_word (m := ⟨0, 0⟩) (meth := k0m0) (c := k0c0) (by decide +kernel) rfl rfl rfl (by decide +kernel)
set_option maxRecDepth 65536 in
theorem w_c5 : (Jvm.Cond.code ({ cls := "com/example/need_to_know/needtoknow/admin/AdminNotice", name := "refusal", desc := "(Ljava/lang/String;)Lcom/example/need_to_know/needtoknow/admin/AdminNotice;" } : Jvm.MethodName) prog_15_method_2_code (1 : Nat) (Option.some (Jvm.ClassFile.FieldType.object "com/example/need_to_know/needtoknow/admin/AdminNotice"))).before args0 about1 = true := code_word (m := ⟨8, 1⟩) (meth := k8m1) (c := k8c1) (by decide +kernel) rfl rfl rfl (by decide +kernel)
set_option maxRecDepth 65536 in
theorem w_c6 : (Jvm.Cond.code ({ cls := "java/util/Optional", name := "empty", desc := "()Ljava/util/Optional;" } : Jvm.MethodName) jdk_32_method_1_code (1 : Nat) (Option.some (Jvm.ClassFile.FieldType.object "java/util/Optional"))).before args0 about1 = true := code_word (m := ⟨9, 0⟩) (meth := k9m0) (c := k9c0) (by decide +kernel) rfl rfl rfl (by decide +kernel)
set_option maxRecDepth 65536 in
theorem w_c7 : (Jvm.Cond.code ({ cls := "com/example/need_to_know/needtoknow/admin/AdminNotice", name := "<init>", desc := "(ZLjava/lang/String;Ljava/util/Optional;)V" } : Jvm.MethodName) prog_15_method_1_code (4 : Nat) (Option.none : Option Jvm.ClassFile.FieldType)).before args0 about1 = true := code_word (m := ⟨8, 0⟩) (meth := k8m0) (c := k8c0) (by decide +kernel) rfl rfl rfl (by decide +kernel)
set_option maxRecDepth 65536 in
theorem w_c8 : (Jvm.Cond.code ({ cls := "com/example/need_to_know/needtoknow/admin/AdminNotice", name := "isRefusal", desc := "()Z" } : Jvm.MethodName) prog_15_method_4_code (1 : Nat) (Option.some Jvm.ClassFile.FieldType.boolean)).before args0 about1 = true := code_word (m := ⟨8, 2⟩) (meth := k8m2) (c := k8c2) (by decide +kernel) rfl rfl rfl (by decide +kernel)
set_option maxRecDepth 65536 in
theorem w_c9 : (Jvm.Cond.code ({ cls := "com/example/need_to_know/needtoknow/admin/AdminNotice", name := "message", desc := "()Ljava/lang/String;" } : Jvm.MethodName) prog_15_method_5_code (1 : Nat) (Option.some (Jvm.ClassFile.FieldType.object "java/lang/String"))).before args0 about1 = true := code_word (m := ⟨8, 3⟩) (meth := k8m3) (c := k8c3) (by decide +kernel) rfl rfl rfl (by decide +kernel)
set_option maxRecDepth 65536 in
theorem w_c10 : (Jvm.Cond.code ({ cls := "java/lang/String", name := "equals", desc := "(Ljava/lang/Object;)Z" } : Jvm.MethodName) jdk_42_method_66_code (3 : Nat) (Option.some Jvm.ClassFile.FieldType.boolean)).before args0 about1 = true := code_word (m := ⟨7, 2⟩) (meth := k7m2) (c := k7c2) (by decide +kernel) rfl rfl rfl (by decide +kernel)
set_option maxRecDepth 65536 in
theorem w_c11 : (Jvm.Cond.code ({ cls := "com/example/need_to_know/needtoknow/admin/AdminNotice", name := "madeSecret", desc := "()Ljava/util/Optional;" } : Jvm.MethodName) prog_15_method_6_code (1 : Nat) (Option.some (Jvm.ClassFile.FieldType.object "java/util/Optional"))).before args0 about1 = true := code_word (m := ⟨8, 4⟩) (meth := k8m4) (c := k8c4) (by decide +kernel) rfl rfl rfl (by decide +kernel)
set_option maxRecDepth 65536 in
theorem w_c12 : (Jvm.Cond.code ({ cls := "java/util/Optional", name := "isPresent", desc := "()Z" } : Jvm.MethodName) jdk_32_method_6_code (1 : Nat) (Option.some Jvm.ClassFile.FieldType.boolean)).before args0 about1 = true := code_word (m := ⟨9, 1⟩) (meth := k9m1) (c := k9c1) (by decide +kernel) rfl rfl rfl (by decide +kernel)
set_option maxRecDepth 65536 in
theorem w_c13 : (Jvm.Cond.code ({ cls := "java/lang/StringUTF16", name := "compress", desc := "([CII)[B" } : Jvm.MethodName) jdk_52_method_16_code (6 : Nat) (Option.some (Jvm.ClassFile.FieldType.array Jvm.ClassFile.FieldType.byte))).before args0 about1 = true := code_word (m := ⟨10, 2⟩) (meth := k10m2) (c := k10c2) (by decide +kernel) rfl rfl rfl (by decide +kernel)
set_option maxRecDepth 65536 in
theorem w_c14 : (Jvm.Cond.code ({ cls := "java/lang/StringUTF16", name := "compress", desc := "([CI[BII)I" } : Jvm.MethodName) jdk_52_method_21_code (7 : Nat) (Option.some Jvm.ClassFile.FieldType.int)).before args0 about1 = true := code_word (m := ⟨10, 3⟩) (meth := k10m3) (c := k10c3) (by decide +kernel) rfl rfl rfl (by decide +kernel)
set_option maxRecDepth 65536 in
theorem w_c15 : (Jvm.Cond.code ({ cls := "java/lang/StringUTF16", name := "coderFromArrayLen", desc := "([BI)B" } : Jvm.MethodName) jdk_52_method_15_code (2 : Nat) (Option.some Jvm.ClassFile.FieldType.byte)).before args0 about1 = true := code_word (m := ⟨10, 1⟩) (meth := k10m1) (c := k10c1) (by decide +kernel) rfl rfl rfl (by decide +kernel)
def codes1 : List Jvm.Cond := [Jvm.Cond.code x code maxLocals ret, Jvm.Cond.code ({ cls := "com/example/need_to_know/needtoknow/admin/AdminNoticeRefusalPinLaw", name := "draw", desc := "(IIII)Ljava/lang/String;" } : Jvm.MethodName) method_2_code (8 : Nat) (Option.some (Jvm.ClassFile.FieldType.object "java/lang/String")), Jvm.Cond.code ({ cls := "java/lang/String", name := "<init>", desc := "([C)V" } : Jvm.MethodName) jdk_42_method_3_code (2 : Nat) (Option.none : Option Jvm.ClassFile.FieldType), Jvm.Cond.code ({ cls := "java/lang/String", name := "<init>", desc := "([CIILjava/lang/Void;)V" } : Jvm.MethodName) jdk_42_method_149_code (6 : Nat) (Option.none : Option Jvm.ClassFile.FieldType), Jvm.Cond.code ({ cls := "java/lang/Object", name := "<init>", desc := "()V" } : Jvm.MethodName) object_method_1_code (1 : Nat) (Option.none : Option Jvm.ClassFile.FieldType), Jvm.Cond.code ({ cls := "com/example/need_to_know/needtoknow/admin/AdminNotice", name := "refusal", desc := "(Ljava/lang/String;)Lcom/example/need_to_know/needtoknow/admin/AdminNotice;" } : Jvm.MethodName) prog_15_method_2_code (1 : Nat) (Option.some (Jvm.ClassFile.FieldType.object "com/example/need_to_know/needtoknow/admin/AdminNotice")), Jvm.Cond.code ({ cls := "java/util/Optional", name := "empty", desc := "()Ljava/util/Optional;" } : Jvm.MethodName) jdk_32_method_1_code (1 : Nat) (Option.some (Jvm.ClassFile.FieldType.object "java/util/Optional")), Jvm.Cond.code ({ cls := "com/example/need_to_know/needtoknow/admin/AdminNotice", name := "<init>", desc := "(ZLjava/lang/String;Ljava/util/Optional;)V" } : Jvm.MethodName) prog_15_method_1_code (4 : Nat) (Option.none : Option Jvm.ClassFile.FieldType), Jvm.Cond.code ({ cls := "com/example/need_to_know/needtoknow/admin/AdminNotice", name := "isRefusal", desc := "()Z" } : Jvm.MethodName) prog_15_method_4_code (1 : Nat) (Option.some Jvm.ClassFile.FieldType.boolean), Jvm.Cond.code ({ cls := "com/example/need_to_know/needtoknow/admin/AdminNotice", name := "message", desc := "()Ljava/lang/String;" } : Jvm.MethodName) prog_15_method_5_code (1 : Nat) (Option.some (Jvm.ClassFile.FieldType.object "java/lang/String")), Jvm.Cond.code ({ cls := "java/lang/String", name := "equals", desc := "(Ljava/lang/Object;)Z" } : Jvm.MethodName) jdk_42_method_66_code (3 : Nat) (Option.some Jvm.ClassFile.FieldType.boolean), Jvm.Cond.code ({ cls := "com/example/need_to_know/needtoknow/admin/AdminNotice", name := "madeSecret", desc := "()Ljava/util/Optional;" } : Jvm.MethodName) prog_15_method_6_code (1 : Nat) (Option.some (Jvm.ClassFile.FieldType.object "java/util/Optional")), Jvm.Cond.code ({ cls := "java/util/Optional", name := "isPresent", desc := "()Z" } : Jvm.MethodName) jdk_32_method_6_code (1 : Nat) (Option.some Jvm.ClassFile.FieldType.boolean), Jvm.Cond.code ({ cls := "java/lang/StringUTF16", name := "compress", desc := "([CII)[B" } : Jvm.MethodName) jdk_52_method_16_code (6 : Nat) (Option.some (Jvm.ClassFile.FieldType.array Jvm.ClassFile.FieldType.byte)), Jvm.Cond.code ({ cls := "java/lang/StringUTF16", name := "compress", desc := "([CI[BII)I" } : Jvm.MethodName) jdk_52_method_21_code (7 : Nat) (Option.some Jvm.ClassFile.FieldType.int), Jvm.Cond.code ({ cls := "java/lang/StringUTF16", name := "coderFromArrayLen", desc := "([BI)B" } : Jvm.MethodName) jdk_52_method_15_code (2 : Nat) (Option.some Jvm.ClassFile.FieldType.byte)]
set_option maxRecDepth 65536 in
theorem codes_eq : words1.filter isCode = codes1 := rfl
theorem w_codes : ∀ c ∈ words1.filter isCode, c.before args0 about1 = true := by
  rw [codes_eq]
  intro c hc
  simp only [codes1, List.mem_cons, List.not_mem_nil, or_false] at hc
  rcases hc with rfl | rfl | rfl | rfl | rfl | rfl | rfl | rfl | rfl | rfl | rfl | rfl | rfl | rfl | rfl | rfl
  · exact w_c0
  · exact w_c1
  · exact w_c2
  · exact w_c3
  · exact w_c4
  · exact w_c5
  · exact w_c6
  · exact w_c7
  · exact w_c8
  · exact w_c9
  · exact w_c10
  · exact w_c11
  · exact w_c12
  · exact w_c13
  · exact w_c14
  · exact w_c15
set_option maxRecDepth 65536 in
theorem w_t1 : (words1.take 24).all (fun c => isCode c || c.before args0 about1) = true := by decide +kernel
set_option maxRecDepth 65536 in
theorem w_t2 : ((words1.drop 24).take 24).all (fun c => isCode c || c.before args0 about1) = true := by decide +kernel
set_option maxRecDepth 65536 in
theorem w_t3 : (((words1.drop 24).drop 24).take 24).all (fun c => isCode c || c.before args0 about1) = true := by decide +kernel
set_option maxRecDepth 65536 in
theorem w_t4 : (((words1.drop 24).drop 24).drop 24).all (fun c => isCode c || c.before args0 about1) = true := by decide +kernel
theorem w_tables : (allAtoms (Jvm.Cond.code x code maxLocals ret :: tables_1)).before args0 about1 = true := by
  rw [allAtoms_all]
  show words1.all (fun c => c.before args0 about1) = true
  refine all_split ?_ w_codes
  rw [← List.take_append_drop 24 words1, List.all_append, w_t1, ← List.take_append_drop 24 (words1.drop 24), List.all_append, w_t2, ← List.take_append_drop 24 ((words1.drop 24).drop 24), List.all_append, w_t3, w_t4]
  rfl
set_option maxRecDepth 65536 in
theorem w_rest : rest_1_c.before args0 about1 = true := by decide +kernel
set_option maxRecDepth 65536 in
theorem w_case : (Jvm.Cond.and given_1 narrow_1).before args0 about1 = true := by decide +kernel
set_option maxRecDepth 65536 in
theorem w_consts : constsHeld consts_1 about1 := Jvm.Lit.constsHeldB_iff.mp (by decide +kernel)
theorem w_applies : (headSpec (Jvm.Cond.code x code maxLocals ret :: tables_1) room_1).applies x e0.platform about1 = true :=
  (Spec.applies_iff w_frames).mpr ⟨w_running, w_runnable, w_alone, w_named, w_hears, w_ripe, w_room, w_tables⟩
theorem atStart : AtStart classFile x code maxLocals ret World_1 tables_1 room_1 Calls_1 rest_1 Pre_1 launch0 p0 e0 about1 theMethod args0 below0 :=
  ⟨lists_1, trivial, launch0.admits_env _ _ _, launch0.least_env, fairChoices_fair.cas, fairChoices_fair.clock, w_frames, w_args, w_heap, w_applies, ⟨w_consts, trivial⟩, w_rest, w_case⟩
end start1
theorem witness_1 : WitnessClaimed_1 := ⟨start1.p0, start1.e0, start1.about1, start1.theMethod, start1.args0, start1.below0, start1.atStart⟩
end Jvm.Pilot.@@N@@
