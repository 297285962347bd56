import JvmDerived
import JvmDerived.Pilot.@@N@@Statement
import JvmDerived.Pilot.@@N@@Code
set_option linter.unusedVariables false
set_option linter.unusedSimpArgs false
namespace Jvm.OwnW
open Sem ClassFile Op Lib Jvm.Stand Jvm.Free Jvm.LawKit Jvm.RoadKit
theorem adr_ne {a b : Nat} (h : a < b ∨ b < a) : @Ne Addr a b := fun z => by
  have z : @Eq Nat a b := z
  omega
/-- what was written lies in one of 'ws' or is new -/
def Fw (ws : List Addr) (N : Nat) (L : List Loc) : Prop := ∀ y ∈ L, y.base ∈ ws ∨ N ≤ y.base
theorem Fw.nil (ws : List Addr) (N : Nat) : Fw ws N [] := fun _ q => nomatch q
theorem Fw.app {ws : List Addr} {N : Nat} {L L' : List Loc} (A : Fw ws N L) (B : Fw ws N L') : Fw ws N (L ++ L') := fun y q => (List.mem_append.mp q).elim (A y) (B y)
theorem Fw.snoc {ws : List Addr} {N : Nat} {L : List Loc} {a : Addr} {sl : Nat} (A : Fw ws N L) (q : a ∈ ws ∨ N ≤ a) : Fw ws N (L ++ [⟨a, sl⟩]) := A.app fun y hy => by cases List.mem_singleton.mp hy; exact q
/-- where a walk stands: what was written is new, the heap, the figures within the room -/
def Pos (p : Program) (l : Launch) (e : Env) (R : Room) (s : State) (m : MethodId) (args : Array Value) (below : List Frame) (meth : Method) (c : Code) (Z : State) (own : String) (ws : List Addr) (bd : Nat) (T : State) (h : Heap) (k n : Nat) : Prop :=
  (∃ locs, Stand p l e R s m args below meth c T locs k n ∧ Fw ws bd locs) ∧ T.heap = h ∧ bd ≤ h.size ∧ Z.Warmed39 s.vm ∧ p.tables.exec = Jvm.exec ∧ s.vm.findClass own = some m.cls ∧ meth.locks = false ∧ k ≤ R.cells ∧ n ≤ R.slots
/-- the walk that stands at the frame g in T comes to its return, and Q holds of what it returns and of the heap it leaves -/
def Done (p : Program) (l : Launch) (e : Env) (R : Room) (s : State) (m : MethodId) (args : Array Value) (below : List Frame) (meth : Method) (c : Code) (Z : State) (own : String) (ws : List Addr) (bd : Nat) (Q : Option Value → Heap → Prop) (T : State) (g : JFrame) : Prop :=
  ∃ v T' h' k n, Pos p l e R s m args below meth c Z own ws bd T' h' k n ∧ (meth.sig.returnType = none → v = none) ∧ Q v h' ∧
    ∀ fs, (∀ (f : JFrame) (acts : List Action), f.method = m → f.locked = none → f.entered = [] → (doReturn e (T'.setTop f) acts v).1 = T'.setFrames fs) → Steps p.tables e below (T.setTop g) (T'.setFrames fs)
/-- a method's contract, asked at one heap and one row of arguments; it writes what lies in 'ws' and what it makes, alone -/
def OMet (l : Launch) (y : MethodName) (bytes : ByteArray) (maxL : Nat) (ret : Option FieldType) (wd : List Cond) (rm : Room) (Z : State) (h : Heap) (ws : List Addr) (as' : Array Value) (Q : Option Value → Heap → Prop) : Prop :=
  MetFree l y (head1 (Cond.code y bytes maxL ret :: wd) rm) (fun a U => a = as' ∧ Z.Warmed39 U.vm ∧ U.heap = h) (fun _ _ _ _ _ => True) (fun _ U o U' => ∃ v L, o = .returned v ∧ (Q v U'.heap ∧ Fw ws h.size L ∧ Keep h U'.heap ws) ∧ FrameEnd U o U' L rm.cells rm.slots)
section A
variable {p : Program} {l : Launch} {e : Env} {R : Room} {s : State} {m : MethodId} {args : Array Value} {below : List Frame} {meth : Method} {c : Code} {Z : State} {own : String} {ws : List Addr} {bd : Nat} {T : State} {h h' : Heap} {k n : Nat} {a0 : Array Value} {Q : Option Value → Heap → Prop} {pc pc' : Nat} {Ls : Array Slot} {st : List Value} {T₁ : State} {g₁ : JFrame}
theorem Pos.here (P : Pos p l e R s m args below meth c Z own ws bd T h k n) : At T m c below := by obtain ⟨⟨_, X, _⟩, _⟩ := P; exact X.here
theorem Pos.x (P : Pos p l e R s m args below meth c Z own ws bd T h k n) : p.tables.exec = Jvm.exec := P.2.2.2.2.1
theorem Pos.ge (P : Pos p l e R s m args below meth c Z own ws bd T h k n) : bd ≤ h.size := P.2.2.1
theorem Pos.wa (P : Pos p l e R s m args below meth c Z own ws bd T h k n) : Z.Warmed39 s.vm := P.2.2.2.1
theorem Pos.more (P : Pos p l e R s m args below meth c Z own ws bd T h k n) {k' n' : Nat} (hk : k ≤ k') (hn : n ≤ n') (hk' : k' ≤ R.cells) (hn' : n' ≤ R.slots) : Pos p l e R s m args below meth c Z own ws bd T h k' n' := by
  obtain ⟨⟨L, X, N'⟩, a, b, c, d, f, g, _, _⟩ := P
  exact ⟨⟨L, X.more hk hn, N'⟩, a, b, c, d, f, g, hk', hn'⟩
theorem Pos.cast {k' n' : Nat} (P : Pos p l e R s m args below meth c Z own ws bd T h k n) (hk : k = k') (hn : n = n') : Pos p l e R s m args below meth c Z own ws bd T h k' n' := by subst hk hn; exact P
theorem Done.step {T' : State} {g g' : JFrame} (hs : ∀ t, Steps p.tables e below (T'.setTop g') t → Steps p.tables e below (T.setTop g) t) (D : Done p l e R s m args below meth c Z own ws bd Q T' g') : Done p l e R s m args below meth c Z own ws bd Q T g := by
  obtain ⟨v, T1, h1, k1, n1, P, hv, hq, st⟩ := D
  exact ⟨v, T1, h1, k1, n1, P, hv, hq, fun fs hl => hs _ (st fs hl)⟩
theorem Done.imp {Q' : Option Value → Heap → Prop} {g : JFrame} (D : Done p l e R s m args below meth c Z own ws bd Q T g) (q : ∀ v h, Q v h → Q' v h) : Done p l e R s m args below meth c Z own ws bd Q' T g := by
  obtain ⟨v, T1, h1, k1, n1, P, hv, hq, st⟩ := D
  exact ⟨v, T1, h1, k1, n1, P, hv, q _ _ hq, st⟩
theorem keepOf {u : State} {L : List Loc} (q : s.sameButNew u L k n) (F : Fw ws s.heap.size L) : Keep s.heap u.heap ws := by
  obtain ⟨-, h1, -, -, -, H⟩ := q
  refine ⟨h1, fun x cl hx hn => ?_, fun x cl hx => ?_⟩
  · obtain ⟨c', e1, e2, e3, e4⟩ := H x cl hx
    have hlt := (Array.getElem?_eq_some_iff.mp hx).1
    have es : c'.slots = cl.slots := by
      apply Array.ext_getElem?
      intro i
      exact e4 i fun hm => (F _ hm).elim (fun z => hn z) (fun z => absurd z (Nat.not_le.mpr hlt))
    rw [e1, e2, es]
  · obtain ⟨c', e1, e2, e3, e4⟩ := H x cl hx
    exact ⟨c', e1, by rw [e2], by rw [e2], e3⟩
/-- a contract out of a walk -/
theorem OMet.of {y : MethodName} {bytes : ByteArray} {maxL : Nat} {ret : Option FieldType} {wd : List Cond} {rm : Room} {as' : Array Value} {nm : String} (hy : plainFor y = true) (hyc : y.cls = own) (hyn : y.name = nm)
    (H : ∀ p e s m below meth c s₁, Pos p l e rm s m as' below meth c Z own ws h.size s₁ h 0 0 → c.code = bytes → c.maxLocals = maxL → meth.sig.returnType = ret → meth.name = nm → Done p l e rm s m as' below meth c Z own ws h.size Q s₁ (entryFrame m as' maxL)) :
    OMet l y bytes maxL ret wd rm Z h ws as' Q := by
  subst hyc hyn
  refine MetFree.of_bodySF hy hisR ?_
  intro p e s m args below meth c s₁ Bd hml hP hK
  obtain ⟨rfl, hZ, hh⟩ := hP
  have hown : s.vm.findClass y.cls = some m.cls := findClass_of_methodNamed Bd.named
  have hnm := (name_of_methodNamed Bd.named Bd.method).1
  have X0 : Stand p l e rm s m args below meth c s₁ [] 0 0 := Stand.of_body Bd
  have e0 : s₁.heap = h := by rw [← hh, Bd.state]; rfl
  obtain ⟨v, T', h', k, n, ⟨⟨L, X, N⟩, eT, _, _, _, _, hlk, hk, hnn⟩, hv, hq, st⟩ := H p e s m below meth c s₁ ⟨⟨[], X0, Fw.nil _ _⟩, e0, Nat.le_refl _, hZ, Bd.exec, hown, Bd.notSynchronized, Nat.zero_le _, Nat.zero_le _⟩ Bd.bytes hml Bd.returns hnm
  obtain ⟨fs, hr, hrun, hended, hW, hsame⟩ := X.leave (v := v) hv hlk
  refine ⟨_, _, st fs hr, hrun, hended, v, L, rfl, ⟨?_, N, ?_⟩, ⟨_, rfl⟩, hW, hsame.mono hk hnn⟩
  · rw [show (T'.setFrames fs).heap = T'.heap from rfl, eT]
    exact hq
  · subst hh
    have q := keepOf hsame N
    exact q
/-! returns -/
theorem wRet {w : Value} {t : FieldType} {i : Instr} (P : Pos p l e R s m args below meth c Z own ws bd T h k n) (hret : meth.sig.returnType = some t) (hn : narrow t w = w)
    (hi : (i = .ireturn ∧ (t = .int ∨ t = .boolean ∨ t = .byte ∨ t = .char ∨ t = .short) ∧ ∃ z, w = .int z) ∨ (i = .lreturn ∧ t = .long ∧ ∃ z, w = .long z) ∨ (i = .dreturn ∧ t = .double ∧ ∃ z, w = .double z) ∨ (i = .freturn ∧ t = .float ∧ ∃ z, w = .float z) ∨ (i = .areturn ∧ t.isReference = true ∧ w.isRef = true))
    (hd : decode c.code pc = .ok (i, 1)) (hq : Q (some w) h) : Done p l e R s m args below meth c Z own ws bd Q T (mkF m pc Ls (w :: st)) := by
  obtain ⟨⟨L, X, N'⟩, r⟩ := id P
  exact ⟨some w, T, h, k, n, P, (fun q => by rw [hret] at q; cases q), hq, fun fs hl => retOut X P.x hret hn hi hd hl⟩
theorem wRetI {z : Int32} (P : Pos p l e R s m args below meth c Z own ws bd T h k n) (hret : meth.sig.returnType = some .int) (hd : decode c.code pc = .ok (.ireturn, 1)) (hq : Q (some (.int z)) h) : Done p l e R s m args below meth c Z own ws bd Q T (mkF m pc Ls (.int z :: st)) :=
  wRet P hret rfl (Or.inl ⟨rfl, Or.inl rfl, z, rfl⟩) hd hq
theorem wRetJ {z : Int64} (P : Pos p l e R s m args below meth c Z own ws bd T h k n) (hret : meth.sig.returnType = some .long) (hd : decode c.code pc = .ok (.lreturn, 1)) (hq : Q (some (.long z)) h) : Done p l e R s m args below meth c Z own ws bd Q T (mkF m pc Ls (.long z :: st)) :=
  wRet P hret rfl (Or.inr (Or.inl ⟨rfl, rfl, z, rfl⟩)) hd hq
theorem wRetD {z : UInt64} (P : Pos p l e R s m args below meth c Z own ws bd T h k n) (hret : meth.sig.returnType = some .double) (hd : decode c.code pc = .ok (.dreturn, 1)) (hq : Q (some (.double z)) h) : Done p l e R s m args below meth c Z own ws bd Q T (mkF m pc Ls (.double z :: st)) :=
  wRet P hret rfl (Or.inr (Or.inr (Or.inl ⟨rfl, rfl, z, rfl⟩))) hd hq
theorem wRetA {w : Value} {t : FieldType} (P : Pos p l e R s m args below meth c Z own ws bd T h k n) (hret : meth.sig.returnType = some t) (ht : t.isReference = true) (hw : w.isRef = true) (hd : decode c.code pc = .ok (.areturn, 1)) (hq : Q (some w) h) : Done p l e R s m args below meth c Z own ws bd Q T (mkF m pc Ls (w :: st)) :=
  wRet P hret (by cases w <;> first | rfl | (simp [Value.isRef] at hw; done) | (cases t <;> first | rfl | (simp [FieldType.isReference] at ht))) (Or.inr (Or.inr (Or.inr (Or.inr ⟨rfl, ht, hw⟩)))) hd hq
theorem wRetN {z : Int32} {t : FieldType} (P : Pos p l e R s m args below meth c Z own ws bd T h k n) (hret : meth.sig.returnType = some t) (ht : t = .boolean ∨ t = .byte ∨ t = .char ∨ t = .short) (hd : decode c.code pc = .ok (.ireturn, 1)) (hq : Q (some (.int (nar t z))) h) : Done p l e R s m args below meth c Z own ws bd Q T (mkF m pc Ls (.int z :: st)) := by
  obtain ⟨⟨L, X, N'⟩, r⟩ := id P
  exact ⟨_, T, h, k, n, P, (fun q => by rw [hret] at q; cases q), hq, fun fs hl => retN X P.x hret ht hd hl⟩
theorem wRetV (P : Pos p l e R s m args below meth c Z own ws bd T h k n) (hret : meth.sig.returnType = none) (hd : decode c.code pc = .ok (.return_, 1)) (hq : Q none h) : Done p l e R s m args below meth c Z own ws bd Q T (mkF m pc Ls []) := by
  obtain ⟨⟨L, X, N'⟩, r⟩ := id P
  exact ⟨none, T, h, k, n, P, fun _ => rfl, hq, fun fs hl => X.returnOut P.x hret hd hl⟩
/-! fields -/
theorem wGet {R0 O nm d host : String} {index : Nat} {a : Addr} {v : Value} (P : Pos p l e R s m args below meth c Z own ws bd T h k n) (w : (Cond.fieldLink own index R0 nm d).before a0 Z = true ∨ (Cond.fieldLinkNest own index R0 nm d host).before a0 Z = true) (via : Via Z R0 O nm d) (F : Fld Z h a O nm d v)
    (hd : decode c.code pc = .ok (.getfield index, 3)) (hp : pc + 3 = pc') (K : ∀ T', Pos p l e R s m args below meth c Z own ws bd T' h k n → Done p l e R s m args below meth c Z own ws bd Q T' (mkF m pc' Ls (v :: st))) : Done p l e R s m args below meth c Z own ws bd Q T (mkF m pc Ls (.ref a :: st)) := by
  obtain ⟨⟨L, X, N'⟩, eT, b, hZ, hx, ho, r⟩ := id P
  obtain ⟨T', X', e', stp⟩ := getF X hx hZ ho w via eT F (g := mkF m pc Ls (.ref a :: st)) rfl rfl hd
  subst hp
  exact Done.step stp (K T' ⟨⟨L, X', N'⟩, e', b, hZ, hx, ho, r⟩)
theorem wGetS {R0 O nm d host : String} {index : Nat} {v : Value} (P : Pos p l e R s m args below meth c Z own ws bd T h k n) (w : (Cond.fieldLink own index R0 nm d).before a0 Z = true ∨ (Cond.fieldLinkNest own index R0 nm d host).before a0 Z = true) (via : Via Z R0 O nm d) (F : Sta Z h O nm d v)
    (hd : decode c.code pc = .ok (.getstatic index, 3)) (hp : pc + 3 = pc') (K : ∀ T', Pos p l e R s m args below meth c Z own ws bd T' h k n → Done p l e R s m args below meth c Z own ws bd Q T' (mkF m pc' Ls (v :: st))) : Done p l e R s m args below meth c Z own ws bd Q T (mkF m pc Ls st) := by
  obtain ⟨⟨L, X, N'⟩, eT, b, hZ, hx, ho, r⟩ := id P
  obtain ⟨T', X', e', stp⟩ := getS2 X hx hZ ho w via eT F (g := mkF m pc Ls st) rfl hd
  subst hp
  exact Done.step stp (K T' ⟨⟨L, X', N'⟩, e', b, hZ, hx, ho, r⟩)
theorem wPut {R0 O nm d host C : String} {index kk : Nat} {ty : FieldType} {a : Addr} {v old : Value} (P : Pos p l e R s m args below meth c Z own ws bd T h k n) (w : (Cond.fieldLink own index R0 nm d).before a0 Z = true ∨ (Cond.fieldLinkNest own index R0 nm d host).before a0 Z = true) (via : Via Z R0 O nm d) (F : Fld Z h a O nm d old) (E : Exa Z h a C)
    (La : (Cond.lays C O nm d).before a0 Z = true ∨ ((Cond.laysFinal C O nm d).before a0 Z = true ∧ own = O ∧ meth.name = "<init>")) (wi : (Cond.instantiable C kk).before a0 Z = true) (hty : parseFieldDescriptor d = some ty) (hn : narrow ty v = v) (hf : fits ty v = true) (hge : a ∈ ws ∨ bd ≤ a)
    (hd : decode c.code pc = .ok (.putfield index, 3)) (hp : pc + 3 = pc') (K : ∀ T' h', Pos p l e R s m args below meth c Z own ws bd T' h' k n → Wr h h' a (Jvm.RoadKit.slotOf Z O nm d) v → Fld Z h' a O nm d v → Done p l e R s m args below meth c Z own ws bd Q T' (mkF m pc' Ls st)) : Done p l e R s m args below meth c Z own ws bd Q T (mkF m pc Ls (v :: .ref a :: st)) := by
  obtain ⟨⟨L, X, N'⟩, eT, b, hZ, hx, ho, r⟩ := id P
  obtain ⟨T', h', X', e', W, stp⟩ := putF X hx hZ ho w via eT F E La wi hty hn hf (g := mkF m pc Ls (v :: .ref a :: st)) rfl rfl hd
  subst hp
  exact Done.step stp (K T' h' ⟨⟨_, X', Fw.snoc N' hge⟩, e', by rw [W.size]; exact b, hZ, hx, ho, r⟩ W (F.same W))
theorem wPutN {R0 O nm d C : String} {index kk : Nat} {ty : FieldType} {a : Addr} {x x' : Int32} {old : Value} (P : Pos p l e R s m args below meth c Z own ws bd T h k n) (w : (Cond.fieldLink own index R0 nm d).before a0 Z = true) (via : Via Z R0 O nm d) (F : Fld Z h a O nm d old) (E : Exa Z h a C)
    (La : (Cond.lays C O nm d).before a0 Z = true ∨ ((Cond.laysFinal C O nm d).before a0 Z = true ∧ own = O ∧ meth.name = "<init>")) (wi : (Cond.instantiable C kk).before a0 Z = true) (hty : parseFieldDescriptor d = some ty) (hn : narrow ty (.int x) = .int x') (hf : fits ty (.int x') = true) (hge : a ∈ ws ∨ bd ≤ a)
    (hd : decode c.code pc = .ok (.putfield index, 3)) (hp : pc + 3 = pc') (K : ∀ T' h', Pos p l e R s m args below meth c Z own ws bd T' h' k n → Wr h h' a (Jvm.RoadKit.slotOf Z O nm d) (.int x') → Fld Z h' a O nm d (.int x') → Done p l e R s m args below meth c Z own ws bd Q T' (mkF m pc' Ls st)) : Done p l e R s m args below meth c Z own ws bd Q T (mkF m pc Ls (.int x :: .ref a :: st)) := by
  obtain ⟨⟨L, X, N'⟩, eT, b, hZ, hx, ho, r⟩ := id P
  obtain ⟨T', h', X', e', W, stp⟩ := putFN X hx hZ ho w via eT F E La wi (v' := .int x') hty hn hf (g := mkF m pc Ls (.int x :: .ref a :: st)) rfl rfl hd
  subst hp
  exact Done.step stp (K T' h' ⟨⟨_, X', Fw.snoc N' hge⟩, e', by rw [W.size]; exact b, hZ, hx, ho, r⟩ W (F.same W))
/-! objects and arrays -/
theorem wNew {C : String} {index nn : Nat} (P : Pos p l e R s m args below meth c Z own ws bd T h k n) (w : (Cond.classLink own index C).before a0 Z = true) (wi : (Cond.instantiable C nn).before a0 Z = true) (wz : (Cond.initialized C).before a0 Z = true)
    (hd : decode c.code pc = .ok (.new index, 3)) (hp : pc + 3 = pc') (hc : k + 1 ≤ R.cells) (hl : n + nn ≤ R.slots) {k' n' : Nat} (hk' : k + 1 = k') (hn' : n + nn = n')
    (K : ∀ T' h' a, a = h.size → h.size < h'.size → Pos p l e R s m args below meth c Z own ws bd T' h' k' n' → Ext h h' → Exa Z h' a C → (∀ {O nm d : String} {ty : FieldType}, Laid Z a0 C O nm d → parseFieldDescriptor d = some ty → Fld Z h' a O nm d (defaultValue ty)) → Done p l e R s m args below meth c Z own ws bd Q T' (mkF m pc' Ls (.ref a :: st))) : Done p l e R s m args below meth c Z own ws bd Q T (mkF m pc Ls st) := by
  obtain ⟨⟨L, X, N'⟩, eT, b, hZ, hx, ho, hlk, _, _⟩ := id P
  obtain ⟨T', h', X', e', E, A, D, -, stp⟩ := newO X hx hZ ho w wi wz eT (g := mkF m pc Ls st) rfl hd hc hl
  subst hp hk' hn'
  exact Done.step stp (K T' h' h.size rfl A.lt ⟨⟨L, X', N'⟩, e', Nat.le_trans b E.1, hZ, hx, ho, hlk, hc, hl⟩ E A D)
/-- an array by its places' values -/
def Ar (Z : State) (h : Heap) (a : Addr) (ty : FieldType) (n : Nat) (f : Nat → Value) : Prop := ∃ cl : Cell, Arr Z h a cl ty ∧ cl.slots.size = n ∧ n < 2147483648 ∧ ∀ i, i < n → cl.slots[i]? = some (f i)
def oupd {α : Type} (f : Nat → α) (i : Nat) (v : α) : Nat → α := fun j => if j = i then v else f j
theorem oupd_same {α : Type} (f : Nat → α) (i : Nat) (v : α) : oupd f i v i = v := if_pos rfl
theorem oupd_ne {α : Type} {f : Nat → α} {i j : Nat} {v : α} (q : j ≠ i) : oupd f i v j = f j := if_neg q
theorem Ar.lt {a : Addr} {ty : FieldType} {N : Nat} {f : Nat → Value} (A : Ar Z h a ty N f) : a < h.size := by obtain ⟨c, A, -⟩ := A; exact A.lt
theorem Ar.ext {a : Addr} {ty : FieldType} {N : Nat} {f : Nat → Value} (A : Ar Z h a ty N f) (E : Ext h h') : Ar Z h' a ty N f := by obtain ⟨c, A, r⟩ := A; exact ⟨c, A.ext E, r⟩
theorem Ar.other {a b : Addr} {sl : Nat} {v : Value} {ty : FieldType} {N : Nat} {f : Nat → Value} (A : Ar Z h b ty N f) (W : Wr h h' a sl v) (q : b ≠ a) : Ar Z h' b ty N f := by obtain ⟨c, A, r⟩ := A; exact ⟨c, A.other W q, r⟩
theorem Ar.keep {a : Addr} {ws : List Addr} {ty : FieldType} {N : Nat} {f : Nat → Value} (A : Ar Z h a ty N f) (K : Keep h h' ws) (q : a ∉ ws) : Ar Z h' a ty N f := by obtain ⟨c, A, r⟩ := A; exact ⟨c, ⟨K.2.1 a c A.1 q, A.2⟩, r⟩
theorem Ar.len {a : Addr} {ty : FieldType} {N : Nat} {f : Nat → Value} (A : Ar Z h a ty N f) : N < 2147483648 := by obtain ⟨c, A, r1, r2, -⟩ := A; exact r2
theorem Ar.congr {a : Addr} {ty : FieldType} {N : Nat} {f g : Nat → Value} (A : Ar Z h a ty N f) (q : ∀ i, i < N → f i = g i) : Ar Z h a ty N g := by obtain ⟨c, A, r1, r2, r3⟩ := A; exact ⟨c, A, r1, r2, fun i hi => by rw [← q i hi]; exact r3 i hi⟩
theorem in_of {cl : Cell} {N i : Nat} {j : Int32} (S : cl.slots.size = N) (hj : j.toInt = (i : Int)) (hi : i < N) : ¬ (j < 0 ∨ cl.slots.size ≤ j.toNatClampNeg) ∧ j.toNatClampNeg = i := by
  have e : j.toNatClampNeg = i := by rw [Int32.toNatClampNeg, hj]; omega
  refine ⟨?_, e⟩
  rw [S, e, Int32.lt_iff_toInt_lt, hj, show (0 : Int32).toInt = 0 from rfl]
  omega
theorem toI32 {N : Nat} (h : N < 2147483648) : (N.toInt32).toInt = (N : Int) := by
  rw [show N.toInt32 = Int32.ofNat N from rfl, Int32.toInt_ofNat_of_lt (by omega)]
theorem wNewA {aty : ArrayType} {z : Int32} {N cap : Nat} (P : Pos p l e R s m args below meth c Z own ws bd T h k n) (w : (Cond.arrayClass (newarray.typeOf aty)).before a0 Z = true) (hd : decode c.code pc = .ok (.newarray aty, 2)) (hp : pc + 2 = pc') (hz : z.toInt = (N : Int)) (hcap : N ≤ cap) (hb : cap * 8 ≤ 536870912) (hc : k + 1 ≤ R.cells) (hl : n + cap ≤ R.slots)
    {ad : String} (had : "[" ++ (newarray.typeOf aty).toString = ad) {ty : FieldType} {dv : Value} (hty : newarray.typeOf aty = ty) (hdv : defaultValue ty = dv) {k' n' : Nat} (hk' : k + 1 = k') (hn' : n + cap = n')
    (K : ∀ T' h' a, a = h.size → h.size < h'.size → Pos p l e R s m args below meth c Z own ws bd T' h' k' n' → Ext h h' → Ar Z h' a ty N (fun _ => dv) → Exa Z h' a ad → Done p l e R s m args below meth c Z own ws bd Q T' (mkF m pc' Ls (.ref a :: st))) : Done p l e R s m args below meth c Z own ws bd Q T (mkF m pc Ls (.int z :: st)) := by
  obtain ⟨⟨L, X, N'⟩, eT, b, hZ, hx, ho, hlk, _, _⟩ := id P
  have hz0 : ¬ z < 0 := by rw [Int32.lt_iff_toInt_lt, hz, show (0 : Int32).toInt = 0 from rfl]; omega
  have hzn : z.toNatClampNeg = N := by rw [Int32.toNatClampNeg, hz]; omega
  have hN := z.toInt_lt
  obtain ⟨T', h', kA, X', e', E, A, Ex, stp⟩ := newPE X hx hZ w eT (g := mkF m pc Ls (.int z :: st)) rfl hd rfl hz0 (by rw [hzn]; exact hcap) hb hc hl had
  subst hp hk' hn' hty hdv
  refine Done.step stp (K T' h' h.size rfl A.lt ⟨⟨L, X', N'⟩, e', Nat.le_trans b E.1, hZ, hx, ho, hlk, hc, hl⟩ E ⟨_, A, by rw [sz_new, hzn], by omega, fun i hi => ?_⟩ Ex)
  simp [newA, hzn, hi]
theorem wLen {ty : FieldType} {N : Nat} {f : Nat → Value} {a : Addr} (P : Pos p l e R s m args below meth c Z own ws bd T h k n) (A : Ar Z h a ty N f) {z : Int32} (hz : z.toInt = (N : Int)) (hd : decode c.code pc = .ok (.arraylength, 1)) (hp : pc + 1 = pc')
    (K : Done p l e R s m args below meth c Z own ws bd Q T (mkF m pc' Ls (.int z :: st))) : Done p l e R s m args below meth c Z own ws bd Q T (mkF m pc Ls (.ref a :: st)) := by
  obtain ⟨⟨L, X, N'⟩, eT, b, hZ, hx, ho, hlk, _, _⟩ := id P
  obtain ⟨cl, Ar, S, hN, H⟩ := A
  subst hp
  refine Done.step (fun t kk => X.arraylength hx (by rw [eT]; exact Ar.1) (State.isArrayOf_alike hZ.alike Ar.2.1) (g := mkF m pc Ls (.ref a :: st)) rfl rfl hd t ?_) K
  rw [S, show N.toInt32 = z from Int32.toInt_inj.mp (by rw [toI32 hN, hz])]
  exact kk
theorem wDaload {N i : Nat} {f : Nat → Value} {a : Addr} {j : Int32} (P : Pos p l e R s m args below meth c Z own ws bd T h k n) (A : Ar Z h a .double N f) (hj : j.toInt = (i : Int)) (hi : i < N) {v : Value} (hv : f i = v) (hd : decode c.code pc = .ok (.daload, 1)) (hp : pc + 1 = pc')
    (K : Done p l e R s m args below meth c Z own ws bd Q T (mkF m pc' Ls (v :: st))) : Done p l e R s m args below meth c Z own ws bd Q T (mkF m pc Ls (.int j :: .ref a :: st)) := by
  obtain ⟨⟨L, X, N'⟩, eT, b, hZ, hx, ho, hlk, _, _⟩ := id P
  obtain ⟨cl, Ar, S, hN, H⟩ := A
  obtain ⟨q1, q2⟩ := in_of S hj hi
  subst hp hv
  exact Done.step (fun t kk => X.daload hx (by rw [eT]; exact Ar.1) (State.isArrayOf_alike hZ.alike Ar.2.1) Ar.2.2 q1 (by rw [q2]; exact H i hi) (g := mkF m pc Ls (.int j :: .ref a :: st)) rfl rfl hd t kk) K
theorem wIaload {N i : Nat} {f : Nat → Value} {a : Addr} {j : Int32} (P : Pos p l e R s m args below meth c Z own ws bd T h k n) (A : Ar Z h a .int N f) (hj : j.toInt = (i : Int)) (hi : i < N) {v : Value} (hv : f i = v) (hd : decode c.code pc = .ok (.iaload, 1)) (hp : pc + 1 = pc')
    (K : Done p l e R s m args below meth c Z own ws bd Q T (mkF m pc' Ls (v :: st))) : Done p l e R s m args below meth c Z own ws bd Q T (mkF m pc Ls (.int j :: .ref a :: st)) := by
  obtain ⟨⟨L, X, N'⟩, eT, b, hZ, hx, ho, hlk, _, _⟩ := id P
  obtain ⟨cl, Ar, S, hN, H⟩ := A
  obtain ⟨q1, q2⟩ := in_of S hj hi
  subst hp hv
  exact Done.step (fun t kk => X.iaload hx (by rw [eT]; exact Ar.1) (State.isArrayOf_alike hZ.alike Ar.2.1) Ar.2.2 q1 (by rw [q2]; exact H i hi) (g := mkF m pc Ls (.int j :: .ref a :: st)) rfl rfl hd t kk) K
theorem wCaload {N i : Nat} {f : Nat → Value} {a : Addr} {j : Int32} (P : Pos p l e R s m args below meth c Z own ws bd T h k n) (A : Ar Z h a .char N f) (hj : j.toInt = (i : Int)) (hi : i < N) {v : Value} (hv : f i = v) (hd : decode c.code pc = .ok (.caload, 1)) (hp : pc + 1 = pc')
    (K : Done p l e R s m args below meth c Z own ws bd Q T (mkF m pc' Ls (v :: st))) : Done p l e R s m args below meth c Z own ws bd Q T (mkF m pc Ls (.int j :: .ref a :: st)) := by
  obtain ⟨⟨L, X, N'⟩, eT, b, hZ, hx, ho, hlk, _, _⟩ := id P
  obtain ⟨cl, Ar, S, hN, H⟩ := A
  obtain ⟨q1, q2⟩ := in_of S hj hi
  subst hp hv
  exact Done.step (fun t kk => X.caload hx (by rw [eT]; exact Ar.1) (State.isArrayOf_alike hZ.alike Ar.2.1) Ar.2.2 q1 (by rw [q2]; exact H i hi) (g := mkF m pc Ls (.int j :: .ref a :: st)) rfl rfl hd t kk) K
theorem wAaload {N i : Nat} {f : Nat → Value} {a : Addr} {j : Int32} {ty : FieldType} (P : Pos p l e R s m args below meth c Z own ws bd T h k n) (A : Ar Z h a ty N f) (hty : ty.isReference = true) (hj : j.toInt = (i : Int)) (hi : i < N) {v : Value} (hv : f i = v) (hd : decode c.code pc = .ok (.aaload, 1)) (hp : pc + 1 = pc')
    (K : Done p l e R s m args below meth c Z own ws bd Q T (mkF m pc' Ls (v :: st))) : Done p l e R s m args below meth c Z own ws bd Q T (mkF m pc Ls (.int j :: .ref a :: st)) := by
  obtain ⟨⟨L, X, N'⟩, eT, b, hZ, hx, ho, hlk, _, _⟩ := id P
  obtain ⟨cl, Ar, S, hN, H⟩ := A
  obtain ⟨q1, q2⟩ := in_of S hj hi
  subst hp hv
  exact Done.step (fun t kk => X.aaload hx (by rw [eT]; exact Ar.1) (State.isArrayOf_alike hZ.alike Ar.2.1) hty Ar.2.2 q1 (by rw [q2]; exact H i hi) (g := mkF m pc Ls (.int j :: .ref a :: st)) rfl rfl hd t kk) K
theorem Ar.set {cl : Cell} {a : Addr} {ty : FieldType} {N i : Nat} {f : Nat → Value} {v : Value} (A : Arr Z h a cl ty) (S : cl.slots.size = N) (hN : N < 2147483648) (H : ∀ i, i < N → cl.slots[i]? = some (f i)) (hi : i < N) (W : Wr h h' a i v) : Ar Z h' a ty N (oupd f i v) := by
  refine ⟨cl.setSlot i v, A.same W, by rw [sz_set]; exact S, hN, fun j hj => ?_⟩
  by_cases q : j = i
  · subst q; rw [oupd_same]; exact Cell.slots_setSlot_self v (by omega)
  · rw [oupd_ne q, Cell.slots_setSlot_ne v (Ne.symm q)]; exact H j hj
theorem wDastore {N i : Nat} {f : Nat → UInt64} {a : Addr} {j : Int32} {x : UInt64} (P : Pos p l e R s m args below meth c Z own ws bd T h k n) (A : Ar Z h a .double N (fun i => .double (f i))) (hj : j.toInt = (i : Int)) (hi : i < N) (hge : a ∈ ws ∨ bd ≤ a) (hd : decode c.code pc = .ok (.dastore, 1)) (hp : pc + 1 = pc')
    (K : ∀ T' h', Pos p l e R s m args below meth c Z own ws bd T' h' k n → Wr h h' a i (.double x) → Ar Z h' a .double N (fun j => .double (oupd f i x j)) → Done p l e R s m args below meth c Z own ws bd Q T' (mkF m pc' Ls st)) : Done p l e R s m args below meth c Z own ws bd Q T (mkF m pc Ls (.double x :: .int j :: .ref a :: st)) := by
  obtain ⟨⟨L, X, N'⟩, eT, b, hZ, hx, ho, r⟩ := id P
  obtain ⟨cl, Ar', S, hN, H⟩ := A
  obtain ⟨q1, q2⟩ := in_of S hj hi
  obtain ⟨T', h', X', e', W, stp⟩ := stD X hx hZ eT Ar' q1 (g := mkF m pc Ls (.double x :: .int j :: .ref a :: st)) rfl rfl hd
  subst hp
  rw [q2] at W
  refine Done.step stp (K T' h' ⟨⟨_, X', Fw.snoc N' hge⟩, e', by rw [W.size]; exact b, hZ, hx, ho, r⟩ W ((Ar.set Ar' S hN H hi W).congr fun j _ => ?_))
  unfold oupd; split <;> rfl
theorem wIastore {N i : Nat} {f : Nat → Int32} {a : Addr} {j : Int32} {x : Int32} (P : Pos p l e R s m args below meth c Z own ws bd T h k n) (A : Ar Z h a .int N (fun i => .int (f i))) (hj : j.toInt = (i : Int)) (hi : i < N) (hge : a ∈ ws ∨ bd ≤ a) (hd : decode c.code pc = .ok (.iastore, 1)) (hp : pc + 1 = pc')
    (K : ∀ T' h', Pos p l e R s m args below meth c Z own ws bd T' h' k n → Wr h h' a i (.int x) → Ar Z h' a .int N (fun j => .int (oupd f i x j)) → Done p l e R s m args below meth c Z own ws bd Q T' (mkF m pc' Ls st)) : Done p l e R s m args below meth c Z own ws bd Q T (mkF m pc Ls (.int x :: .int j :: .ref a :: st)) := by
  obtain ⟨⟨L, X, N'⟩, eT, b, hZ, hx, ho, r⟩ := id P
  obtain ⟨cl, Ar', S, hN, H⟩ := A
  obtain ⟨q1, q2⟩ := in_of S hj hi
  obtain ⟨T', h', X', e', W, stp⟩ := stI X hx hZ eT Ar' q1 (g := mkF m pc Ls (.int x :: .int j :: .ref a :: st)) rfl rfl hd
  subst hp
  rw [q2] at W
  refine Done.step stp (K T' h' ⟨⟨_, X', Fw.snoc N' hge⟩, e', by rw [W.size]; exact b, hZ, hx, ho, r⟩ W ((Ar.set Ar' S hN H hi W).congr fun j _ => ?_))
  unfold oupd; split <;> rfl
theorem wCastore {N i : Nat} {f : Nat → Int32} {a : Addr} {j : Int32} {x : Int32} (P : Pos p l e R s m args below meth c Z own ws bd T h k n) (A : Ar Z h a .char N (fun i => .int (f i))) (hj : j.toInt = (i : Int)) (hi : i < N) (hge : a ∈ ws ∨ bd ≤ a) (hd : decode c.code pc = .ok (.castore, 1)) (hp : pc + 1 = pc')
    (K : ∀ T' h', Pos p l e R s m args below meth c Z own ws bd T' h' k n → Wr h h' a i (.int (nar .char x)) → Ar Z h' a .char N (fun j => .int (oupd f i (nar .char x) j)) → Done p l e R s m args below meth c Z own ws bd Q T' (mkF m pc' Ls st)) : Done p l e R s m args below meth c Z own ws bd Q T (mkF m pc Ls (.int x :: .int j :: .ref a :: st)) := by
  obtain ⟨⟨L, X, N'⟩, eT, b, hZ, hx, ho, r⟩ := id P
  obtain ⟨cl, Ar', S, hN, H⟩ := A
  obtain ⟨q1, q2⟩ := in_of S hj hi
  obtain ⟨T', h', X', e', W, stp⟩ := stC X hx hZ eT Ar' q1 (g := mkF m pc Ls (.int x :: .int j :: .ref a :: st)) rfl rfl hd
  subst hp
  rw [q2] at W
  refine Done.step stp (K T' h' ⟨⟨_, X', Fw.snoc N' hge⟩, e', by rw [W.size]; exact b, hZ, hx, ho, r⟩ W ((Ar.set Ar' S hN H hi W).congr fun j _ => ?_))
  unfold oupd; split <;> rfl
theorem wBastore {N i : Nat} {f : Nat → Int32} {a : Addr} {j : Int32} {x : Int32} (P : Pos p l e R s m args below meth c Z own ws bd T h k n) (A : Ar Z h a .byte N (fun i => .int (f i))) (hj : j.toInt = (i : Int)) (hi : i < N) (hge : a ∈ ws ∨ bd ≤ a) (hd : decode c.code pc = .ok (.bastore, 1)) (hp : pc + 1 = pc')
    (K : ∀ T' h', Pos p l e R s m args below meth c Z own ws bd T' h' k n → Wr h h' a i (.int (nar .byte x)) → Ar Z h' a .byte N (fun j => .int (oupd f i (nar .byte x) j)) → Done p l e R s m args below meth c Z own ws bd Q T' (mkF m pc' Ls st)) : Done p l e R s m args below meth c Z own ws bd Q T (mkF m pc Ls (.int x :: .int j :: .ref a :: st)) := by
  obtain ⟨⟨L, X, N'⟩, eT, b, hZ, hx, ho, r⟩ := id P
  obtain ⟨cl, Ar', S, hN, H⟩ := A
  obtain ⟨q1, q2⟩ := in_of S hj hi
  obtain ⟨T', h', X', e', W, stp⟩ := stB X hx hZ eT Ar' q1 (g := mkF m pc Ls (.int x :: .int j :: .ref a :: st)) rfl rfl hd
  subst hp
  rw [q2] at W
  refine Done.step stp (K T' h' ⟨⟨_, X', Fw.snoc N' hge⟩, e', by rw [W.size]; exact b, hZ, hx, ho, r⟩ W ((Ar.set Ar' S hN H hi W).congr fun j _ => ?_))
  unfold oupd; split <;> rfl
theorem wZastore {N i : Nat} {f : Nat → Int32} {a : Addr} {j : Int32} {x : Int32} (P : Pos p l e R s m args below meth c Z own ws bd T h k n) (A : Ar Z h a .boolean N (fun i => .int (f i))) (hj : j.toInt = (i : Int)) (hi : i < N) (hge : a ∈ ws ∨ bd ≤ a) (hd : decode c.code pc = .ok (.bastore, 1)) (hp : pc + 1 = pc')
    (K : ∀ T' h', Pos p l e R s m args below meth c Z own ws bd T' h' k n → Wr h h' a i (.int (nar .boolean x)) → Ar Z h' a .boolean N (fun j => .int (oupd f i (nar .boolean x) j)) → Done p l e R s m args below meth c Z own ws bd Q T' (mkF m pc' Ls st)) : Done p l e R s m args below meth c Z own ws bd Q T (mkF m pc Ls (.int x :: .int j :: .ref a :: st)) := by
  obtain ⟨⟨L, X, N'⟩, eT, b, hZ, hx, ho, r⟩ := id P
  obtain ⟨cl, Ar', S, hN, H⟩ := A
  obtain ⟨q1, q2⟩ := in_of S hj hi
  obtain ⟨T', h', X', e', W, stp⟩ := stZ X hx hZ eT Ar' q1 (g := mkF m pc Ls (.int x :: .int j :: .ref a :: st)) rfl rfl hd
  subst hp
  rw [q2] at W
  refine Done.step stp (K T' h' ⟨⟨_, X', Fw.snoc N' hge⟩, e', by rw [W.size]; exact b, hZ, hx, ho, r⟩ W ((Ar.set Ar' S hN H hi W).congr fun j _ => ?_))
  unfold oupd; split <;> rfl
theorem wBaload {N i : Nat} {f : Nat → Value} {a : Addr} {j : Int32} (P : Pos p l e R s m args below meth c Z own ws bd T h k n) (A : Ar Z h a .byte N f) (hj : j.toInt = (i : Int)) (hi : i < N) {v : Value} (hv : f i = v) (hd : decode c.code pc = .ok (.baload, 1)) (hp : pc + 1 = pc')
    (K : Done p l e R s m args below meth c Z own ws bd Q T (mkF m pc' Ls (v :: st))) : Done p l e R s m args below meth c Z own ws bd Q T (mkF m pc Ls (.int j :: .ref a :: st)) := by
  obtain ⟨⟨L, X, N'⟩, eT, b, hZ, hx, ho, hlk, _, _⟩ := id P
  obtain ⟨cl, Ar, S, hN, H⟩ := A
  obtain ⟨q1, q2⟩ := in_of S hj hi
  subst hp hv
  exact Done.step (fun t kk => X.baloadBytes hx (by rw [eT]; exact Ar.1) (State.isArrayOf_alike hZ.alike Ar.2.1) Ar.2.2 q1 (by rw [q2]; exact H i hi) (g := mkF m pc Ls (.int j :: .ref a :: st)) rfl rfl hd t kk) K
theorem staKeep {C nm d : String} {v : Value} {ws' : List Addr} (F : Sta Z h C nm d v) (K : Keep h h' ws') (hw : ∀ x ∈ ws', ∀ cell : Cell, h[x]? = some cell → cell.vm.isStatics = false) : Sta Z h' C nm d v := by
  obtain ⟨cf, i, k, f, st, cell, h1, h2, h3, h4, h5, h6, r⟩ := F
  exact ⟨cf, i, k, f, st, cell, h1, h2, h3, h4, K.2.1 _ _ h5 (fun q => by rw [hw _ q _ h5] at h6; cases h6), h6, r⟩
theorem wCast {K : String} {index : Nat} {a : Addr} (P : Pos p l e R s m args below meth c Z own ws bd T h k n) (w : (Cond.classLink own index K).before a0 Z = true) (F : Ins Z h a K true) (hd : decode c.code pc = .ok (.checkcast index, 3)) (hp : pc + 3 = pc')
    (K' : ∀ T', Pos p l e R s m args below meth c Z own ws bd T' h k n → Done p l e R s m args below meth c Z own ws bd Q T' (mkF m pc' Ls (.ref a :: st))) : Done p l e R s m args below meth c Z own ws bd Q T (mkF m pc Ls (.ref a :: st)) := by
  obtain ⟨⟨L, X, N'⟩, eT, b, hZ, hx, ho, r⟩ := id P
  obtain ⟨T', X', e', stp⟩ := castY X hx hZ ho w eT F (g := mkF m pc Ls (.ref a :: st)) rfl rfl hd
  subst hp
  exact Done.step stp (K' T' ⟨⟨L, X', N'⟩, e', b, hZ, hx, ho, r⟩)
/-! calls -/
theorem wInit {index : Nat} {a : Addr} {W : Nat} (P : Pos p l e R s m args below meth c Z own ws bd T h k n) (w1 : (Cond.methodLink own index Lib.objectInit).before a0 Z = true) (w2 : (Cond.instanceMethod Lib.objectInit).before a0 Z = true) (w3 : (Cond.code Lib.objectInit ⟨#[0xb1]⟩ 1 none).before a0 Z = true) (hml : Ls.size = c.maxLocals)
    (hd : decode c.code pc = .ok (.invokespecial index, 3)) (hf : 1 ≤ R.frames) (hW : (st.map fun v => v.category).sum ≤ W) (hl : W + 12 ≤ R.locals) (hp : pc + 3 = pc')
    (K : ∀ T', Pos p l e R s m args below meth c Z own ws bd T' h k n → Done p l e R s m args below meth c Z own ws bd Q T' (mkF m pc' Ls st)) : Done p l e R s m args below meth c Z own ws bd Q T (mkF m pc Ls (.ref a :: st)) := by
  obtain ⟨⟨L, X, N'⟩, eT, b, hZ, hx, ho, r⟩ := id P
  obtain ⟨T', X', e', stp⟩ := initO X hx hZ ho w1 w2 w3 eT (g := mkF m pc Ls (.ref a :: st)) rfl hml rfl hd hf (W := W) (by show 2 * 0 + _ ≤ _; omega) hl
  subst hp
  exact Done.step stp (K T' ⟨⟨L, X', N'⟩, e', b, hZ, hx, ho, r⟩)
theorem wCallS {y : MethodName} {bytes : ByteArray} {maxL : Nat} {ret : Option FieldType} {rm : Room} {as' : Array Value} {ws' : List Addr} {Q' : Option Value → Heap → Prop} {index W : Nat} {argsL rest stk : List Value} (P : Pos p l e R s m args below meth c Z own ws bd T h k n) (M : OMet l y bytes maxL ret [] rm Z h ws' as' Q')
    (w1 : (Cond.methodLink own index y).before a0 Z = true) (w2 : (Cond.static y).before a0 Z = true) (w3 : (Cond.initialized y.cls).before a0 Z = true) (w4 : (Cond.code y bytes maxL ret).before a0 Z = true) (hy : y.cls ≠ "java/lang/invoke/MethodHandle" ∧ y.cls ≠ "java/lang/invoke/VarHandle") (hml : Ls.size = c.maxLocals)
    (hlen : ∀ sig, parseMethodDescriptor y.desc = some sig → argsL.length = sig.parameters.length) (has : (argsL).toArray = as') (hst : stk = argsL.reverse ++ rest) (hW : (rest.map fun v => v.category).sum ≤ W) (hf : rm.frames + 1 ≤ R.frames) (hl : W + (maxL + 11) + rm.locals ≤ R.locals) (hc : k + rm.cells ≤ R.cells) (hs : n + rm.slots ≤ R.slots)
    (hws : ∀ x ∈ ws', x ∈ ws ∨ bd ≤ x) (hd : decode c.code pc = .ok (.invokestatic index, 3)) (hp : pc + 3 = pc') {k' n' : Nat} (hk' : k + rm.cells = k') (hn' : n + rm.slots = n')
    (K : ∀ T' h' v, Pos p l e R s m args below meth c Z own ws bd T' h' k' n' → Keep h h' ws' → Q' v h' → Done p l e R s m args below meth c Z own ws bd Q T' (mkF m pc' Ls (v.toList ++ rest))) : Done p l e R s m args below meth c Z own ws bd Q T (mkF m pc Ls stk) := by
  obtain ⟨⟨L, X, N'⟩, eT, b, hZ, hx, ho, hlk, _, _⟩ := id P
  subst hst has hp hk' hn'
  obtain ⟨v, _, ⟨T', L', k1, n1⟩, -, X', ⟨Lc, hq, l', y', z'⟩, stp⟩ := Jvm.LawKit.callS X hx (y := y) ho (mvT hZ w1) (mvT hZ w2) (mvT hZ w3) (mvT hZ w4) hy (backOf (W := W) (Q := fun v h' L => Q' v h' ∧ Fw ws' h.size L ∧ Keep h h' ws') M hZ w4 w3 hf hl) (g := mkF m pc Ls (argsL.reverse ++ rest)) rfl hml (argsL := argsL) (rest := rest) hlen rfl (by show 2 * 0 + _ ≤ _; omega) hd (fun _ _ => ⟨rfl, eT, hc, hs⟩)
  dsimp only [Pt.U, Pt.locs, Pt.cells, Pt.slots] at X' l' y' z' stp hq
  subst l' y' z'
  exact Done.step (stp) (K T' T'.heap v ⟨⟨_, X', N'.app fun y hy => (hq.2.1 y hy).elim (fun q => hws _ q) (fun q => Or.inr (Nat.le_trans b q))⟩, rfl, Nat.le_trans b hq.2.2.1, hZ, hx, ho, hlk, hc, hs⟩ hq.2.2 hq.1)
theorem wCallI {y : MethodName} {bytes : ByteArray} {maxL : Nat} {rm : Room} {as' : Array Value} {ws' : List Addr} {Q' : Option Value → Heap → Prop} {index W : Nat} {argsL rest stk : List Value} {a : Addr} (P : Pos p l e R s m args below meth c Z own ws bd T h k n) (M : OMet l y bytes maxL none [] rm Z h ws' as' Q')
    (hyn : y.name = "<init>") (w1 : (Cond.methodLink own index y).before a0 Z = true) (w2 : (Cond.instanceMethod y).before a0 Z = true) (w3 : (Cond.initialized y.cls).before a0 Z = true) (w4 : (Cond.code y bytes maxL none).before a0 Z = true) (hy : y.cls ≠ "java/lang/invoke/MethodHandle" ∧ y.cls ≠ "java/lang/invoke/VarHandle") (hml : Ls.size = c.maxLocals)
    (hlen : ∀ sig, parseMethodDescriptor y.desc = some sig → argsL.length = sig.parameters.length) (has : (.ref a :: argsL).toArray = as') (hst : stk = argsL.reverse ++ .ref a :: rest) (hW : (rest.map fun v => v.category).sum ≤ W) (hf : rm.frames + 1 ≤ R.frames) (hl : W + (maxL + 11) + rm.locals ≤ R.locals) (hc : k + rm.cells ≤ R.cells) (hs : n + rm.slots ≤ R.slots)
    (hws : ∀ x ∈ ws', x ∈ ws ∨ bd ≤ x) (hd : decode c.code pc = .ok (.invokespecial index, 3)) (hp : pc + 3 = pc') {k' n' : Nat} (hk' : k + rm.cells = k') (hn' : n + rm.slots = n')
    (K : ∀ T' h' v, Pos p l e R s m args below meth c Z own ws bd T' h' k' n' → Keep h h' ws' → Q' v h' → Done p l e R s m args below meth c Z own ws bd Q T' (mkF m pc' Ls (v.toList ++ rest))) : Done p l e R s m args below meth c Z own ws bd Q T (mkF m pc Ls stk) := by
  obtain ⟨⟨L, X, N'⟩, eT, b, hZ, hx, ho, hlk, _, _⟩ := id P
  subst hst has hp hk' hn'
  obtain ⟨v, _, ⟨T', L', k1, n1⟩, -, X', ⟨Lc, hq, l', y', z'⟩, stp⟩ := X.specialBack hx (y := y) hyn ho (mvT hZ w1) (mvT hZ w2) (mvT hZ w4) hy (backOf (W := W) (Q := fun v h' L => Q' v h' ∧ Fw ws' h.size L ∧ Keep h h' ws') M hZ w4 w3 hf hl) (g := mkF m pc Ls (argsL.reverse ++ .ref a :: rest)) rfl hml (Steps.refl _) (a := a) (argsL := argsL) (rest := rest) hlen rfl (by show 2 * 0 + _ ≤ _; omega) hd (fun _ _ => ⟨rfl, eT, hc, hs⟩)
  dsimp only [Pt.U, Pt.locs, Pt.cells, Pt.slots] at X' l' y' z' stp hq
  subst l' y' z'
  exact Done.step (fun t kk => stp.trans kk) (K T' T'.heap v ⟨⟨_, X', N'.app fun y hy => (hq.2.1 y hy).elim (fun q => hws _ q) (fun q => Or.inr (Nat.le_trans b q))⟩, rfl, Nat.le_trans b hq.2.2.1, hZ, hx, ho, hlk, hc, hs⟩ hq.2.2 hq.1)
theorem wCallV {y : MethodName} {bytes : ByteArray} {maxL : Nat} {ret : Option FieldType} {rm : Room} {as' : Array Value} {ws' : List Addr} {Q' : Option Value → Heap → Prop} {index W : Nat} {argsL rest stk : List Value} {z : MethodName} {C : String} {a : Addr} (P : Pos p l e R s m args below meth c Z own ws bd T h k n) (M : OMet l z bytes maxL ret [] rm Z h ws' as' Q')
    (w1 : (Cond.methodLink own index y).before a0 Z = true) (w2 : (Cond.declares y).before a0 Z = true) (w5 : (Cond.selects C y z).before a0 Z = true) {D : String} (w7 : (Cond.selects D y y).before a0 Z = true) (w6 : (Cond.instanceMethod z).before a0 Z = true) (w3 : (Cond.initialized z.cls).before a0 Z = true) (w4 : (Cond.code z bytes maxL ret).before a0 Z = true) (hy : y.cls ≠ "java/lang/invoke/MethodHandle" ∧ y.cls ≠ "java/lang/invoke/VarHandle") (E : Exa Z h a C) (hml : Ls.size = c.maxLocals)
    (hlen : ∀ sig, parseMethodDescriptor y.desc = some sig → argsL.length = sig.parameters.length) (has : (.ref a :: argsL).toArray = as') (hst : stk = argsL.reverse ++ .ref a :: rest) (hW : (rest.map fun v => v.category).sum ≤ W) (hf : rm.frames + 1 ≤ R.frames) (hl : W + (maxL + 11) + rm.locals ≤ R.locals) (hc : k + rm.cells ≤ R.cells) (hs : n + rm.slots ≤ R.slots)
    (hws : ∀ x ∈ ws', x ∈ ws ∨ bd ≤ x) (hd : decode c.code pc = .ok (.invokevirtual index, 3)) (hp : pc + 3 = pc') {k' n' : Nat} (hk' : k + rm.cells = k') (hn' : n + rm.slots = n')
    (K : ∀ T' h' v, Pos p l e R s m args below meth c Z own ws bd T' h' k' n' → Keep h h' ws' → Q' v h' → Done p l e R s m args below meth c Z own ws bd Q T' (mkF m pc' Ls (v.toList ++ rest))) : Done p l e R s m args below meth c Z own ws bd Q T (mkF m pc Ls stk) := by
  obtain ⟨⟨L, X, N'⟩, eT, b, hZ, hx, ho, hlk, _, _⟩ := id P
  subst hst has hp hk' hn'
  obtain ⟨cq, kq, qa, qb, qc⟩ := isOf hZ eT E
  obtain ⟨v, _, ⟨T', L', k1, n1⟩, -, X', ⟨Lc, hq, l', y', z'⟩, stp⟩ := X.virtualBack hx (y := y) (z := z) ho (mvT hZ w1) (mvT hZ w2) (notFace_of_selects (args := #[]) (mvT hZ w7)) (mvT hZ w5) (mvT hZ w6) hy (backOf (W := W) (Q := fun v h' L => Q' v h' ∧ Fw ws' h.size L ∧ Keep h h' ws') M hZ w4 w3 hf hl) qa qc (g := mkF m pc Ls (argsL.reverse ++ .ref a :: rest)) rfl hml (Steps.refl _) (argsL := argsL) (rest := rest) hlen rfl (by show 2 * 0 + _ ≤ _; omega) hd (fun _ _ => ⟨rfl, eT, hc, hs⟩)
  dsimp only [Pt.U, Pt.locs, Pt.cells, Pt.slots] at X' l' y' z' stp hq
  subst l' y' z'
  exact Done.step (fun t kk => stp.trans kk) (K T' T'.heap v ⟨⟨_, X', N'.app fun y hy => (hq.2.1 y hy).elim (fun q => hws _ q) (fun q => Or.inr (Nat.le_trans b q))⟩, rfl, Nat.le_trans b hq.2.2.1, hZ, hx, ho, hlk, hc, hs⟩ hq.2.2 hq.1)
theorem wCallP {y : MethodName} {bytes : ByteArray} {maxL : Nat} {ret : Option FieldType} {rm : Room} {as' : Array Value} {ws' : List Addr} {Q' : Option Value → Heap → Prop} {index W kk : Nat} {argsL rest stk : List Value} {a : Addr} {C : String} (P : Pos p l e R s m args below meth c Z own ws bd T h k n) (M : OMet l y bytes maxL ret [] rm Z h ws' as' Q')
    (w1 : (Cond.methodLink own index y).before a0 Z = true) (w2 : (Cond.instanceMethod y).before a0 Z = true) (w5 : (Cond.privateMethod y).before a0 Z = true) (wi : (Cond.instantiable y.cls kk).before a0 Z = true) (w3 : (Cond.initialized y.cls).before a0 Z = true) (w4 : (Cond.code y bytes maxL ret).before a0 Z = true) (hy : y.cls ≠ "java/lang/invoke/MethodHandle" ∧ y.cls ≠ "java/lang/invoke/VarHandle") (E : Exa Z h a C) (hml : Ls.size = c.maxLocals)
    (hlen : ∀ sig, parseMethodDescriptor y.desc = some sig → argsL.length = sig.parameters.length) (has : (.ref a :: argsL).toArray = as') (hst : stk = argsL.reverse ++ .ref a :: rest) (hW : (rest.map fun v => v.category).sum ≤ W) (hf : rm.frames + 1 ≤ R.frames) (hl : W + (maxL + 11) + rm.locals ≤ R.locals) (hc : k + rm.cells ≤ R.cells) (hs : n + rm.slots ≤ R.slots)
    (hws : ∀ x ∈ ws', x ∈ ws ∨ bd ≤ x) (hd : decode c.code pc = .ok (.invokevirtual index, 3)) (hp : pc + 3 = pc') {k' n' : Nat} (hk' : k + rm.cells = k') (hn' : n + rm.slots = n')
    (K : ∀ T' h' v, Pos p l e R s m args below meth c Z own ws bd T' h' k' n' → Keep h h' ws' → Q' v h' → Done p l e R s m args below meth c Z own ws bd Q T' (mkF m pc' Ls (v.toList ++ rest))) : Done p l e R s m args below meth c Z own ws bd Q T (mkF m pc Ls stk) := by
  obtain ⟨⟨L, X, N'⟩, eT, b, hZ, hx, ho, hlk, _, _⟩ := id P
  subst hst has hp hk' hn'
  obtain ⟨cl, hcl, hst⟩ := E.cell
  have hpr : s.PrivateAt y := Cond.privateMethod_at (mvP hZ w5 (args := #[]))
  obtain ⟨ci, ki, hi1, hi2, -, hi3, -⟩ := Cond.instantiable_spec (mvT hZ wi : (Cond.instantiable y.cls kk).before args s = true)
  have hsel : (Cond.selects y.cls y y).before args s = true := selects_self_of_private hi1 hi2 (by simp only [Bool.or_eq_false_iff] at hi3; exact hi3.1) hpr (mvT hZ w2) hy
  obtain ⟨v, _, ⟨T', L', k1, n1⟩, -, X', ⟨Lc, hq, l', y', z'⟩, stp⟩ := X.privateBack hx (y := y) ho (mvT hZ w1) (mvT hZ w2) hsel hpr (mvT hZ w4) hy (backOf (W := W) (Q := fun v h' L => Q' v h' ∧ Fw ws' h.size L ∧ Keep h h' ws') M hZ w4 w3 hf hl) (g := mkF m pc Ls (argsL.reverse ++ .ref a :: rest)) rfl hml (Steps.refl _) (a := a) (by rw [eT]; exact hcl) hst (argsL := argsL) (rest := rest) hlen rfl (by show 2 * 0 + _ ≤ _; omega) hd (fun _ _ => ⟨rfl, eT, hc, hs⟩)
  dsimp only [Pt.U, Pt.locs, Pt.cells, Pt.slots] at X' l' y' z' stp hq
  subst l' y' z'
  exact Done.step (fun t kk => stp.trans kk) (K T' T'.heap v ⟨⟨_, X', N'.app fun y hy => (hq.2.1 y hy).elim (fun q => hws _ q) (fun q => Or.inr (Nat.le_trans b q))⟩, rfl, Nat.le_trans b hq.2.2.1, hZ, hx, ho, hlk, hc, hs⟩ hq.2.2 hq.1)
/-- a call that the machine answers itself -/
theorem wNat {y : MethodName} {by0 : ByteArray} {ml : Nat} {rt : Option FieldType} {index W : Nat} {F : Array Value → Prop} {val : Value} {argsL rest stk : List Value} (P : Pos p l e R s m args below meth c Z own ws bd T h k n)
    (w1 : (Cond.methodLink own index y).before a0 Z = true) (w2 : (Cond.static y).before a0 Z = true) (w3 : (Cond.initialized y.cls).before a0 Z = true) (w4 : (Cond.code y by0 ml rt).before a0 Z = true) (hy : y.cls ≠ "java/lang/invoke/MethodHandle" ∧ y.cls ≠ "java/lang/invoke/VarHandle")
    (hK : (Cond.code y by0 ml rt).before args s = true → Back l R p e below s args y 3 W (fun A a' => A.cells ≤ R.cells ∧ A.slots ≤ R.slots ∧ F a') (fun A _ v B => v = some val ∧ B = A)) (hml : Ls.size = c.maxLocals)
    (hlen : ∀ sig, parseMethodDescriptor y.desc = some sig → argsL.length = sig.parameters.length) (hst : stk = argsL.reverse ++ rest) (hW : (rest.map fun v => v.category).sum ≤ W) (hd : decode c.code pc = .ok (.invokestatic index, 3)) (hp : pc + 3 = pc') (hF : F argsL.toArray)
    (K : ∀ T', Pos p l e R s m args below meth c Z own ws bd T' h k n → Done p l e R s m args below meth c Z own ws bd Q T' (mkF m pc' Ls (val :: rest))) : Done p l e R s m args below meth c Z own ws bd Q T (mkF m pc Ls stk) := by
  obtain ⟨⟨L, X, N'⟩, eT, b, hZ, hx, ho, hlk, hc, hs⟩ := id P
  subst hst hp
  obtain ⟨T', X', e', stp⟩ := natS X hx hZ ho w1 w2 w3 w4 hy eT hK (g := mkF m pc Ls (argsL.reverse ++ rest)) rfl hml hlen rfl (by show 2 * 0 + _ ≤ _; omega) hd hc hs hF rfl
  exact Done.step stp (K T' ⟨⟨L, X', N'⟩, e', b, hZ, hx, ho, hlk, hc, hs⟩)
theorem Fw.toFr {bd : Nat} {L : List Loc} (N : Fw [] bd L) : Fr bd L := fun y hy => (N y hy).resolve_left (by simp)
theorem Fw.ofFr {ws : List Addr} {bd : Nat} {L : List Loc} (N : Fr bd L) : Fw ws bd L := fun y hy => Or.inr (N y hy)
theorem n32 {N : Nat} (h : N < 2147483648) : ¬ Int32.ofNat N < 0 ∧ (Int32.ofNat N).toNatClampNeg = N := by
  have e : (Int32.ofNat N).toInt = (N : Int) := Int32.toInt_ofNat_of_lt (by omega)
  refine ⟨?_, by rw [Int32.toNatClampNeg, e]; omega⟩
  rw [Int32.lt_iff_toInt_lt, e, show (0 : Int32).toInt = 0 from rfl]; omega
theorem Ar.toArv {a : Addr} {ty : FieldType} {N : Nat} {f : Nat → Value} (A : Ar Z h a ty N f) (dv : Value) (hf : ∀ i, fits ty (f i) = true) (hd : fits ty dv = true) : ∃ kA, Arv Z h a kA ty (Int32.ofNat N) ((List.range N).map f) dv := by
  obtain ⟨cl, Ar, S, hN, H⟩ := A
  have g : ∀ i, i < N → ((List.range N).map f).getD i dv = f i := fun i hi => by simp [List.getD_eq_getElem?_getD, hi]
  refine ⟨cl.cls, cl, Ar, rfl, by rw [(n32 hN).2, S], (n32 hN).1, fun i hi => ?_, fun i hi => ?_⟩
  · rw [g i (by omega)]; exact H i (by omega)
  · rw [g i (by omega)]; exact hf i
theorem Ar.ofArv {a : Addr} {ty : FieldType} {kA : ClassId} {N : Nat} {vs : List Value} {dv : Value} (hN : N < 2147483648) (A : Arv Z h a kA ty (Int32.ofNat N) vs dv) : Ar Z h a ty N (fun i => vs.getD i dv) := by
  obtain ⟨cl, Ar, -, S, -, H, -⟩ := A
  rw [(n32 hN).2] at S
  exact ⟨cl, Ar, S, hN, fun i hi => H i (by omega)⟩
/-- a copy of an array of doubles -/
theorem wClone {N cap index W : Nat} {f : Nat → UInt64} {a : Addr} (P : Pos p l e R s m args below meth c Z own ws bd T h k n) (A : Ar Z h a .double N (fun i => .double (f i))) (E : Exa Z h a "[D")
    (w1 : (Cond.methodLink own index ⟨"[D", "clone", "()Ljava/lang/Object;"⟩).before a0 Z = true) (w2 : (Cond.sameMethod "[D" "java/lang/Object" "clone" "()Ljava/lang/Object;").before a0 Z = true) (w3 : (Cond.native ⟨"java/lang/Object", "clone", "()Ljava/lang/Object;"⟩).before a0 Z = true)
    (w4 : (Cond.instanceMethod ⟨"java/lang/Object", "clone", "()Ljava/lang/Object;"⟩).before a0 Z = true) (w5 : (Cond.selects "[D" ⟨"[D", "clone", "()Ljava/lang/Object;"⟩ ⟨"java/lang/Object", "clone", "()Ljava/lang/Object;"⟩).before a0 Z = true) (w6 : (Cond.castable "[D" "java/lang/Cloneable").before a0 Z = true)
    (hml : Ls.size = c.maxLocals) (hd : decode c.code pc = .ok (.invokevirtual index, 3)) (hp : pc + 3 = pc') (hf : 1 ≤ R.frames) (hW : (st.map fun v => v.category).sum ≤ W) (hl : W + 14 ≤ R.locals) (hcap : N ≤ cap) (hc : k + 1 ≤ R.cells) (hsl : n + cap ≤ R.slots) {k' n' : Nat} (hk' : k + 1 = k') (hn' : n + cap = n')
    (K : ∀ T' h' b, b = h.size → h.size < h'.size → Pos p l e R s m args below meth c Z own ws bd T' h' k' n' → Ext h h' → Ar Z h' b .double N (fun i => .double (f i)) → Exa Z h' b "[D" → Done p l e R s m args below meth c Z own ws bd Q T' (mkF m pc' Ls (.ref b :: st))) : Done p l e R s m args below meth c Z own ws bd Q T (mkF m pc Ls (.ref a :: st)) := by
  obtain ⟨⟨L, X, N'⟩, eT, b, hZ, hx, ho, hlk, _, _⟩ := id P
  obtain ⟨cl, Ar, S, hN, H⟩ := A
  have FC : FitC Z cl := fitC_of Ar fun i hi v hv => by rw [H i (by omega)] at hv; cases hv; rfl
  obtain ⟨T', h', X', e', ex, A', E', stp⟩ := cloneA X hx hZ ho w1 w2 w3 w4 w5 w6 eT Ar E FC (g := mkF m pc Ls (.ref a :: st)) rfl hml rfl hd hf (W := W) (by show 2 * 0 + _ ≤ _; omega) hl (cap := cap) (by omega) hc hsl
  subst hp hk' hn'
  exact Done.step stp (K T' h' h.size rfl A'.lt ⟨⟨L, X', N'⟩, e', Nat.le_trans b ex.1, hZ, hx, ho, hlk, hc, hsl⟩ ex ⟨_, A', S, hN, H⟩ E')
/-- System.arraycopy of the first places of an array of doubles into a fresh one -/
theorem wCopyD {N M K0 index W : Nat} {f g : Nat → UInt64} {a b : Addr} {nn : Int32} (P : Pos p l e R s m args below meth c Z own [] bd T h k n) (A : Ar Z h a .double N (fun i => .double (f i))) (B : Ar Z h b .double M (fun i => .double (g i))) (hnn : nn.toInt = (K0 : Int)) (h1 : K0 ≤ N) (h2 : K0 ≤ M) (ge : bd ≤ b)
    (w1 : (Cond.methodLink own index Jvm.Stand.acN).before a0 Z = true) (w2 : (Cond.native Jvm.Stand.acN).before a0 Z = true) (w3 : (Cond.static Jvm.Stand.acN).before a0 Z = true) (w4 : (Cond.initialized "java/lang/System").before a0 Z = true)
    (hml : Ls.size = c.maxLocals) (hd : decode c.code pc = .ok (.invokestatic index, 3)) (hp : pc + 3 = pc') (hf : 1 ≤ R.frames) (hW : (st.map fun v => v.category).sum ≤ W) (hlo : W + (nativeFrameWords "java/lang/System" "arraycopy" 5 + 11) ≤ R.locals)
    (K : ∀ T' h', Pos p l e R s m args below meth c Z own [] bd T' h' k n → Keep h h' [b] → Ar Z h' b .double M (fun i => .double (if i < K0 then f i else g i)) → Done p l e R s m args below meth c Z own [] bd Q T' (mkF m pc' Ls st)) :
    Done p l e R s m args below meth c Z own [] bd Q T (mkF m pc Ls (.int nn :: .int 0 :: .ref b :: .int 0 :: .ref a :: st)) := by
  obtain ⟨⟨L, X, N'⟩, eT, hb', hZ, hx, ho, r⟩ := id P
  have hN := A.len
  have hM := B.len
  obtain ⟨kA, VA⟩ := A.toArv (.double 0) (fun _ => rfl) rfl
  obtain ⟨kB, VB⟩ := B.toArv (.double 0) (fun _ => rfl) rfl
  have z0 : ¬ (0 : Int32) < 0 := by decide
  have z1 : (0 : Int32).toNatClampNeg = 0 := by decide
  have q0 : ¬ nn < 0 := by rw [Int32.lt_iff_toInt_lt, hnn, show (0 : Int32).toInt = 0 from rfl]; omega
  have q1 : nn.toNatClampNeg = K0 := by rw [Int32.toNatClampNeg, hnn]; omega
  obtain ⟨T', h', L', X', e', F', Kp, V', stp⟩ := cpA X hx hZ ho w1 w2 w3 w4 eT VA VB (Or.inl ⟨rfl, rfl⟩) z0 z0 q0 (by rw [z1, q1, (n32 hN).2]; omega) (by rw [z1, q1, (n32 hM).2]; omega) rfl (by rw [z1, q1]; simp; omega) (n0 := bd) N'.toFr ge (g := mkF m pc Ls (.int nn :: .int 0 :: .ref b :: .int 0 :: .ref a :: st)) rfl hml rfl hd hf (W := W) (by show 2 * 0 + _ ≤ _; omega) hlo
  subst hp
  refine Done.step stp (K T' h' ⟨⟨L', X', Fw.ofFr F'⟩, e', Nat.le_trans hb' Kp.1, hZ, hx, ho, r⟩ Kp ((Ar.ofArv hM V').congr fun i hi => ?_))
  rw [z1, q1]
  by_cases q : i < K0
  · rw [if_pos q]
    simp [List.getD_eq_getElem?_getD, List.getElem?_append, q]
    rw [List.getElem?_range (by omega)]
    rfl
  · rw [if_neg q]
    simp [List.getD_eq_getElem?_getD, List.getElem?_append, q]
    have e2 : K0 + (i - K0) = i := by omega
    simp [e2, hi]
/-! constants and references -/
theorem pLdcI {index : Nat} {v : Int32} {t : State} (P : Pos p l e R s m args below meth c Z own ws bd T h k n) (w : (Cond.constant own index v).before a0 Z = true) (hd : decode c.code pc = .ok (.ldc index, 2)) (hp : pc + 2 = pc') (kk : Steps p.tables e below (T.setTop (mkF m pc' Ls (.int v :: st))) t) : Steps p.tables e below (T.setTop (mkF m pc Ls st)) t := by
  obtain ⟨⟨L, X, N'⟩, eT, b, hZ, hx, ho, hlk, _, _⟩ := id P
  subst hp
  exact X.ldcI hx ho (mvT hZ w) (g := mkF m pc Ls st) rfl hd kk
theorem pLdcIw {index : Nat} {v : Int32} {t : State} (P : Pos p l e R s m args below meth c Z own ws bd T h k n) (w : (Cond.constant own index v).before a0 Z = true) (hd : decode c.code pc = .ok (.ldc_w index, 3)) (hp : pc + 3 = pc') (kk : Steps p.tables e below (T.setTop (mkF m pc' Ls (.int v :: st))) t) : Steps p.tables e below (T.setTop (mkF m pc Ls st)) t := by
  obtain ⟨⟨L, X, N'⟩, eT, b, hZ, hx, ho, hlk, _, _⟩ := id P
  subst hp
  exact X.ldcWI hx ho (mvT hZ w) (g := mkF m pc Ls st) rfl hd kk
theorem pLdcJ {index : Nat} {v : Int64} {t : State} (P : Pos p l e R s m args below meth c Z own ws bd T h k n) (w : (Cond.constantLong own index v).before a0 Z = true) (hd : decode c.code pc = .ok (.ldc2_w index, 3)) (hp : pc + 3 = pc') (kk : Steps p.tables e below (T.setTop (mkF m pc' Ls (.long v :: st))) t) : Steps p.tables e below (T.setTop (mkF m pc Ls st)) t := by
  obtain ⟨⟨L, X, N'⟩, eT, b, hZ, hx, ho, hlk, _, _⟩ := id P
  subst hp
  exact X.ldc2J hx ho (mvT hZ w) (g := mkF m pc Ls st) rfl hd kk
theorem pLdcD {index : Nat} {v : UInt64} {t : State} (P : Pos p l e R s m args below meth c Z own ws bd T h k n) (w : (Cond.constantDouble own index v).before a0 Z = true) (hd : decode c.code pc = .ok (.ldc2_w index, 3)) (hp : pc + 3 = pc') (kk : Steps p.tables e below (T.setTop (mkF m pc' Ls (.double v :: st))) t) : Steps p.tables e below (T.setTop (mkF m pc Ls st)) t := by
  obtain ⟨⟨L, X, N'⟩, eT, b, hZ, hx, ho, hlk, _, _⟩ := id P
  subst hp
  exact X.ldc2DoubleC hx ho (mvT hZ w) (g := mkF m pc Ls st) rfl hd t kk
theorem pAcmp {cd : ACond} {x y : Value} {rest stk : List Value} {o : Int} {pc0 : Nat} {same : Bool} {t : State} (P : Pos p l e R s m args below meth c Z own ws bd T h k n) (h1 : x.isRef = true) (h2 : y.isRef = true) (hpc : pc = pc0) (hd : decode c.code pc = .ok (.if_acmp cd o, 3)) (hs : stk = y :: x :: rest) (hq : decide (x = y) = same) (ho : 0 ≤ (pc0 : Int) + o)
    (hp : pc' = if acV cd same = true then ((pc0 : Int) + o).toNat else pc0 + 3) (kk : Steps p.tables e below (T.setTop (mkF m pc' Ls rest)) t) : Steps p.tables e below (T.setTop (mkF m pc Ls stk)) t := by
  obtain ⟨⟨L, X, N'⟩, eT, b, hZ, hx, ho', hlk, _, _⟩ := id P
  exact Jvm.RoadKit.acmp (g := mkF m pc Ls stk) X hx rfl h1 h2 (pc0 := pc0) (pc' := pc') (same := same) hpc hd hs hq ho hp kk
end A
/-! conditions of branches -/
theorem iiW_lt_t {x y : Int32} (h : x < y) : if_icmp.holds .lt x y = true := (tlt h).1
theorem iiW_lt_f {x y : Int32} (h : ¬ (x < y)) : if_icmp.holds .lt x y = false := (flt h).1
theorem iiW_ge_t {x y : Int32} (h : ¬ (x < y)) : if_icmp.holds .ge x y = true := (flt h).2.1
theorem iiW_ge_f {x y : Int32} (h : ¬ ¬ (x < y)) : if_icmp.holds .ge x y = false := (tlt (Decidable.not_not.mp h)).2.1
theorem iiW_gt_t {x y : Int32} (h : y < x) : if_icmp.holds .gt x y = true := (tlt h).2.2.1
theorem iiW_gt_f {x y : Int32} (h : ¬ (y < x)) : if_icmp.holds .gt x y = false := (flt h).2.2.1
theorem iiW_le_t {x y : Int32} (h : ¬ (y < x)) : if_icmp.holds .le x y = true := (flt h).2.2.2
theorem iiW_le_f {x y : Int32} (h : ¬ ¬ (y < x)) : if_icmp.holds .le x y = false := (tlt (Decidable.not_not.mp h)).2.2.2
theorem iiW_eq_t {x y : Int32} (h : x = y) : if_icmp.holds .eq x y = true := (teq h).1
theorem iiW_eq_f {x y : Int32} (h : ¬ (x = y)) : if_icmp.holds .eq x y = false := (feq h).1
theorem iiW_ne_t {x y : Int32} (h : ¬ (x = y)) : if_icmp.holds .ne x y = true := (feq h).2
theorem iiW_ne_f {x y : Int32} (h : ¬ ¬ (x = y)) : if_icmp.holds .ne x y = false := (teq (Decidable.not_not.mp h)).2
theorem i0W_lt_t {x : Int32} (h : x < (0 : Int32)) : ifCond.holds .lt x = true := (if0 _ _).trans (iiW_lt_t h)
theorem i0W_lt_f {x : Int32} (h : ¬ (x < (0 : Int32))) : ifCond.holds .lt x = false := (if0 _ _).trans (iiW_lt_f h)
theorem i0W_ge_t {x : Int32} (h : ¬ (x < (0 : Int32))) : ifCond.holds .ge x = true := (if0 _ _).trans (iiW_ge_t h)
theorem i0W_ge_f {x : Int32} (h : ¬ ¬ (x < (0 : Int32))) : ifCond.holds .ge x = false := (if0 _ _).trans (iiW_ge_f h)
theorem i0W_gt_t {x : Int32} (h : (0 : Int32) < x) : ifCond.holds .gt x = true := (if0 _ _).trans (iiW_gt_t h)
theorem i0W_gt_f {x : Int32} (h : ¬ ((0 : Int32) < x)) : ifCond.holds .gt x = false := (if0 _ _).trans (iiW_gt_f h)
theorem i0W_le_t {x : Int32} (h : ¬ ((0 : Int32) < x)) : ifCond.holds .le x = true := (if0 _ _).trans (iiW_le_t h)
theorem i0W_le_f {x : Int32} (h : ¬ ¬ ((0 : Int32) < x)) : ifCond.holds .le x = false := (if0 _ _).trans (iiW_le_f h)
theorem i0W_eq_t {x : Int32} (h : x = (0 : Int32)) : ifCond.holds .eq x = true := (if0 _ _).trans (iiW_eq_t h)
theorem i0W_eq_f {x : Int32} (h : ¬ (x = (0 : Int32))) : ifCond.holds .eq x = false := (if0 _ _).trans (iiW_eq_f h)
theorem i0W_ne_t {x : Int32} (h : ¬ (x = (0 : Int32))) : ifCond.holds .ne x = true := (if0 _ _).trans (iiW_ne_t h)
theorem i0W_ne_f {x : Int32} (h : ¬ ¬ (x = (0 : Int32))) : ifCond.holds .ne x = false := (if0 _ _).trans (iiW_ne_f h)
theorem lcW_lt_t {x y : Int64} (h : x < y) : ifCond.holds .lt (lcmpW x y) = true := i0W_lt_t ((lw_lt x y).mpr h)
theorem lcW_lt_f {x y : Int64} (h : ¬ (x < y)) : ifCond.holds .lt (lcmpW x y) = false := i0W_lt_f fun q => h ((lw_lt x y).mp q)
theorem lcW_ge_t {x y : Int64} (h : ¬ (x < y)) : ifCond.holds .ge (lcmpW x y) = true := i0W_ge_t fun q => h ((lw_lt x y).mp q)
theorem lcW_ge_f {x y : Int64} (h : ¬ ¬ (x < y)) : ifCond.holds .ge (lcmpW x y) = false := i0W_ge_f fun q => h fun z => q ((lw_lt x y).mpr z)
theorem lcW_gt_t {x y : Int64} (h : y < x) : ifCond.holds .gt (lcmpW x y) = true := i0W_gt_t ((lw_gt x y).mpr h)
theorem lcW_gt_f {x y : Int64} (h : ¬ (y < x)) : ifCond.holds .gt (lcmpW x y) = false := i0W_gt_f fun q => h ((lw_gt x y).mp q)
theorem lcW_le_t {x y : Int64} (h : ¬ (y < x)) : ifCond.holds .le (lcmpW x y) = true := i0W_le_t fun q => h ((lw_gt x y).mp q)
theorem lcW_le_f {x y : Int64} (h : ¬ ¬ (y < x)) : ifCond.holds .le (lcmpW x y) = false := i0W_le_f fun q => h fun z => q ((lw_gt x y).mpr z)
theorem lcW_eq_t {x y : Int64} (h : x = y) : ifCond.holds .eq (lcmpW x y) = true := i0W_eq_t ((lw_eq x y).mpr h)
theorem lcW_eq_f {x y : Int64} (h : ¬ (x = y)) : ifCond.holds .eq (lcmpW x y) = false := i0W_eq_f fun q => h ((lw_eq x y).mp q)
theorem lcW_ne_t {x y : Int64} (h : ¬ (x = y)) : ifCond.holds .ne (lcmpW x y) = true := i0W_ne_t fun q => h ((lw_eq x y).mp q)
theorem lcW_ne_f {x y : Int64} (h : ¬ ¬ (x = y)) : ifCond.holds .ne (lcmpW x y) = false := i0W_ne_f fun q => h fun z => q ((lw_eq x y).mpr z)
/-- how two whole numbers compare, as dcmp pushes it -/
def cmpZ (i j : Int) : Int32 := if i < j then -1 else if i = j then 0 else 1
theorem cmpZ_lt (i j : Int) : cmpZ i j < (0 : Int32) ↔ i < j := by
  unfold cmpZ
  by_cases h1 : i < j
  · rw [if_pos h1]; exact ⟨fun _ => h1, fun _ => by decide⟩
  · rw [if_neg h1]
    by_cases h2 : i = j
    · rw [if_pos h2]; exact ⟨fun q => absurd q (by decide), fun q => absurd q h1⟩
    · rw [if_neg h2]; exact ⟨fun q => absurd q (by decide), fun q => absurd q h1⟩
theorem cmpZ_gt (i j : Int) : (0 : Int32) < cmpZ i j ↔ j < i := by
  unfold cmpZ
  by_cases h1 : i < j
  · rw [if_pos h1]; exact ⟨fun q => absurd q (by decide), fun q => by omega⟩
  · rw [if_neg h1]
    by_cases h2 : i = j
    · rw [if_pos h2]; exact ⟨fun q => absurd q (by decide), fun q => by omega⟩
    · rw [if_neg h2]; exact ⟨fun _ => by omega, fun _ => by decide⟩
theorem cmpZ_eq (i j : Int) : cmpZ i j = (0 : Int32) ↔ i = j := by
  unfold cmpZ
  by_cases h1 : i < j
  · rw [if_pos h1]; exact ⟨fun q => absurd q (by decide), fun q => by omega⟩
  · rw [if_neg h1]
    by_cases h2 : i = j
    · rw [if_pos h2]; exact ⟨fun _ => h2, fun _ => rfl⟩
    · rw [if_neg h2]; exact ⟨fun q => absurd q (by decide), fun q => absurd q h2⟩
theorem ciW_lt_t {x y : Int} (h : x < y) : ifCond.holds .lt (cmpZ x y) = true := i0W_lt_t ((cmpZ_lt x y).mpr h)
theorem ciW_lt_f {x y : Int} (h : ¬ (x < y)) : ifCond.holds .lt (cmpZ x y) = false := i0W_lt_f fun q => h ((cmpZ_lt x y).mp q)
theorem ciW_ge_t {x y : Int} (h : ¬ (x < y)) : ifCond.holds .ge (cmpZ x y) = true := i0W_ge_t fun q => h ((cmpZ_lt x y).mp q)
theorem ciW_ge_f {x y : Int} (h : ¬ ¬ (x < y)) : ifCond.holds .ge (cmpZ x y) = false := i0W_ge_f fun q => h fun z => q ((cmpZ_lt x y).mpr z)
theorem ciW_gt_t {x y : Int} (h : y < x) : ifCond.holds .gt (cmpZ x y) = true := i0W_gt_t ((cmpZ_gt x y).mpr h)
theorem ciW_gt_f {x y : Int} (h : ¬ (y < x)) : ifCond.holds .gt (cmpZ x y) = false := i0W_gt_f fun q => h ((cmpZ_gt x y).mp q)
theorem ciW_le_t {x y : Int} (h : ¬ (y < x)) : ifCond.holds .le (cmpZ x y) = true := i0W_le_t fun q => h ((cmpZ_gt x y).mp q)
theorem ciW_le_f {x y : Int} (h : ¬ ¬ (y < x)) : ifCond.holds .le (cmpZ x y) = false := i0W_le_f fun q => h fun z => q ((cmpZ_gt x y).mpr z)
theorem ciW_eq_t {x y : Int} (h : x = y) : ifCond.holds .eq (cmpZ x y) = true := i0W_eq_t ((cmpZ_eq x y).mpr h)
theorem ciW_eq_f {x y : Int} (h : ¬ (x = y)) : ifCond.holds .eq (cmpZ x y) = false := i0W_eq_f fun q => h ((cmpZ_eq x y).mp q)
theorem ciW_ne_t {x y : Int} (h : ¬ (x = y)) : ifCond.holds .ne (cmpZ x y) = true := i0W_ne_t fun q => h ((cmpZ_eq x y).mp q)
theorem ciW_ne_f {x y : Int} (h : ¬ ¬ (x = y)) : ifCond.holds .ne (cmpZ x y) = false := i0W_ne_f fun q => h fun z => q ((cmpZ_eq x y).mpr z)
section B
variable {C : Prop} [Decidable C]
theorem b01or (C : Prop) [Decidable C] : (if C then (1 : Int32) else (0 : Int32)) = 0 ∨ (if C then (1 : Int32) else (0 : Int32)) = 1 := by split <;> simp
theorem b01_eq_t (h : ¬ (C)) : ifCond.holds .eq (if C then (1 : Int32) else (0 : Int32)) = true := by rw [if_neg h]; rfl
theorem b01_eq_f (h : ¬ ¬ (C)) : ifCond.holds .eq (if C then (1 : Int32) else (0 : Int32)) = false := by rw [if_pos (Decidable.not_not.mp h)]; rfl
theorem b01_ne_t (h : C) : ifCond.holds .ne (if C then (1 : Int32) else (0 : Int32)) = true := by rw [if_pos h]; rfl
theorem b01_ne_f (h : ¬ (C)) : ifCond.holds .ne (if C then (1 : Int32) else (0 : Int32)) = false := by rw [if_neg h]; rfl
end B
theorem narrow_01 {x : Int32} (h : x = 0 ∨ x = 1) : narrow .boolean (.int x) = .int x := by rcases h with rfl | rfl <;> rfl
theorem fits_01 {x : Int32} (h : x = 0 ∨ x = 1) : fits .boolean (.int x) = true := by rcases h with rfl | rfl <;> rfl
theorem cat1 {v : Value} (h : v.isRef = true) : v.category = 1 := by cases v <;> first | rfl | (simp [Value.isRef] at h)
theorem narrow_refT {v : Value} {t : FieldType} (h : v.isRef = true) : narrow t v = v := by cases v <;> first | (simp [Value.isRef] at h; done) | (cases t <;> rfl)
theorem fits_refT {v : Value} {t : FieldType} (h : v.isRef = true) (ht : t.isReference = true) : fits t v = true := by cases v <;> first | (simp [Value.isRef] at h; done) | (cases t <;> first | rfl | (simp [FieldType.isReference] at ht; done))
theorem nab_mul {i j : Int} {A B : Nat} (h1 : i.natAbs ≤ A) (h2 : j.natAbs ≤ B) : (i * j).natAbs ≤ A * B := by rw [Int.natAbs_mul]; exact Nat.mul_le_mul h1 h2
theorem nab_add {i j : Int} {A B : Nat} (h1 : i.natAbs ≤ A) (h2 : j.natAbs ≤ B) : (i + j).natAbs ≤ A + B := by omega
theorem nab_sub {i j : Int} {A B : Nat} (h1 : i.natAbs ≤ A) (h2 : j.natAbs ≤ B) : (i - j).natAbs ≤ A + B := by omega
/-! whole numbers as doubles -/
section C
open Jvm.FP Jvm.FP.Core Jvm.Free.Fl
theorem dint_c0 : DInt 0 FP.dconst0 := by
  have h := i2d_int 0
  rwa [show Core.i2d 0 = FP.dconst0 from by decide +kernel] at h
theorem dint_c1 : DInt 1 FP.dconst1 := by
  have h := i2d_int 1
  rwa [show Core.i2d 1 = FP.dconst1 from by decide +kernel] at h
theorem dint_ite {C : Prop} [Decidable C] {i j : Int} {a b : UInt64} (h1 : C → DInt i a) (h0 : ¬ C → DInt j b) : DInt (if C then i else j) (if C then a else b) := by
  by_cases h : C
  · rw [if_pos h, if_pos h]; exact h1 h
  · rw [if_neg h, if_neg h]; exact h0 h
theorem nnD {i : Int} {a : UInt64} (h : DInt i a) : NoNaN64 a := val64_no.mpr (DInt_ne_nan h)
theorem dcmpZ {i j : Int} {a b : UInt64} (ha : DInt i a) (hb : DInt j b) {o : CmpOp} : cmpValue (FP.dcmp a b) o = cmpZ i j := by
  rw [show FP.dcmp a b = some (compare i j) from dcmp_int ha hb, compare_ite]
  unfold cmpZ
  split
  · rfl
  · split <;> rfl
end C
end Jvm.OwnW
namespace Jvm.Pilot.@@N@@
open Jvm Jvm.ClassFile Sem Op Lib Jvm.Free Jvm.Stand Jvm.LawKit Jvm.RoadKit Jvm.OwnW Bundle Jvm.Pilot.@@N@@.Jvm.D
open Jvm.FP.Core (DInt i2d_int l2d_int dadd_int dsub_int dmul_int dneg_int zval b64 val64 dcmp_zval compare_ite i2d_ne_zero DInt_ne_nan dcmp_int dcmp_l2d)

theorem own_fin (A B : Prop) [Decidable A] [Decidable B] (x y : Int32) : (if (if ¬ (A) then (1 : Int32) else (0 : Int32)) = (0 : Int32) ∨ (if ¬ (B) then y else x) = x then (1 : Int32) else (0 : Int32)) = (if A then (1 : Int32) else (if B then (1 : Int32) else (if x = y then (1 : Int32) else (0 : Int32)))) := by
  by_cases a : A
  · simp [a]
  · by_cases b : B
    · simp [a, b]
    · simp [a, b, eq_comm]
theorem own_ch (x : Int32) : ¬ ((255 : Int32) < (x &&& (255 : Int32)).toUInt32.toUInt16.toUInt32.toInt32) := by
  rw [i2c_mask]
  have h := c_and x 255 (by decide)
  rw [Int32.lt_iff_toInt_lt]
  have h4 : (255 : Int32).toInt = 255 := by decide
  omega
theorem tw0 {a0 : Array Value} {Z : State} (hw : ∀ d ∈ tables_1, d.before a0 Z = true) : (Jvm.Cond.constant "com/example/roundsmith/roundsmith/network/StreetDrivableFromPinLaw" (13 : Nat) (65535 : Int32)).before a0 Z = true := hw _ (List.mem_of_getElem? (i := 0) rfl)
theorem tw1 {a0 : Array Value} {Z : State} (hw : ∀ d ∈ tables_1, d.before a0 Z = true) : (Jvm.Cond.classLink "com/example/roundsmith/roundsmith/network/StreetDrivableFromPinLaw" (14 : Nat) "com/example/roundsmith/roundsmith/network/Street").before a0 Z = true := hw _ (List.mem_of_getElem? (i := 1) rfl)
theorem tw2 {a0 : Array Value} {Z : State} (hw : ∀ d ∈ tables_1, d.before a0 Z = true) : (Jvm.Cond.instantiable "com/example/roundsmith/roundsmith/network/Street" (7 : Nat)).before a0 Z = true := hw _ (List.mem_of_getElem? (i := 2) rfl)
theorem tw3 {a0 : Array Value} {Z : State} (hw : ∀ d ∈ tables_1, d.before a0 Z = true) : (Jvm.Cond.initialized "com/example/roundsmith/roundsmith/network/Street").before a0 Z = true := hw _ (List.mem_of_getElem? (i := 3) rfl)
theorem tw4 {a0 : Array Value} {Z : State} (hw : ∀ d ∈ tables_1, d.before a0 Z = true) : (Jvm.Cond.methodLink "com/example/roundsmith/roundsmith/network/StreetDrivableFromPinLaw" (16 : Nat) ({ cls := "com/example/roundsmith/roundsmith/network/Street", name := "<init>", desc := "(IIIDZZLjava/lang/String;)V" } : Jvm.MethodName)).before a0 Z = true := hw _ (List.mem_of_getElem? (i := 4) rfl)
theorem tw5 {a0 : Array Value} {Z : State} (hw : ∀ d ∈ tables_1, d.before a0 Z = true) : (Jvm.Cond.instanceMethod ({ cls := "com/example/roundsmith/roundsmith/network/Street", name := "<init>", desc := "(IIIDZZLjava/lang/String;)V" } : Jvm.MethodName)).before a0 Z = true := hw _ (List.mem_of_getElem? (i := 5) rfl)
theorem tw6 {a0 : Array Value} {Z : State} (hw : ∀ d ∈ tables_1, d.before a0 Z = true) : (Jvm.Cond.code ({ cls := "com/example/roundsmith/roundsmith/network/Street", name := "<init>", desc := "(IIIDZZLjava/lang/String;)V" } : Jvm.MethodName) prog_6_method_1_code (9 : Nat) (Option.none : Option Jvm.ClassFile.FieldType)).before a0 Z = true := hw _ (List.mem_of_getElem? (i := 6) rfl)
theorem tw7 {a0 : Array Value} {Z : State} (hw : ∀ d ∈ tables_1, d.before a0 Z = true) : (Jvm.Cond.methodLink "com/example/roundsmith/roundsmith/network/Street" (1 : Nat) ({ cls := "java/lang/Object", name := "<init>", desc := "()V" } : Jvm.MethodName)).before a0 Z = true := hw _ (List.mem_of_getElem? (i := 7) rfl)
theorem tw8 {a0 : Array Value} {Z : State} (hw : ∀ d ∈ tables_1, d.before a0 Z = true) : (Jvm.Cond.instanceMethod ({ cls := "java/lang/Object", name := "<init>", desc := "()V" } : Jvm.MethodName)).before a0 Z = true := hw _ (List.mem_of_getElem? (i := 8) rfl)
theorem tw9 {a0 : Array Value} {Z : State} (hw : ∀ d ∈ tables_1, d.before a0 Z = true) : (Jvm.Cond.code ({ cls := "java/lang/Object", name := "<init>", desc := "()V" } : Jvm.MethodName) object_method_1_code (1 : Nat) (Option.none : Option Jvm.ClassFile.FieldType)).before a0 Z = true := hw _ (List.mem_of_getElem? (i := 9) rfl)
theorem tw10 {a0 : Array Value} {Z : State} (hw : ∀ d ∈ tables_1, d.before a0 Z = true) : (Jvm.Cond.fieldLink "com/example/roundsmith/roundsmith/network/Street" (7 : Nat) "com/example/roundsmith/roundsmith/network/Street" "index" "I").before a0 Z = true := hw _ (List.mem_of_getElem? (i := 10) rfl)
theorem tw11 {a0 : Array Value} {Z : State} (hw : ∀ d ∈ tables_1, d.before a0 Z = true) : (Jvm.Cond.laysFinal "com/example/roundsmith/roundsmith/network/Street" "com/example/roundsmith/roundsmith/network/Street" "index" "I").before a0 Z = true := hw _ (List.mem_of_getElem? (i := 11) rfl)
theorem tw12 {a0 : Array Value} {Z : State} (hw : ∀ d ∈ tables_1, d.before a0 Z = true) : (Jvm.Cond.fieldLink "com/example/roundsmith/roundsmith/network/Street" (13 : Nat) "com/example/roundsmith/roundsmith/network/Street" "from" "I").before a0 Z = true := hw _ (List.mem_of_getElem? (i := 12) rfl)
theorem tw13 {a0 : Array Value} {Z : State} (hw : ∀ d ∈ tables_1, d.before a0 Z = true) : (Jvm.Cond.laysFinal "com/example/roundsmith/roundsmith/network/Street" "com/example/roundsmith/roundsmith/network/Street" "from" "I").before a0 Z = true := hw _ (List.mem_of_getElem? (i := 13) rfl)
theorem tw14 {a0 : Array Value} {Z : State} (hw : ∀ d ∈ tables_1, d.before a0 Z = true) : (Jvm.Cond.fieldLink "com/example/roundsmith/roundsmith/network/Street" (16 : Nat) "com/example/roundsmith/roundsmith/network/Street" "to" "I").before a0 Z = true := hw _ (List.mem_of_getElem? (i := 14) rfl)
theorem tw15 {a0 : Array Value} {Z : State} (hw : ∀ d ∈ tables_1, d.before a0 Z = true) : (Jvm.Cond.laysFinal "com/example/roundsmith/roundsmith/network/Street" "com/example/roundsmith/roundsmith/network/Street" "to" "I").before a0 Z = true := hw _ (List.mem_of_getElem? (i := 15) rfl)
theorem tw16 {a0 : Array Value} {Z : State} (hw : ∀ d ∈ tables_1, d.before a0 Z = true) : (Jvm.Cond.fieldLink "com/example/roundsmith/roundsmith/network/Street" (19 : Nat) "com/example/roundsmith/roundsmith/network/Street" "length" "D").before a0 Z = true := hw _ (List.mem_of_getElem? (i := 16) rfl)
theorem tw17 {a0 : Array Value} {Z : State} (hw : ∀ d ∈ tables_1, d.before a0 Z = true) : (Jvm.Cond.laysFinal "com/example/roundsmith/roundsmith/network/Street" "com/example/roundsmith/roundsmith/network/Street" "length" "D").before a0 Z = true := hw _ (List.mem_of_getElem? (i := 17) rfl)
theorem tw18 {a0 : Array Value} {Z : State} (hw : ∀ d ∈ tables_1, d.before a0 Z = true) : (Jvm.Cond.fieldLink "com/example/roundsmith/roundsmith/network/Street" (23 : Nat) "com/example/roundsmith/roundsmith/network/Street" "required" "Z").before a0 Z = true := hw _ (List.mem_of_getElem? (i := 18) rfl)
theorem tw19 {a0 : Array Value} {Z : State} (hw : ∀ d ∈ tables_1, d.before a0 Z = true) : (Jvm.Cond.laysFinal "com/example/roundsmith/roundsmith/network/Street" "com/example/roundsmith/roundsmith/network/Street" "required" "Z").before a0 Z = true := hw _ (List.mem_of_getElem? (i := 19) rfl)
theorem tw20 {a0 : Array Value} {Z : State} (hw : ∀ d ∈ tables_1, d.before a0 Z = true) : (Jvm.Cond.fieldLink "com/example/roundsmith/roundsmith/network/Street" (27 : Nat) "com/example/roundsmith/roundsmith/network/Street" "oneWay" "Z").before a0 Z = true := hw _ (List.mem_of_getElem? (i := 20) rfl)
theorem tw21 {a0 : Array Value} {Z : State} (hw : ∀ d ∈ tables_1, d.before a0 Z = true) : (Jvm.Cond.laysFinal "com/example/roundsmith/roundsmith/network/Street" "com/example/roundsmith/roundsmith/network/Street" "oneWay" "Z").before a0 Z = true := hw _ (List.mem_of_getElem? (i := 21) rfl)
theorem tw22 {a0 : Array Value} {Z : State} (hw : ∀ d ∈ tables_1, d.before a0 Z = true) : (Jvm.Cond.fieldLink "com/example/roundsmith/roundsmith/network/Street" (30 : Nat) "com/example/roundsmith/roundsmith/network/Street" "name" "Ljava/lang/String;").before a0 Z = true := hw _ (List.mem_of_getElem? (i := 22) rfl)
theorem tw23 {a0 : Array Value} {Z : State} (hw : ∀ d ∈ tables_1, d.before a0 Z = true) : (Jvm.Cond.laysFinal "com/example/roundsmith/roundsmith/network/Street" "com/example/roundsmith/roundsmith/network/Street" "name" "Ljava/lang/String;").before a0 Z = true := hw _ (List.mem_of_getElem? (i := 23) rfl)
theorem tw24 {a0 : Array Value} {Z : State} (hw : ∀ d ∈ tables_1, d.before a0 Z = true) : (Jvm.Cond.methodLink "com/example/roundsmith/roundsmith/network/StreetDrivableFromPinLaw" (19 : Nat) ({ cls := "com/example/roundsmith/roundsmith/network/Street", name := "drivableFrom", desc := "(I)Z" } : Jvm.MethodName)).before a0 Z = true := hw _ (List.mem_of_getElem? (i := 24) rfl)
theorem tw25 {a0 : Array Value} {Z : State} (hw : ∀ d ∈ tables_1, d.before a0 Z = true) : (Jvm.Cond.declares ({ cls := "com/example/roundsmith/roundsmith/network/Street", name := "drivableFrom", desc := "(I)Z" } : Jvm.MethodName)).before a0 Z = true := hw _ (List.mem_of_getElem? (i := 25) rfl)
theorem tw26 {a0 : Array Value} {Z : State} (hw : ∀ d ∈ tables_1, d.before a0 Z = true) : (Jvm.Cond.instanceMethod ({ cls := "com/example/roundsmith/roundsmith/network/Street", name := "drivableFrom", desc := "(I)Z" } : Jvm.MethodName)).before a0 Z = true := hw _ (List.mem_of_getElem? (i := 26) rfl)
theorem tw27 {a0 : Array Value} {Z : State} (hw : ∀ d ∈ tables_1, d.before a0 Z = true) : (Jvm.Cond.selects "com/example/roundsmith/roundsmith/network/Street" ({ cls := "com/example/roundsmith/roundsmith/network/Street", name := "drivableFrom", desc := "(I)Z" } : Jvm.MethodName) ({ cls := "com/example/roundsmith/roundsmith/network/Street", name := "drivableFrom", desc := "(I)Z" } : Jvm.MethodName)).before a0 Z = true := hw _ (List.mem_of_getElem? (i := 27) rfl)
theorem tw28 {a0 : Array Value} {Z : State} (hw : ∀ d ∈ tables_1, d.before a0 Z = true) : (Jvm.Cond.code ({ cls := "com/example/roundsmith/roundsmith/network/Street", name := "drivableFrom", desc := "(I)Z" } : Jvm.MethodName) prog_6_method_9_code (2 : Nat) (Option.some Jvm.ClassFile.FieldType.boolean)).before a0 Z = true := hw _ (List.mem_of_getElem? (i := 28) rfl)
theorem tw29 {a0 : Array Value} {Z : State} (hw : ∀ d ∈ tables_1, d.before a0 Z = true) : (Jvm.Cond.methodLink "com/example/roundsmith/roundsmith/network/StreetDrivableFromPinLaw" (7 : Nat) ({ cls := "java/lang/String", name := "valueOf", desc := "(C)Ljava/lang/String;" } : Jvm.MethodName)).before a0 Z = true := hw _ (List.mem_of_getElem? (i := 29) rfl)
theorem tw30 {a0 : Array Value} {Z : State} (hw : ∀ d ∈ tables_1, d.before a0 Z = true) : (Jvm.Cond.static ({ cls := "java/lang/String", name := "valueOf", desc := "(C)Ljava/lang/String;" } : Jvm.MethodName)).before a0 Z = true := hw _ (List.mem_of_getElem? (i := 30) rfl)
theorem tw31 {a0 : Array Value} {Z : State} (hw : ∀ d ∈ tables_1, d.before a0 Z = true) : (Jvm.Cond.initialized "java/lang/String").before a0 Z = true := hw _ (List.mem_of_getElem? (i := 31) rfl)
theorem tw32 {a0 : Array Value} {Z : State} (hw : ∀ d ∈ tables_1, d.before a0 Z = true) : (Jvm.Cond.code ({ cls := "java/lang/String", name := "valueOf", desc := "(C)Ljava/lang/String;" } : Jvm.MethodName) jdk_42_method_139_code (1 : Nat) (Option.some (Jvm.ClassFile.FieldType.object "java/lang/String"))).before a0 Z = true := hw _ (List.mem_of_getElem? (i := 32) rfl)
theorem tw33 {a0 : Array Value} {Z : State} (hw : ∀ d ∈ tables_1, d.before a0 Z = true) : (Jvm.Cond.fieldLink "java/lang/String" (38 : Nat) "java/lang/String" "COMPACT_STRINGS" "Z").before a0 Z = true := hw _ (List.mem_of_getElem? (i := 33) rfl)
theorem tw34 {a0 : Array Value} {Z : State} (hw : ∀ d ∈ tables_1, d.before a0 Z = true) : (Jvm.Cond.methodLink "java/lang/String" (1015 : Nat) ({ cls := "java/lang/StringLatin1", name := "canEncode", desc := "(C)Z" } : Jvm.MethodName)).before a0 Z = true := hw _ (List.mem_of_getElem? (i := 34) rfl)
theorem tw35 {a0 : Array Value} {Z : State} (hw : ∀ d ∈ tables_1, d.before a0 Z = true) : (Jvm.Cond.static ({ cls := "java/lang/StringLatin1", name := "canEncode", desc := "(C)Z" } : Jvm.MethodName)).before a0 Z = true := hw _ (List.mem_of_getElem? (i := 35) rfl)
theorem tw36 {a0 : Array Value} {Z : State} (hw : ∀ d ∈ tables_1, d.before a0 Z = true) : (Jvm.Cond.initialized "java/lang/StringLatin1").before a0 Z = true := hw _ (List.mem_of_getElem? (i := 36) rfl)
theorem tw37 {a0 : Array Value} {Z : State} (hw : ∀ d ∈ tables_1, d.before a0 Z = true) : (Jvm.Cond.code ({ cls := "java/lang/StringLatin1", name := "canEncode", desc := "(C)Z" } : Jvm.MethodName) jdk_43_method_3_code (1 : Nat) (Option.some Jvm.ClassFile.FieldType.boolean)).before a0 Z = true := hw _ (List.mem_of_getElem? (i := 37) rfl)
theorem tw38 {a0 : Array Value} {Z : State} (hw : ∀ d ∈ tables_1, d.before a0 Z = true) : (Jvm.Cond.classLink "java/lang/String" (10 : Nat) "java/lang/String").before a0 Z = true := hw _ (List.mem_of_getElem? (i := 38) rfl)
theorem tw39 {a0 : Array Value} {Z : State} (hw : ∀ d ∈ tables_1, d.before a0 Z = true) : (Jvm.Cond.instantiable "java/lang/String" (4 : Nat)).before a0 Z = true := hw _ (List.mem_of_getElem? (i := 39) rfl)
theorem tw40 {a0 : Array Value} {Z : State} (hw : ∀ d ∈ tables_1, d.before a0 Z = true) : (Jvm.Cond.methodLink "java/lang/String" (1018 : Nat) ({ cls := "java/lang/StringLatin1", name := "toBytes", desc := "(C)[B" } : Jvm.MethodName)).before a0 Z = true := hw _ (List.mem_of_getElem? (i := 40) rfl)
theorem tw41 {a0 : Array Value} {Z : State} (hw : ∀ d ∈ tables_1, d.before a0 Z = true) : (Jvm.Cond.static ({ cls := "java/lang/StringLatin1", name := "toBytes", desc := "(C)[B" } : Jvm.MethodName)).before a0 Z = true := hw _ (List.mem_of_getElem? (i := 41) rfl)
theorem tw42 {a0 : Array Value} {Z : State} (hw : ∀ d ∈ tables_1, d.before a0 Z = true) : (Jvm.Cond.code ({ cls := "java/lang/StringLatin1", name := "toBytes", desc := "(C)[B" } : Jvm.MethodName) jdk_43_method_46_code (1 : Nat) (Option.some (Jvm.ClassFile.FieldType.array Jvm.ClassFile.FieldType.byte))).before a0 Z = true := hw _ (List.mem_of_getElem? (i := 42) rfl)
theorem tw43 {a0 : Array Value} {Z : State} (hw : ∀ d ∈ tables_1, d.before a0 Z = true) : (Jvm.Cond.arrayClass Jvm.ClassFile.FieldType.byte).before a0 Z = true := hw _ (List.mem_of_getElem? (i := 43) rfl)
theorem tw44 {a0 : Array Value} {Z : State} (hw : ∀ d ∈ tables_1, d.before a0 Z = true) : (Jvm.Cond.methodLink "java/lang/String" (209 : Nat) ({ cls := "java/lang/String", name := "<init>", desc := "([BB)V" } : Jvm.MethodName)).before a0 Z = true := hw _ (List.mem_of_getElem? (i := 44) rfl)
theorem tw45 {a0 : Array Value} {Z : State} (hw : ∀ d ∈ tables_1, d.before a0 Z = true) : (Jvm.Cond.instanceMethod ({ cls := "java/lang/String", name := "<init>", desc := "([BB)V" } : Jvm.MethodName)).before a0 Z = true := hw _ (List.mem_of_getElem? (i := 45) rfl)
theorem tw47 {a0 : Array Value} {Z : State} (hw : ∀ d ∈ tables_1, d.before a0 Z = true) : (Jvm.Cond.code ({ cls := "java/lang/String", name := "<init>", desc := "([BB)V" } : Jvm.MethodName) jdk_42_method_151_code (3 : Nat) (Option.none : Option Jvm.ClassFile.FieldType)).before a0 Z = true := hw _ (List.mem_of_getElem? (i := 47) rfl)
theorem tw48 {a0 : Array Value} {Z : State} (hw : ∀ d ∈ tables_1, d.before a0 Z = true) : (Jvm.Cond.methodLink "java/lang/String" (1 : Nat) ({ cls := "java/lang/Object", name := "<init>", desc := "()V" } : Jvm.MethodName)).before a0 Z = true := hw _ (List.mem_of_getElem? (i := 48) rfl)
theorem tw49 {a0 : Array Value} {Z : State} (hw : ∀ d ∈ tables_1, d.before a0 Z = true) : (Jvm.Cond.fieldLink "java/lang/String" (9 : Nat) "java/lang/String" "value" "[B").before a0 Z = true := hw _ (List.mem_of_getElem? (i := 49) rfl)
theorem tw50 {a0 : Array Value} {Z : State} (hw : ∀ d ∈ tables_1, d.before a0 Z = true) : (Jvm.Cond.laysFinal "java/lang/String" "java/lang/String" "value" "[B").before a0 Z = true := hw _ (List.mem_of_getElem? (i := 50) rfl)
theorem tw51 {a0 : Array Value} {Z : State} (hw : ∀ d ∈ tables_1, d.before a0 Z = true) : (Jvm.Cond.fieldLink "java/lang/String" (15 : Nat) "java/lang/String" "coder" "B").before a0 Z = true := hw _ (List.mem_of_getElem? (i := 51) rfl)
theorem tw52 {a0 : Array Value} {Z : State} (hw : ∀ d ∈ tables_1, d.before a0 Z = true) : (Jvm.Cond.laysFinal "java/lang/String" "java/lang/String" "coder" "B").before a0 Z = true := hw _ (List.mem_of_getElem? (i := 52) rfl)
theorem pn_0 : plainName "java/lang/StringLatin1" = true := by first | (simp [plainName, overriddenIn]; done) | decide +kernel
theorem pn_1 : plainFor (⟨"java/lang/String", "<init>", "([BB)V"⟩ : MethodName) = true := by first | exact plainFor_of_name (by first | (simp [plainName, overriddenIn]; done) | decide +kernel) | decide +kernel
theorem pd_0 : parseMethodDescriptor "(C)Z" = some ⟨[.char], some .boolean⟩ := by decide +kernel
theorem pd_1 : parseMethodDescriptor "(C)[B" = some ⟨[.char], some (.array .byte)⟩ := by decide +kernel
theorem pd_2 : parseMethodDescriptor "([BB)V" = some ⟨[(.array .byte), .byte], none⟩ := by decide +kernel
theorem pn_2 : plainFor (⟨"java/lang/String", "valueOf", "(C)Ljava/lang/String;"⟩ : MethodName) = true := by first | exact plainFor_of_name (by first | (simp [plainName, overriddenIn]; done) | decide +kernel) | decide +kernel
theorem pn_3 : plainName "com/example/roundsmith/roundsmith/network/Street" = true := by first | (simp [plainName, overriddenIn]; done) | decide +kernel
theorem pd_3 : parseMethodDescriptor "(IIIDZZLjava/lang/String;)V" = some ⟨[.int, .int, .int, .double, .boolean, .boolean, (.object "java/lang/String")], none⟩ := by decide +kernel
theorem pd_4 : parseMethodDescriptor "(I)Z" = some ⟨[.int], some .boolean⟩ := by decide +kernel
theorem pd_5 : parseMethodDescriptor "(C)Ljava/lang/String;" = some ⟨[.char], some (.object "java/lang/String")⟩ := by decide +kernel
theorem pn_4 : plainName "com/example/roundsmith/roundsmith/network/StreetDrivableFromPinLaw" = true := by first | (simp [plainName, overriddenIn]; done) | decide +kernel
theorem ef_canEncode (m : MethodId) (x0 : Int32) : entryFrame m #[(.int x0)] 1 = mkF m 0 #[.val (.int x0)] [] := by first | (simp [entryFrame, mkF, argsToLocals, Value.category]; done) | rfl
theorem d_canEncode_0 : decode jdk_43_method_3_code 0 = .ok (.iload_n 0, 1) := by decide +kernel
theorem d_canEncode_1 : decode jdk_43_method_3_code 1 = .ok (.sipush 255, 3) := by decide +kernel
theorem d_canEncode_4 : decode jdk_43_method_3_code 4 = .ok (.if_icmp .gt 7, 3) := by decide +kernel
theorem d_canEncode_7 : decode jdk_43_method_3_code 7 = .ok (.iconst 1, 1) := by decide +kernel
theorem d_canEncode_8 : decode jdk_43_method_3_code 8 = .ok (.goto 4, 3) := by decide +kernel
theorem d_canEncode_12 : decode jdk_43_method_3_code 12 = .ok (.ireturn, 1) := by decide +kernel
set_option maxRecDepth 65536 in
set_option maxHeartbeats 4000000 in
theorem m_canEncode (l : Launch) (Z : State) (a0 : Array Value) (hw : ∀ d ∈ tables_1, d.before a0 Z = true) (hs : ∀ d ∈ jdkStatics_1, d.before a0 Z = true) (p0 : Int32) (h0 : Heap) (hp : ¬ ((255 : Int32) < p0)) :
    OMet l (⟨"java/lang/StringLatin1", "canEncode", "(C)Z"⟩ : MethodName) jdk_43_method_3_code 1 (Option.some FieldType.boolean) [] ({ frames := 0, cells := 0, slots := 0, locals := 0 } : Room) Z h0 [] #[(.int p0)] (fun v h' => v = some (.int 1) ∧ h0 = h') := by
  refine OMet.of (own := "java/lang/StringLatin1") (nm := "canEncode") (plainFor_of_name pn_0) rfl rfl ?_
  intro p e s m below meth c T0 P0 hby hml hret hnm
  refine Done.step (T' := T0) (g' := (mkF m 0 #[.val (.int p0)] [])) (fun t kk => castTop (ef_canEncode m p0) kk) ?_
  refine Done.step (T' := T0) (g' := (mkF m 12 #[.val (.int p0)] [(.int (1 : Int32))])) (fun t kk => ?_) ?_
  · show Steps p.tables e below (T0.setTop (mkF m 0 #[.val (.int p0)] [])) t
    refine XS.iloadN P0.here P0.x rfl (hb hby d_canEncode_0) rfl ?_
    show Steps p.tables e below (T0.setTop (mkF m 1 #[.val (.int p0)] [(.int p0)])) t
    refine XS.sipush P0.here P0.x rfl (hb hby d_canEncode_1) ?_
    show Steps p.tables e below (T0.setTop (mkF m 4 #[.val (.int p0)] [(.int (255 : Int32)), (.int p0)])) t
    refine XS.icmpNo P0.here P0.x rfl (hb hby d_canEncode_4) rfl (iiW_gt_f hp) ?_
    show Steps p.tables e below (T0.setTop (mkF m 7 #[.val (.int p0)] [])) t
    refine XS.iconst P0.here P0.x rfl (hb hby d_canEncode_7) ?_
    show Steps p.tables e below (T0.setTop (mkF m 8 #[.val (.int p0)] [(.int (1 : Int32))])) t
    refine XS.goto P0.here P0.x rfl (pc0 := 8) (pc' := 12) rfl (hb hby d_canEncode_8) (by decide) (by decide) ?_
    exact kk
  show Done _ _ _ _ _ _ _ _ _ _ _ _ _ _ _ T0 (mkF m 12 #[.val (.int p0)] [(.int (1 : Int32))])
  exact wRet P0 (t := .boolean) hret (narrow_01 (Or.inr rfl)) (Or.inl ⟨rfl, Or.inr (Or.inl rfl), _, rfl⟩) (hb hby d_canEncode_12) ⟨rfl, rfl⟩
theorem ef_toBytes (m : MethodId) (x0 : Int32) : entryFrame m #[(.int x0)] 1 = mkF m 0 #[.val (.int x0)] [] := by first | (simp [entryFrame, mkF, argsToLocals, Value.category]; done) | rfl
theorem d_toBytes_0 : decode jdk_43_method_46_code 0 = .ok (.iconst 1, 1) := by decide +kernel
theorem d_toBytes_1 : decode jdk_43_method_46_code 1 = .ok (.newarray .byte, 2) := by decide +kernel
theorem d_toBytes_3 : decode jdk_43_method_46_code 3 = .ok (.dup, 1) := by decide +kernel
theorem d_toBytes_4 : decode jdk_43_method_46_code 4 = .ok (.iconst 0, 1) := by decide +kernel
theorem d_toBytes_5 : decode jdk_43_method_46_code 5 = .ok (.iload_n 0, 1) := by decide +kernel
theorem d_toBytes_6 : decode jdk_43_method_46_code 6 = .ok (.i2b, 1) := by decide +kernel
theorem d_toBytes_7 : decode jdk_43_method_46_code 7 = .ok (.bastore, 1) := by decide +kernel
theorem d_toBytes_8 : decode jdk_43_method_46_code 8 = .ok (.areturn, 1) := by decide +kernel
set_option maxRecDepth 65536 in
set_option maxHeartbeats 4000000 in
theorem m_toBytes (l : Launch) (Z : State) (a0 : Array Value) (hw : ∀ d ∈ tables_1, d.before a0 Z = true) (hs : ∀ d ∈ jdkStatics_1, d.before a0 Z = true) (p0 : Int32) (h0 : Heap)  :
    OMet l (⟨"java/lang/StringLatin1", "toBytes", "(C)[B"⟩ : MethodName) jdk_43_method_46_code 1 (Option.some (FieldType.array FieldType.byte)) [] ({ frames := 0, cells := 1, slots := 1, locals := 0 } : Room) Z h0 [] #[(.int p0)] (fun v h' => ∃ b, v = some (.ref b) ∧ h0.size ≤ b ∧ b < h'.size ∧ Ar Z h' b .byte 1 (fun i => .int (oupd (fun _ => (0 : Int32)) 0 (nar .byte p0.toInt8.toInt32) i))) := by
  refine OMet.of (own := "java/lang/StringLatin1") (nm := "toBytes") (plainFor_of_name pn_0) rfl rfl ?_
  intro p e s m below meth c T0 P0 hby hml hret hnm
  refine Done.step (T' := T0) (g' := (mkF m 0 #[.val (.int p0)] [])) (fun t kk => castTop (ef_toBytes m p0) kk) ?_
  refine Done.step (T' := T0) (g' := (mkF m 1 #[.val (.int p0)] [(.int (1 : Int32))])) (fun t kk => ?_) ?_
  · show Steps p.tables e below (T0.setTop (mkF m 0 #[.val (.int p0)] [])) t
    refine XS.iconst P0.here P0.x rfl (hb hby d_toBytes_0) ?_
    exact kk
  show Done _ _ _ _ _ _ _ _ _ _ _ _ _ _ _ T0 (mkF m 1 #[.val (.int p0)] [(.int (1 : Int32))])
  refine wNewA (aty := .byte) P0 (tw43 hw) (hb hby d_toBytes_1) rfl (N := 1) rfl (cap := 1) (Nat.le_refl _) (by decide) (by decide) (by decide) (ad := "[B") (by decide) (ty := .byte) (dv := (.int (0 : Int32))) rfl rfl (k' := 1) (n' := 1) rfl rfl (fun T1 h3 b4 g5 lt6 P2 E7 A8 X9 => ?_)
  have ge_b4 : h0.size ≤ b4 := by have := P0.ge; omega
  show Done _ _ _ _ _ _ _ _ _ _ _ _ _ _ _ T1 (mkF m 3 #[.val (.int p0)] [(.ref b4)])
  refine Done.step (T' := T1) (g' := (mkF m 7 #[.val (.int p0)] [(.int p0.toInt8.toInt32), (.int (0 : Int32)), (.ref b4), (.ref b4)])) (fun t kk => ?_) ?_
  · show Steps p.tables e below (T1.setTop (mkF m 3 #[.val (.int p0)] [(.ref b4)])) t
    refine XS.dup P2.here P2.x rfl (hb hby d_toBytes_3) rfl rfl ?_
    show Steps p.tables e below (T1.setTop (mkF m 4 #[.val (.int p0)] [(.ref b4), (.ref b4)])) t
    refine XS.iconst P2.here P2.x rfl (hb hby d_toBytes_4) ?_
    show Steps p.tables e below (T1.setTop (mkF m 5 #[.val (.int p0)] [(.int (0 : Int32)), (.ref b4), (.ref b4)])) t
    refine XS.iloadN P2.here P2.x rfl (hb hby d_toBytes_5) rfl ?_
    show Steps p.tables e below (T1.setTop (mkF m 6 #[.val (.int p0)] [(.int p0), (.int (0 : Int32)), (.ref b4), (.ref b4)])) t
    refine XS.i2b P2.here P2.x rfl (hb hby d_toBytes_6) rfl ?_
    exact kk
  show Done _ _ _ _ _ _ _ _ _ _ _ _ _ _ _ T1 (mkF m 7 #[.val (.int p0)] [(.int p0.toInt8.toInt32), (.int (0 : Int32)), (.ref b4), (.ref b4)])
  refine wBastore P2 (f := (fun _ => (0 : Int32))) A8 (j := (0 : Int32)) (i := 0) rfl (by decide) (Or.inr ge_b4) (hb hby d_toBytes_7) rfl (fun T10 h12 P11 W13 A14 => ?_)
  have szh12 : h12.size = h3.size := W13.size
  show Done _ _ _ _ _ _ _ _ _ _ _ _ _ _ _ T10 (mkF m 8 #[.val (.int p0)] [(.ref b4)])
  show Done _ _ _ _ _ _ _ _ _ _ _ _ _ _ _ T10 (mkF m 8 #[.val (.int p0)] [(.ref b4)])
  exact wRetA P11 hret rfl rfl (hb hby d_toBytes_8) ⟨b4, rfl, ge_b4, A14.lt, A14⟩
theorem ef_strInit (m : MethodId) (x0 : Addr) (x1 : Addr) (x2 : Int32) : entryFrame m #[(.ref x0), (.ref x1), (.int x2)] 3 = mkF m 0 #[.val (.ref x0), .val (.ref x1), .val (.int x2)] [] := by first | (simp [entryFrame, mkF, argsToLocals, Value.category]; done) | rfl
theorem d_strInit_0 : decode jdk_42_method_151_code 0 = .ok (.aload_n 0, 1) := by decide +kernel
theorem d_strInit_1 : decode jdk_42_method_151_code 1 = .ok (.invokespecial 1, 3) := by decide +kernel
theorem d_strInit_4 : decode jdk_42_method_151_code 4 = .ok (.aload_n 0, 1) := by decide +kernel
theorem d_strInit_5 : decode jdk_42_method_151_code 5 = .ok (.aload_n 1, 1) := by decide +kernel
theorem d_strInit_6 : decode jdk_42_method_151_code 6 = .ok (.putfield 9, 3) := by decide +kernel
theorem d_strInit_9 : decode jdk_42_method_151_code 9 = .ok (.aload_n 0, 1) := by decide +kernel
theorem d_strInit_10 : decode jdk_42_method_151_code 10 = .ok (.iload_n 2, 1) := by decide +kernel
theorem d_strInit_11 : decode jdk_42_method_151_code 11 = .ok (.putfield 15, 3) := by decide +kernel
theorem d_strInit_14 : decode jdk_42_method_151_code 14 = .ok (.return_, 1) := by decide +kernel
set_option maxRecDepth 65536 in
set_option maxHeartbeats 4000000 in
theorem m_strInit (l : Launch) (Z : State) (a0 : Array Value) (hw : ∀ d ∈ tables_1, d.before a0 Z = true) (hs : ∀ d ∈ jdkStatics_1, d.before a0 Z = true) (a : Addr) (p0 : Addr) (p1 : Int32) (h0 : Heap) (E0 : Exa Z h0 a "java/lang/String") (F_value : Fld Z h0 a "java/lang/String" "value" "[B" .null) (F_coder : Fld Z h0 a "java/lang/String" "coder" "B" (.int (0 : Int32))) :
    OMet l (⟨"java/lang/String", "<init>", "([BB)V"⟩ : MethodName) jdk_42_method_151_code 3 (Option.none : Option FieldType) [] ({ frames := 1, cells := 0, slots := 0, locals := 12 } : Room) Z h0 [a] #[(.ref a), (.ref p0), (.int p1)] (fun v h' => v = none ∧ Fld Z h' a "java/lang/String" "value" "[B" (.ref p0) ∧ Fld Z h' a "java/lang/String" "coder" "B" (.int p1.toInt8.toInt32)) := by
  refine OMet.of (own := "java/lang/String") (nm := "<init>") pn_1 rfl rfl ?_
  intro p e s m below meth c T0 P0 hby hml hret hnm
  refine Done.step (T' := T0) (g' := (mkF m 0 #[.val (.ref a), .val (.ref p0), .val (.int p1)] [])) (fun t kk => castTop (ef_strInit m a p0 p1) kk) ?_
  refine Done.step (T' := T0) (g' := (mkF m 1 #[.val (.ref a), .val (.ref p0), .val (.int p1)] [(.ref a)])) (fun t kk => ?_) ?_
  · show Steps p.tables e below (T0.setTop (mkF m 0 #[.val (.ref a), .val (.ref p0), .val (.int p1)] [])) t
    refine XS.aloadN P0.here P0.x rfl (hb hby d_strInit_0) rfl rfl ?_
    exact kk
  show Done _ _ _ _ _ _ _ _ _ _ _ _ _ _ _ T0 (mkF m 1 #[.val (.ref a), .val (.ref p0), .val (.int p1)] [(.ref a)])
  refine wInit P0 (tw48 hw) (tw8 hw) (tw9 hw) (by rw [hml]; rfl) (hb hby d_strInit_1) (by decide) (W := 0) (Nat.le_of_eq rfl) (by decide) rfl (fun T1 P2 => ?_)
  show Done _ _ _ _ _ _ _ _ _ _ _ _ _ _ _ T1 (mkF m 4 #[.val (.ref a), .val (.ref p0), .val (.int p1)] [])
  refine Done.step (T' := T1) (g' := (mkF m 6 #[.val (.ref a), .val (.ref p0), .val (.int p1)] [(.ref p0), (.ref a)])) (fun t kk => ?_) ?_
  · show Steps p.tables e below (T1.setTop (mkF m 4 #[.val (.ref a), .val (.ref p0), .val (.int p1)] [])) t
    refine XS.aloadN P2.here P2.x rfl (hb hby d_strInit_4) rfl rfl ?_
    show Steps p.tables e below (T1.setTop (mkF m 5 #[.val (.ref a), .val (.ref p0), .val (.int p1)] [(.ref a)])) t
    refine XS.aloadN P2.here P2.x rfl (hb hby d_strInit_5) rfl rfl ?_
    exact kk
  show Done _ _ _ _ _ _ _ _ _ _ _ _ _ _ _ T1 (mkF m 6 #[.val (.ref a), .val (.ref p0), .val (.int p1)] [(.ref p0), (.ref a)])
  refine wPut P2 (host := "") (Or.inl (tw49 hw)) Via.refl F_value E0 (Or.inr ⟨(tw50 hw), rfl, hnm⟩) (tw39 hw) (ty := (.array .byte)) (by decide) rfl rfl (Or.inl (by simp)) (hb hby d_strInit_6) rfl (fun T3 h5 P4 W6 F7 => ?_)
  have szh5 : h5.size = h0.size := W6.size
  show Done _ _ _ _ _ _ _ _ _ _ _ _ _ _ _ T3 (mkF m 9 #[.val (.ref a), .val (.ref p0), .val (.int p1)] [])
  refine Done.step (T' := T3) (g' := (mkF m 11 #[.val (.ref a), .val (.ref p0), .val (.int p1)] [(.int p1), (.ref a)])) (fun t kk => ?_) ?_
  · show Steps p.tables e below (T3.setTop (mkF m 9 #[.val (.ref a), .val (.ref p0), .val (.int p1)] [])) t
    refine XS.aloadN P4.here P4.x rfl (hb hby d_strInit_9) rfl rfl ?_
    show Steps p.tables e below (T3.setTop (mkF m 10 #[.val (.ref a), .val (.ref p0), .val (.int p1)] [(.ref a)])) t
    refine XS.iloadN P4.here P4.x rfl (hb hby d_strInit_10) rfl ?_
    exact kk
  have f8 := (F_coder.other W6 (Or.inr (slot_ne (Or.inr (tw52 hw)) (Or.inr (tw50 hw)) (by decide) (t := .byte) (t' := (.array .byte)) (by decide) (by decide))))
  have f9 := (E0.wr W6)
  show Done _ _ _ _ _ _ _ _ _ _ _ _ _ _ _ T3 (mkF m 11 #[.val (.ref a), .val (.ref p0), .val (.int p1)] [(.int p1), (.ref a)])
  refine wPutN P4 (tw51 hw) Via.refl f8 f9 (Or.inr ⟨(tw52 hw), rfl, hnm⟩) (tw39 hw) (ty := .byte) (by decide) (x' := p1.toInt8.toInt32) rfl (fits_nar_byte _) (Or.inl (by simp)) (hb hby d_strInit_11) rfl (fun T10 h12 P11 W13 F14 => ?_)
  have szh12 : h12.size = h5.size := W13.size
  show Done _ _ _ _ _ _ _ _ _ _ _ _ _ _ _ T10 (mkF m 14 #[.val (.ref a), .val (.ref p0), .val (.int p1)] [])
  show Done _ _ _ _ _ _ _ _ _ _ _ _ _ _ _ T10 (mkF m 14 #[.val (.ref a), .val (.ref p0), .val (.int p1)] [])
  have f15 := (F7.other W13 (Or.inr (slot_ne (Or.inr (tw50 hw)) (Or.inr (tw52 hw)) (by decide) (t := (.array .byte)) (t' := .byte) (by decide) (by decide))))
  exact wRetV P11 hret (hb hby d_strInit_14) ⟨rfl, f15, F14⟩
theorem ef_valueOf (m : MethodId) (x0 : Int32) : entryFrame m #[(.int x0)] 1 = mkF m 0 #[.val (.int x0)] [] := by first | (simp [entryFrame, mkF, argsToLocals, Value.category]; done) | rfl
theorem d_valueOf_0 : decode jdk_42_method_139_code 0 = .ok (.getstatic 38, 3) := by decide +kernel
theorem d_valueOf_3 : decode jdk_42_method_139_code 3 = .ok (.ifCond .eq 23, 3) := by decide +kernel
theorem d_valueOf_6 : decode jdk_42_method_139_code 6 = .ok (.iload_n 0, 1) := by decide +kernel
theorem d_valueOf_7 : decode jdk_42_method_139_code 7 = .ok (.invokestatic 1015, 3) := by decide +kernel
theorem d_valueOf_10 : decode jdk_42_method_139_code 10 = .ok (.ifCond .eq 16, 3) := by decide +kernel
theorem d_valueOf_13 : decode jdk_42_method_139_code 13 = .ok (.new 10, 3) := by decide +kernel
theorem d_valueOf_16 : decode jdk_42_method_139_code 16 = .ok (.dup, 1) := by decide +kernel
theorem d_valueOf_17 : decode jdk_42_method_139_code 17 = .ok (.iload_n 0, 1) := by decide +kernel
theorem d_valueOf_18 : decode jdk_42_method_139_code 18 = .ok (.invokestatic 1018, 3) := by decide +kernel
theorem d_valueOf_21 : decode jdk_42_method_139_code 21 = .ok (.iconst 0, 1) := by decide +kernel
theorem d_valueOf_22 : decode jdk_42_method_139_code 22 = .ok (.invokespecial 209, 3) := by decide +kernel
theorem d_valueOf_25 : decode jdk_42_method_139_code 25 = .ok (.areturn, 1) := by decide +kernel
set_option maxRecDepth 65536 in
set_option maxHeartbeats 4000000 in
theorem m_valueOf (l : Launch) (Z : State) (a0 : Array Value) (hw : ∀ d ∈ tables_1, d.before a0 Z = true) (hs : ∀ d ∈ jdkStatics_1, d.before a0 Z = true) (p0 : Int32) (cs : Int32) (h0 : Heap) (S0 : Sta Z h0 "java/lang/String" "COMPACT_STRINGS" "Z" (.int cs)) (hcs : ¬ (cs = (0 : Int32))) (hp : ¬ ((255 : Int32) < p0)) :
    OMet l (⟨"java/lang/String", "valueOf", "(C)Ljava/lang/String;"⟩ : MethodName) jdk_42_method_139_code 1 (Option.some (FieldType.object "java/lang/String")) [] ({ frames := 2, cells := 2, slots := 5, locals := 27 } : Room) Z h0 [] #[(.int p0)] (fun v h' => ∃ b d, v = some (.ref b) ∧ h0.size ≤ b ∧ b < h'.size ∧ h0.size ≤ d ∧ d < h'.size ∧ b ≠ d ∧ Exa Z h' b "java/lang/String" ∧ Fld Z h' b "java/lang/String" "value" "[B" (.ref d) ∧ Fld Z h' b "java/lang/String" "coder" "B" (.int 0) ∧ Ar Z h' d .byte 1 (fun i => .int (oupd (fun _ => (0 : Int32)) 0 (nar .byte p0.toInt8.toInt32) i))) := by
  refine OMet.of (own := "java/lang/String") (nm := "valueOf") pn_2 rfl rfl ?_
  intro p e s m below meth c T0 P0 hby hml hret hnm
  refine Done.step (T' := T0) (g' := (mkF m 0 #[.val (.int p0)] [])) (fun t kk => castTop (ef_valueOf m p0) kk) ?_
  show Done _ _ _ _ _ _ _ _ _ _ _ _ _ _ _ T0 (mkF m 0 #[.val (.int p0)] [])
  refine wGetS P0 (host := "") (Or.inl (tw33 hw)) Via.refl S0 (hb hby d_valueOf_0) rfl (fun T1 P2 => ?_)
  show Done _ _ _ _ _ _ _ _ _ _ _ _ _ _ _ T1 (mkF m 3 #[.val (.int p0)] [(.int cs)])
  refine Done.step (T' := T1) (g' := (mkF m 7 #[.val (.int p0)] [(.int p0)])) (fun t kk => ?_) ?_
  · show Steps p.tables e below (T1.setTop (mkF m 3 #[.val (.int p0)] [(.int cs)])) t
    refine XS.ifNo P2.here P2.x rfl (hb hby d_valueOf_3) rfl (i0W_eq_f hcs) ?_
    show Steps p.tables e below (T1.setTop (mkF m 6 #[.val (.int p0)] [])) t
    refine XS.iloadN P2.here P2.x rfl (hb hby d_valueOf_6) rfl ?_
    exact kk
  show Done _ _ _ _ _ _ _ _ _ _ _ _ _ _ _ T1 (mkF m 7 #[.val (.int p0)] [(.int p0)])
  refine wCallS P2 (m_canEncode l Z a0 hw hs p0 h0 hp) (tw34 hw) (tw35 hw) (tw36 hw) (tw37 hw) (by decide) (by rw [hml]; rfl) (lenOf pd_0 rfl) (argsL := [(.int p0)]) (rest := []) rfl rfl (W := 0) (Nat.le_of_eq rfl) (by decide) (by decide) (by decide) (by decide) (by simp) (hb hby d_valueOf_7) rfl (k' := 0) (n' := 0) rfl rfl ?_
  rintro T3 _ _ P4 - ⟨rfl, rfl⟩
  show Done _ _ _ _ _ _ _ _ _ _ _ _ _ _ _ T3 (mkF m 10 #[.val (.int p0)] [(.int (1 : Int32))])
  refine Done.step (T' := T3) (g' := (mkF m 13 #[.val (.int p0)] [])) (fun t kk => ?_) ?_
  · show Steps p.tables e below (T3.setTop (mkF m 10 #[.val (.int p0)] [(.int (1 : Int32))])) t
    refine XS.ifNo P4.here P4.x rfl (hb hby d_valueOf_10) rfl (i0W_eq_f (by decide)) ?_
    exact kk
  show Done _ _ _ _ _ _ _ _ _ _ _ _ _ _ _ T3 (mkF m 13 #[.val (.int p0)] [])
  refine wNew P4 (tw38 hw) (tw39 hw) (tw31 hw) (hb hby d_valueOf_13) rfl (by decide) (by decide) (k' := 1) (n' := 4) rfl rfl (fun T5 h7 b8 g9 lt10 P6 E11 X12 D13 => ?_)
  have ge_b8 : h0.size ≤ b8 := by have := P4.ge; omega
  have F14 : Fld Z h7 b8 "java/lang/String" "value" "[B" .null := D13 (Or.inr (tw50 hw)) (ty := (.array .byte)) (by decide)
  have F15 : Fld Z h7 b8 "java/lang/String" "coder" "B" (.int (0 : Int32)) := D13 (Or.inr (tw52 hw)) (ty := .byte) (by decide)
  show Done _ _ _ _ _ _ _ _ _ _ _ _ _ _ _ T5 (mkF m 16 #[.val (.int p0)] [(.ref b8)])
  refine Done.step (T' := T5) (g' := (mkF m 18 #[.val (.int p0)] [(.int p0), (.ref b8), (.ref b8)])) (fun t kk => ?_) ?_
  · show Steps p.tables e below (T5.setTop (mkF m 16 #[.val (.int p0)] [(.ref b8)])) t
    refine XS.dup P6.here P6.x rfl (hb hby d_valueOf_16) rfl rfl ?_
    show Steps p.tables e below (T5.setTop (mkF m 17 #[.val (.int p0)] [(.ref b8), (.ref b8)])) t
    refine XS.iloadN P6.here P6.x rfl (hb hby d_valueOf_17) rfl ?_
    exact kk
  show Done _ _ _ _ _ _ _ _ _ _ _ _ _ _ _ T5 (mkF m 18 #[.val (.int p0)] [(.int p0), (.ref b8), (.ref b8)])
  refine wCallS P6 (m_toBytes l Z a0 hw hs p0 h7) (tw40 hw) (tw41 hw) (tw36 hw) (tw42 hw) (by decide) (by rw [hml]; rfl) (lenOf pd_1 rfl) (argsL := [(.int p0)]) (rest := [(.ref b8), (.ref b8)]) rfl rfl (W := 2) (Nat.le_of_eq rfl) (by decide) (by decide) (by decide) (by decide) (by simp) (hb hby d_valueOf_18) rfl (k' := 2) (n' := 5) rfl rfl ?_
  rintro T16 h22 _ P17 K23 ⟨b18, rfl, ge19, lt20, A21⟩
  have szh22 : h7.size ≤ h22.size := K23.1
  show Done _ _ _ _ _ _ _ _ _ _ _ _ _ _ _ T16 (mkF m 21 #[.val (.int p0)] [(.ref b18), (.ref b8), (.ref b8)])
  refine Done.step (T' := T16) (g' := (mkF m 22 #[.val (.int p0)] [(.int (0 : Int32)), (.ref b18), (.ref b8), (.ref b8)])) (fun t kk => ?_) ?_
  · show Steps p.tables e below (T16.setTop (mkF m 21 #[.val (.int p0)] [(.ref b18), (.ref b8), (.ref b8)])) t
    refine XS.iconst P17.here P17.x rfl (hb hby d_valueOf_21) ?_
    exact kk
  have f28 := (X12.keep K23)
  have f29 := (F14.keep K23 nin0)
  have f30 := (F15.keep K23 nin0)
  show Done _ _ _ _ _ _ _ _ _ _ _ _ _ _ _ T16 (mkF m 22 #[.val (.int p0)] [(.int (0 : Int32)), (.ref b18), (.ref b8), (.ref b8)])
  refine wCallI P17 (m_strInit l Z a0 hw hs b8 b18 (0 : Int32) h22 f28  f29 f30) rfl (tw44 hw) (tw45 hw) (tw31 hw) (tw47 hw) (by decide) (a := b8) (by rw [hml]; rfl) (lenOf pd_2 rfl) (argsL := [(.ref b18), (.int (0 : Int32))]) (rest := [(.ref b8)]) rfl rfl (W := 1) (Nat.le_of_eq rfl) (by decide) (by decide) (by decide) (by decide) (allS (Or.inr ge_b8) all0) (hb hby d_valueOf_22) rfl (k' := 2) (n' := 5) rfl rfl ?_
  rintro T24 h31 _ P25 K32 ⟨rfl, F26, F27⟩
  have szh31 : h22.size ≤ h31.size := K32.1
  show Done _ _ _ _ _ _ _ _ _ _ _ _ _ _ _ T24 (mkF m 25 #[.val (.int p0)] [(.ref b8)])
  show Done _ _ _ _ _ _ _ _ _ _ _ _ _ _ _ T24 (mkF m 25 #[.val (.int p0)] [(.ref b8)])
  have f33 := (f28.keep K32)
  have f34 := (A21.keep K32 (ninS (by first | assumption | exact Ne.symm (by assumption) | exact adr_ne (by omega) | omega) nin0))
  exact wRetA P25 hret rfl rfl (hb hby d_valueOf_25) ⟨b8, b18, rfl, ge_b8, f33.lt, (by have := ge_b8; omega), f34.lt, (by first | exact adr_ne (by omega) | omega), f33, F26, F27, f34⟩
theorem ef_initR (m : MethodId) (x0 : Addr) (x1 : Int32) (x2 : Int32) (x3 : Int32) (x4 : UInt64) (x5 : Int32) (x6 : Int32) (x7 : Addr) : entryFrame m #[(.ref x0), (.int x1), (.int x2), (.int x3), (.double x4), (.int x5), (.int x6), (.ref x7)] 9 = mkF m 0 #[.val (.ref x0), .val (.int x1), .val (.int x2), .val (.int x3), .val (.double x4), .second, .val (.int x5), .val (.int x6), .val (.ref x7)] [] := by first | (simp [entryFrame, mkF, argsToLocals, Value.category]; done) | rfl
theorem d_initR_0 : decode prog_6_method_1_code 0 = .ok (.aload_n 0, 1) := by decide +kernel
theorem d_initR_1 : decode prog_6_method_1_code 1 = .ok (.invokespecial 1, 3) := by decide +kernel
theorem d_initR_4 : decode prog_6_method_1_code 4 = .ok (.aload_n 0, 1) := by decide +kernel
theorem d_initR_5 : decode prog_6_method_1_code 5 = .ok (.iload_n 1, 1) := by decide +kernel
theorem d_initR_6 : decode prog_6_method_1_code 6 = .ok (.putfield 7, 3) := by decide +kernel
theorem d_initR_9 : decode prog_6_method_1_code 9 = .ok (.aload_n 0, 1) := by decide +kernel
theorem d_initR_10 : decode prog_6_method_1_code 10 = .ok (.iload_n 2, 1) := by decide +kernel
theorem d_initR_11 : decode prog_6_method_1_code 11 = .ok (.putfield 13, 3) := by decide +kernel
theorem d_initR_14 : decode prog_6_method_1_code 14 = .ok (.aload_n 0, 1) := by decide +kernel
theorem d_initR_15 : decode prog_6_method_1_code 15 = .ok (.iload_n 3, 1) := by decide +kernel
theorem d_initR_16 : decode prog_6_method_1_code 16 = .ok (.putfield 16, 3) := by decide +kernel
theorem d_initR_19 : decode prog_6_method_1_code 19 = .ok (.aload_n 0, 1) := by decide +kernel
theorem d_initR_20 : decode prog_6_method_1_code 20 = .ok (.dload 4, 2) := by decide +kernel
theorem d_initR_22 : decode prog_6_method_1_code 22 = .ok (.putfield 19, 3) := by decide +kernel
theorem d_initR_25 : decode prog_6_method_1_code 25 = .ok (.aload_n 0, 1) := by decide +kernel
theorem d_initR_26 : decode prog_6_method_1_code 26 = .ok (.iload 6, 2) := by decide +kernel
theorem d_initR_28 : decode prog_6_method_1_code 28 = .ok (.putfield 23, 3) := by decide +kernel
theorem d_initR_31 : decode prog_6_method_1_code 31 = .ok (.aload_n 0, 1) := by decide +kernel
theorem d_initR_32 : decode prog_6_method_1_code 32 = .ok (.iload 7, 2) := by decide +kernel
theorem d_initR_34 : decode prog_6_method_1_code 34 = .ok (.putfield 27, 3) := by decide +kernel
theorem d_initR_37 : decode prog_6_method_1_code 37 = .ok (.aload_n 0, 1) := by decide +kernel
theorem d_initR_38 : decode prog_6_method_1_code 38 = .ok (.aload 8, 2) := by decide +kernel
theorem d_initR_40 : decode prog_6_method_1_code 40 = .ok (.putfield 30, 3) := by decide +kernel
theorem d_initR_43 : decode prog_6_method_1_code 43 = .ok (.return_, 1) := by decide +kernel
set_option maxRecDepth 65536 in
set_option maxHeartbeats 4000000 in
theorem m_initR (l : Launch) (Z : State) (a0 : Array Value) (hw : ∀ d ∈ tables_1, d.before a0 Z = true) (hs : ∀ d ∈ jdkStatics_1, d.before a0 Z = true) (a : Addr) (p0 : Int32) (p1 : Int32) (p2 : Int32) (p3 : UInt64) (p4 : Int32) (p5 : Int32) (p6 : Addr) (h0 : Heap) (E0 : Exa Z h0 a "com/example/roundsmith/roundsmith/network/Street") (b4 : p4 = 0 ∨ p4 = 1) (b5 : p5 = 0 ∨ p5 = 1) (F_index : Fld Z h0 a "com/example/roundsmith/roundsmith/network/Street" "index" "I" (.int (0 : Int32))) (F_from : Fld Z h0 a "com/example/roundsmith/roundsmith/network/Street" "from" "I" (.int (0 : Int32))) (F_to : Fld Z h0 a "com/example/roundsmith/roundsmith/network/Street" "to" "I" (.int (0 : Int32))) (F_length : Fld Z h0 a "com/example/roundsmith/roundsmith/network/Street" "length" "D" (.double (0 : UInt64))) (F_required : Fld Z h0 a "com/example/roundsmith/roundsmith/network/Street" "required" "Z" (.int (0 : Int32))) (F_oneWay : Fld Z h0 a "com/example/roundsmith/roundsmith/network/Street" "oneWay" "Z" (.int (0 : Int32))) (F_name : Fld Z h0 a "com/example/roundsmith/roundsmith/network/Street" "name" "Ljava/lang/String;" .null) :
    OMet l (⟨"com/example/roundsmith/roundsmith/network/Street", "<init>", "(IIIDZZLjava/lang/String;)V"⟩ : MethodName) prog_6_method_1_code 9 (Option.none : Option FieldType) [] ({ frames := 1, cells := 0, slots := 0, locals := 12 } : Room) Z h0 [a] #[(.ref a), (.int p0), (.int p1), (.int p2), (.double p3), (.int p4), (.int p5), (.ref p6)] (fun v h' => v = none ∧ Fld Z h' a "com/example/roundsmith/roundsmith/network/Street" "index" "I" (.int p0) ∧ Fld Z h' a "com/example/roundsmith/roundsmith/network/Street" "from" "I" (.int p1) ∧ Fld Z h' a "com/example/roundsmith/roundsmith/network/Street" "to" "I" (.int p2) ∧ Fld Z h' a "com/example/roundsmith/roundsmith/network/Street" "length" "D" (.double p3) ∧ Fld Z h' a "com/example/roundsmith/roundsmith/network/Street" "required" "Z" (.int p4) ∧ Fld Z h' a "com/example/roundsmith/roundsmith/network/Street" "oneWay" "Z" (.int p5) ∧ Fld Z h' a "com/example/roundsmith/roundsmith/network/Street" "name" "Ljava/lang/String;" (.ref p6)) := by
  refine OMet.of (own := "com/example/roundsmith/roundsmith/network/Street") (nm := "<init>") (plainFor_of_name pn_3) rfl rfl ?_
  intro p e s m below meth c T0 P0 hby hml hret hnm
  refine Done.step (T' := T0) (g' := (mkF m 0 #[.val (.ref a), .val (.int p0), .val (.int p1), .val (.int p2), .val (.double p3), .second, .val (.int p4), .val (.int p5), .val (.ref p6)] [])) (fun t kk => castTop (ef_initR m a p0 p1 p2 p3 p4 p5 p6) kk) ?_
  refine Done.step (T' := T0) (g' := (mkF m 1 #[.val (.ref a), .val (.int p0), .val (.int p1), .val (.int p2), .val (.double p3), .second, .val (.int p4), .val (.int p5), .val (.ref p6)] [(.ref a)])) (fun t kk => ?_) ?_
  · show Steps p.tables e below (T0.setTop (mkF m 0 #[.val (.ref a), .val (.int p0), .val (.int p1), .val (.int p2), .val (.double p3), .second, .val (.int p4), .val (.int p5), .val (.ref p6)] [])) t
    refine XS.aloadN P0.here P0.x rfl (hb hby d_initR_0) rfl rfl ?_
    exact kk
  show Done _ _ _ _ _ _ _ _ _ _ _ _ _ _ _ T0 (mkF m 1 #[.val (.ref a), .val (.int p0), .val (.int p1), .val (.int p2), .val (.double p3), .second, .val (.int p4), .val (.int p5), .val (.ref p6)] [(.ref a)])
  refine wInit P0 (tw7 hw) (tw8 hw) (tw9 hw) (by rw [hml]; rfl) (hb hby d_initR_1) (by decide) (W := 0) (Nat.le_of_eq rfl) (by decide) rfl (fun T1 P2 => ?_)
  show Done _ _ _ _ _ _ _ _ _ _ _ _ _ _ _ T1 (mkF m 4 #[.val (.ref a), .val (.int p0), .val (.int p1), .val (.int p2), .val (.double p3), .second, .val (.int p4), .val (.int p5), .val (.ref p6)] [])
  refine Done.step (T' := T1) (g' := (mkF m 6 #[.val (.ref a), .val (.int p0), .val (.int p1), .val (.int p2), .val (.double p3), .second, .val (.int p4), .val (.int p5), .val (.ref p6)] [(.int p0), (.ref a)])) (fun t kk => ?_) ?_
  · show Steps p.tables e below (T1.setTop (mkF m 4 #[.val (.ref a), .val (.int p0), .val (.int p1), .val (.int p2), .val (.double p3), .second, .val (.int p4), .val (.int p5), .val (.ref p6)] [])) t
    refine XS.aloadN P2.here P2.x rfl (hb hby d_initR_4) rfl rfl ?_
    show Steps p.tables e below (T1.setTop (mkF m 5 #[.val (.ref a), .val (.int p0), .val (.int p1), .val (.int p2), .val (.double p3), .second, .val (.int p4), .val (.int p5), .val (.ref p6)] [(.ref a)])) t
    refine XS.iloadN P2.here P2.x rfl (hb hby d_initR_5) rfl ?_
    exact kk
  show Done _ _ _ _ _ _ _ _ _ _ _ _ _ _ _ T1 (mkF m 6 #[.val (.ref a), .val (.int p0), .val (.int p1), .val (.int p2), .val (.double p3), .second, .val (.int p4), .val (.int p5), .val (.ref p6)] [(.int p0), (.ref a)])
  refine wPut P2 (host := "") (Or.inl (tw10 hw)) Via.refl F_index E0 (Or.inr ⟨(tw11 hw), rfl, hnm⟩) (tw2 hw) (ty := .int) (by decide) rfl rfl (Or.inl (by simp)) (hb hby d_initR_6) rfl (fun T3 h5 P4 W6 F7 => ?_)
  have szh5 : h5.size = h0.size := W6.size
  show Done _ _ _ _ _ _ _ _ _ _ _ _ _ _ _ T3 (mkF m 9 #[.val (.ref a), .val (.int p0), .val (.int p1), .val (.int p2), .val (.double p3), .second, .val (.int p4), .val (.int p5), .val (.ref p6)] [])
  refine Done.step (T' := T3) (g' := (mkF m 11 #[.val (.ref a), .val (.int p0), .val (.int p1), .val (.int p2), .val (.double p3), .second, .val (.int p4), .val (.int p5), .val (.ref p6)] [(.int p1), (.ref a)])) (fun t kk => ?_) ?_
  · show Steps p.tables e below (T3.setTop (mkF m 9 #[.val (.ref a), .val (.int p0), .val (.int p1), .val (.int p2), .val (.double p3), .second, .val (.int p4), .val (.int p5), .val (.ref p6)] [])) t
    refine XS.aloadN P4.here P4.x rfl (hb hby d_initR_9) rfl rfl ?_
    show Steps p.tables e below (T3.setTop (mkF m 10 #[.val (.ref a), .val (.int p0), .val (.int p1), .val (.int p2), .val (.double p3), .second, .val (.int p4), .val (.int p5), .val (.ref p6)] [(.ref a)])) t
    refine XS.iloadN P4.here P4.x rfl (hb hby d_initR_10) rfl ?_
    exact kk
  have f8 := (F_from.other W6 (Or.inr (slot_ne (Or.inr (tw13 hw)) (Or.inr (tw11 hw)) (by decide) (t := .int) (t' := .int) (by decide) (by decide))))
  have f9 := (E0.wr W6)
  show Done _ _ _ _ _ _ _ _ _ _ _ _ _ _ _ T3 (mkF m 11 #[.val (.ref a), .val (.int p0), .val (.int p1), .val (.int p2), .val (.double p3), .second, .val (.int p4), .val (.int p5), .val (.ref p6)] [(.int p1), (.ref a)])
  refine wPut P4 (host := "") (Or.inl (tw12 hw)) Via.refl f8 f9 (Or.inr ⟨(tw13 hw), rfl, hnm⟩) (tw2 hw) (ty := .int) (by decide) rfl rfl (Or.inl (by simp)) (hb hby d_initR_11) rfl (fun T10 h12 P11 W13 F14 => ?_)
  have szh12 : h12.size = h5.size := W13.size
  show Done _ _ _ _ _ _ _ _ _ _ _ _ _ _ _ T10 (mkF m 14 #[.val (.ref a), .val (.int p0), .val (.int p1), .val (.int p2), .val (.double p3), .second, .val (.int p4), .val (.int p5), .val (.ref p6)] [])
  refine Done.step (T' := T10) (g' := (mkF m 16 #[.val (.ref a), .val (.int p0), .val (.int p1), .val (.int p2), .val (.double p3), .second, .val (.int p4), .val (.int p5), .val (.ref p6)] [(.int p2), (.ref a)])) (fun t kk => ?_) ?_
  · show Steps p.tables e below (T10.setTop (mkF m 14 #[.val (.ref a), .val (.int p0), .val (.int p1), .val (.int p2), .val (.double p3), .second, .val (.int p4), .val (.int p5), .val (.ref p6)] [])) t
    refine XS.aloadN P11.here P11.x rfl (hb hby d_initR_14) rfl rfl ?_
    show Steps p.tables e below (T10.setTop (mkF m 15 #[.val (.ref a), .val (.int p0), .val (.int p1), .val (.int p2), .val (.double p3), .second, .val (.int p4), .val (.int p5), .val (.ref p6)] [(.ref a)])) t
    refine XS.iloadN P11.here P11.x rfl (hb hby d_initR_15) rfl ?_
    exact kk
  have f15 := ((F_to.other W6 (Or.inr (slot_ne (Or.inr (tw15 hw)) (Or.inr (tw11 hw)) (by decide) (t := .int) (t' := .int) (by decide) (by decide)))).other W13 (Or.inr (slot_ne (Or.inr (tw15 hw)) (Or.inr (tw13 hw)) (by decide) (t := .int) (t' := .int) (by decide) (by decide))))
  have f16 := (f9.wr W13)
  show Done _ _ _ _ _ _ _ _ _ _ _ _ _ _ _ T10 (mkF m 16 #[.val (.ref a), .val (.int p0), .val (.int p1), .val (.int p2), .val (.double p3), .second, .val (.int p4), .val (.int p5), .val (.ref p6)] [(.int p2), (.ref a)])
  refine wPut P11 (host := "") (Or.inl (tw14 hw)) Via.refl f15 f16 (Or.inr ⟨(tw15 hw), rfl, hnm⟩) (tw2 hw) (ty := .int) (by decide) rfl rfl (Or.inl (by simp)) (hb hby d_initR_16) rfl (fun T17 h19 P18 W20 F21 => ?_)
  have szh19 : h19.size = h12.size := W20.size
  show Done _ _ _ _ _ _ _ _ _ _ _ _ _ _ _ T17 (mkF m 19 #[.val (.ref a), .val (.int p0), .val (.int p1), .val (.int p2), .val (.double p3), .second, .val (.int p4), .val (.int p5), .val (.ref p6)] [])
  refine Done.step (T' := T17) (g' := (mkF m 22 #[.val (.ref a), .val (.int p0), .val (.int p1), .val (.int p2), .val (.double p3), .second, .val (.int p4), .val (.int p5), .val (.ref p6)] [(.double p3), (.ref a)])) (fun t kk => ?_) ?_
  · show Steps p.tables e below (T17.setTop (mkF m 19 #[.val (.ref a), .val (.int p0), .val (.int p1), .val (.int p2), .val (.double p3), .second, .val (.int p4), .val (.int p5), .val (.ref p6)] [])) t
    refine XS.aloadN P18.here P18.x rfl (hb hby d_initR_19) rfl rfl ?_
    show Steps p.tables e below (T17.setTop (mkF m 20 #[.val (.ref a), .val (.int p0), .val (.int p1), .val (.int p2), .val (.double p3), .second, .val (.int p4), .val (.int p5), .val (.ref p6)] [(.ref a)])) t
    refine XS.dload P18.here P18.x rfl (hb hby d_initR_20) rfl ?_
    exact kk
  have f22 := (((F_length.other W6 (Or.inr (slot_ne (Or.inr (tw17 hw)) (Or.inr (tw11 hw)) (by decide) (t := .double) (t' := .int) (by decide) (by decide)))).other W13 (Or.inr (slot_ne (Or.inr (tw17 hw)) (Or.inr (tw13 hw)) (by decide) (t := .double) (t' := .int) (by decide) (by decide)))).other W20 (Or.inr (slot_ne (Or.inr (tw17 hw)) (Or.inr (tw15 hw)) (by decide) (t := .double) (t' := .int) (by decide) (by decide))))
  have f23 := (f16.wr W20)
  show Done _ _ _ _ _ _ _ _ _ _ _ _ _ _ _ T17 (mkF m 22 #[.val (.ref a), .val (.int p0), .val (.int p1), .val (.int p2), .val (.double p3), .second, .val (.int p4), .val (.int p5), .val (.ref p6)] [(.double p3), (.ref a)])
  refine wPut P18 (host := "") (Or.inl (tw16 hw)) Via.refl f22 f23 (Or.inr ⟨(tw17 hw), rfl, hnm⟩) (tw2 hw) (ty := .double) (by decide) rfl rfl (Or.inl (by simp)) (hb hby d_initR_22) rfl (fun T24 h26 P25 W27 F28 => ?_)
  have szh26 : h26.size = h19.size := W27.size
  show Done _ _ _ _ _ _ _ _ _ _ _ _ _ _ _ T24 (mkF m 25 #[.val (.ref a), .val (.int p0), .val (.int p1), .val (.int p2), .val (.double p3), .second, .val (.int p4), .val (.int p5), .val (.ref p6)] [])
  refine Done.step (T' := T24) (g' := (mkF m 28 #[.val (.ref a), .val (.int p0), .val (.int p1), .val (.int p2), .val (.double p3), .second, .val (.int p4), .val (.int p5), .val (.ref p6)] [(.int p4), (.ref a)])) (fun t kk => ?_) ?_
  · show Steps p.tables e below (T24.setTop (mkF m 25 #[.val (.ref a), .val (.int p0), .val (.int p1), .val (.int p2), .val (.double p3), .second, .val (.int p4), .val (.int p5), .val (.ref p6)] [])) t
    refine XS.aloadN P25.here P25.x rfl (hb hby d_initR_25) rfl rfl ?_
    show Steps p.tables e below (T24.setTop (mkF m 26 #[.val (.ref a), .val (.int p0), .val (.int p1), .val (.int p2), .val (.double p3), .second, .val (.int p4), .val (.int p5), .val (.ref p6)] [(.ref a)])) t
    refine XS.iload P25.here P25.x rfl (hb hby d_initR_26) rfl ?_
    exact kk
  have f29 := ((((F_required.other W6 (Or.inr (slot_ne (Or.inr (tw19 hw)) (Or.inr (tw11 hw)) (by decide) (t := .boolean) (t' := .int) (by decide) (by decide)))).other W13 (Or.inr (slot_ne (Or.inr (tw19 hw)) (Or.inr (tw13 hw)) (by decide) (t := .boolean) (t' := .int) (by decide) (by decide)))).other W20 (Or.inr (slot_ne (Or.inr (tw19 hw)) (Or.inr (tw15 hw)) (by decide) (t := .boolean) (t' := .int) (by decide) (by decide)))).other W27 (Or.inr (slot_ne (Or.inr (tw19 hw)) (Or.inr (tw17 hw)) (by decide) (t := .boolean) (t' := .double) (by decide) (by decide))))
  have f30 := (f23.wr W27)
  show Done _ _ _ _ _ _ _ _ _ _ _ _ _ _ _ T24 (mkF m 28 #[.val (.ref a), .val (.int p0), .val (.int p1), .val (.int p2), .val (.double p3), .second, .val (.int p4), .val (.int p5), .val (.ref p6)] [(.int p4), (.ref a)])
  refine wPut P25 (host := "") (Or.inl (tw18 hw)) Via.refl f29 f30 (Or.inr ⟨(tw19 hw), rfl, hnm⟩) (tw2 hw) (ty := .boolean) (by decide) (narrow_01 b4) (fits_01 b4) (Or.inl (by simp)) (hb hby d_initR_28) rfl (fun T31 h33 P32 W34 F35 => ?_)
  have szh33 : h33.size = h26.size := W34.size
  show Done _ _ _ _ _ _ _ _ _ _ _ _ _ _ _ T31 (mkF m 31 #[.val (.ref a), .val (.int p0), .val (.int p1), .val (.int p2), .val (.double p3), .second, .val (.int p4), .val (.int p5), .val (.ref p6)] [])
  refine Done.step (T' := T31) (g' := (mkF m 34 #[.val (.ref a), .val (.int p0), .val (.int p1), .val (.int p2), .val (.double p3), .second, .val (.int p4), .val (.int p5), .val (.ref p6)] [(.int p5), (.ref a)])) (fun t kk => ?_) ?_
  · show Steps p.tables e below (T31.setTop (mkF m 31 #[.val (.ref a), .val (.int p0), .val (.int p1), .val (.int p2), .val (.double p3), .second, .val (.int p4), .val (.int p5), .val (.ref p6)] [])) t
    refine XS.aloadN P32.here P32.x rfl (hb hby d_initR_31) rfl rfl ?_
    show Steps p.tables e below (T31.setTop (mkF m 32 #[.val (.ref a), .val (.int p0), .val (.int p1), .val (.int p2), .val (.double p3), .second, .val (.int p4), .val (.int p5), .val (.ref p6)] [(.ref a)])) t
    refine XS.iload P32.here P32.x rfl (hb hby d_initR_32) rfl ?_
    exact kk
  have f36 := (((((F_oneWay.other W6 (Or.inr (slot_ne (Or.inr (tw21 hw)) (Or.inr (tw11 hw)) (by decide) (t := .boolean) (t' := .int) (by decide) (by decide)))).other W13 (Or.inr (slot_ne (Or.inr (tw21 hw)) (Or.inr (tw13 hw)) (by decide) (t := .boolean) (t' := .int) (by decide) (by decide)))).other W20 (Or.inr (slot_ne (Or.inr (tw21 hw)) (Or.inr (tw15 hw)) (by decide) (t := .boolean) (t' := .int) (by decide) (by decide)))).other W27 (Or.inr (slot_ne (Or.inr (tw21 hw)) (Or.inr (tw17 hw)) (by decide) (t := .boolean) (t' := .double) (by decide) (by decide)))).other W34 (Or.inr (slot_ne (Or.inr (tw21 hw)) (Or.inr (tw19 hw)) (by decide) (t := .boolean) (t' := .boolean) (by decide) (by decide))))
  have f37 := (f30.wr W34)
  show Done _ _ _ _ _ _ _ _ _ _ _ _ _ _ _ T31 (mkF m 34 #[.val (.ref a), .val (.int p0), .val (.int p1), .val (.int p2), .val (.double p3), .second, .val (.int p4), .val (.int p5), .val (.ref p6)] [(.int p5), (.ref a)])
  refine wPut P32 (host := "") (Or.inl (tw20 hw)) Via.refl f36 f37 (Or.inr ⟨(tw21 hw), rfl, hnm⟩) (tw2 hw) (ty := .boolean) (by decide) (narrow_01 b5) (fits_01 b5) (Or.inl (by simp)) (hb hby d_initR_34) rfl (fun T38 h40 P39 W41 F42 => ?_)
  have szh40 : h40.size = h33.size := W41.size
  show Done _ _ _ _ _ _ _ _ _ _ _ _ _ _ _ T38 (mkF m 37 #[.val (.ref a), .val (.int p0), .val (.int p1), .val (.int p2), .val (.double p3), .second, .val (.int p4), .val (.int p5), .val (.ref p6)] [])
  refine Done.step (T' := T38) (g' := (mkF m 40 #[.val (.ref a), .val (.int p0), .val (.int p1), .val (.int p2), .val (.double p3), .second, .val (.int p4), .val (.int p5), .val (.ref p6)] [(.ref p6), (.ref a)])) (fun t kk => ?_) ?_
  · show Steps p.tables e below (T38.setTop (mkF m 37 #[.val (.ref a), .val (.int p0), .val (.int p1), .val (.int p2), .val (.double p3), .second, .val (.int p4), .val (.int p5), .val (.ref p6)] [])) t
    refine XS.aloadN P39.here P39.x rfl (hb hby d_initR_37) rfl rfl ?_
    show Steps p.tables e below (T38.setTop (mkF m 38 #[.val (.ref a), .val (.int p0), .val (.int p1), .val (.int p2), .val (.double p3), .second, .val (.int p4), .val (.int p5), .val (.ref p6)] [(.ref a)])) t
    refine XS.aload P39.here P39.x rfl (hb hby d_initR_38) rfl rfl ?_
    exact kk
  have f43 := ((((((F_name.other W6 (Or.inr (slot_ne (Or.inr (tw23 hw)) (Or.inr (tw11 hw)) (by decide) (t := (.object "java/lang/String")) (t' := .int) (by decide) (by decide)))).other W13 (Or.inr (slot_ne (Or.inr (tw23 hw)) (Or.inr (tw13 hw)) (by decide) (t := (.object "java/lang/String")) (t' := .int) (by decide) (by decide)))).other W20 (Or.inr (slot_ne (Or.inr (tw23 hw)) (Or.inr (tw15 hw)) (by decide) (t := (.object "java/lang/String")) (t' := .int) (by decide) (by decide)))).other W27 (Or.inr (slot_ne (Or.inr (tw23 hw)) (Or.inr (tw17 hw)) (by decide) (t := (.object "java/lang/String")) (t' := .double) (by decide) (by decide)))).other W34 (Or.inr (slot_ne (Or.inr (tw23 hw)) (Or.inr (tw19 hw)) (by decide) (t := (.object "java/lang/String")) (t' := .boolean) (by decide) (by decide)))).other W41 (Or.inr (slot_ne (Or.inr (tw23 hw)) (Or.inr (tw21 hw)) (by decide) (t := (.object "java/lang/String")) (t' := .boolean) (by decide) (by decide))))
  have f44 := (f37.wr W41)
  show Done _ _ _ _ _ _ _ _ _ _ _ _ _ _ _ T38 (mkF m 40 #[.val (.ref a), .val (.int p0), .val (.int p1), .val (.int p2), .val (.double p3), .second, .val (.int p4), .val (.int p5), .val (.ref p6)] [(.ref p6), (.ref a)])
  refine wPut P39 (host := "") (Or.inl (tw22 hw)) Via.refl f43 f44 (Or.inr ⟨(tw23 hw), rfl, hnm⟩) (tw2 hw) (ty := (.object "java/lang/String")) (by decide) rfl rfl (Or.inl (by simp)) (hb hby d_initR_40) rfl (fun T45 h47 P46 W48 F49 => ?_)
  have szh47 : h47.size = h40.size := W48.size
  show Done _ _ _ _ _ _ _ _ _ _ _ _ _ _ _ T45 (mkF m 43 #[.val (.ref a), .val (.int p0), .val (.int p1), .val (.int p2), .val (.double p3), .second, .val (.int p4), .val (.int p5), .val (.ref p6)] [])
  show Done _ _ _ _ _ _ _ _ _ _ _ _ _ _ _ T45 (mkF m 43 #[.val (.ref a), .val (.int p0), .val (.int p1), .val (.int p2), .val (.double p3), .second, .val (.int p4), .val (.int p5), .val (.ref p6)] [])
  have f50 := ((((((F7.other W13 (Or.inr (slot_ne (Or.inr (tw11 hw)) (Or.inr (tw13 hw)) (by decide) (t := .int) (t' := .int) (by decide) (by decide)))).other W20 (Or.inr (slot_ne (Or.inr (tw11 hw)) (Or.inr (tw15 hw)) (by decide) (t := .int) (t' := .int) (by decide) (by decide)))).other W27 (Or.inr (slot_ne (Or.inr (tw11 hw)) (Or.inr (tw17 hw)) (by decide) (t := .int) (t' := .double) (by decide) (by decide)))).other W34 (Or.inr (slot_ne (Or.inr (tw11 hw)) (Or.inr (tw19 hw)) (by decide) (t := .int) (t' := .boolean) (by decide) (by decide)))).other W41 (Or.inr (slot_ne (Or.inr (tw11 hw)) (Or.inr (tw21 hw)) (by decide) (t := .int) (t' := .boolean) (by decide) (by decide)))).other W48 (Or.inr (slot_ne (Or.inr (tw11 hw)) (Or.inr (tw23 hw)) (by decide) (t := .int) (t' := (.object "java/lang/String")) (by decide) (by decide))))
  have f51 := (((((F14.other W20 (Or.inr (slot_ne (Or.inr (tw13 hw)) (Or.inr (tw15 hw)) (by decide) (t := .int) (t' := .int) (by decide) (by decide)))).other W27 (Or.inr (slot_ne (Or.inr (tw13 hw)) (Or.inr (tw17 hw)) (by decide) (t := .int) (t' := .double) (by decide) (by decide)))).other W34 (Or.inr (slot_ne (Or.inr (tw13 hw)) (Or.inr (tw19 hw)) (by decide) (t := .int) (t' := .boolean) (by decide) (by decide)))).other W41 (Or.inr (slot_ne (Or.inr (tw13 hw)) (Or.inr (tw21 hw)) (by decide) (t := .int) (t' := .boolean) (by decide) (by decide)))).other W48 (Or.inr (slot_ne (Or.inr (tw13 hw)) (Or.inr (tw23 hw)) (by decide) (t := .int) (t' := (.object "java/lang/String")) (by decide) (by decide))))
  have f52 := ((((F21.other W27 (Or.inr (slot_ne (Or.inr (tw15 hw)) (Or.inr (tw17 hw)) (by decide) (t := .int) (t' := .double) (by decide) (by decide)))).other W34 (Or.inr (slot_ne (Or.inr (tw15 hw)) (Or.inr (tw19 hw)) (by decide) (t := .int) (t' := .boolean) (by decide) (by decide)))).other W41 (Or.inr (slot_ne (Or.inr (tw15 hw)) (Or.inr (tw21 hw)) (by decide) (t := .int) (t' := .boolean) (by decide) (by decide)))).other W48 (Or.inr (slot_ne (Or.inr (tw15 hw)) (Or.inr (tw23 hw)) (by decide) (t := .int) (t' := (.object "java/lang/String")) (by decide) (by decide))))
  have f53 := (((F28.other W34 (Or.inr (slot_ne (Or.inr (tw17 hw)) (Or.inr (tw19 hw)) (by decide) (t := .double) (t' := .boolean) (by decide) (by decide)))).other W41 (Or.inr (slot_ne (Or.inr (tw17 hw)) (Or.inr (tw21 hw)) (by decide) (t := .double) (t' := .boolean) (by decide) (by decide)))).other W48 (Or.inr (slot_ne (Or.inr (tw17 hw)) (Or.inr (tw23 hw)) (by decide) (t := .double) (t' := (.object "java/lang/String")) (by decide) (by decide))))
  have f54 := ((F35.other W41 (Or.inr (slot_ne (Or.inr (tw19 hw)) (Or.inr (tw21 hw)) (by decide) (t := .boolean) (t' := .boolean) (by decide) (by decide)))).other W48 (Or.inr (slot_ne (Or.inr (tw19 hw)) (Or.inr (tw23 hw)) (by decide) (t := .boolean) (t' := (.object "java/lang/String")) (by decide) (by decide))))
  have f55 := (F42.other W48 (Or.inr (slot_ne (Or.inr (tw21 hw)) (Or.inr (tw23 hw)) (by decide) (t := .boolean) (t' := (.object "java/lang/String")) (by decide) (by decide))))
  exact wRetV P46 hret (hb hby d_initR_43) ⟨rfl, f50, f51, f52, f53, f54, f55, F49⟩
theorem ef_initN (m : MethodId) (x0 : Addr) (x1 : Int32) (x2 : Int32) (x3 : Int32) (x4 : UInt64) (x5 : Int32) (x6 : Int32) : entryFrame m #[(.ref x0), (.int x1), (.int x2), (.int x3), (.double x4), (.int x5), (.int x6), .null] 9 = mkF m 0 #[.val (.ref x0), .val (.int x1), .val (.int x2), .val (.int x3), .val (.double x4), .second, .val (.int x5), .val (.int x6), .val .null] [] := by first | (simp [entryFrame, mkF, argsToLocals, Value.category]; done) | rfl
theorem d_initN_0 : decode prog_6_method_1_code 0 = .ok (.aload_n 0, 1) := by decide +kernel
theorem d_initN_1 : decode prog_6_method_1_code 1 = .ok (.invokespecial 1, 3) := by decide +kernel
theorem d_initN_4 : decode prog_6_method_1_code 4 = .ok (.aload_n 0, 1) := by decide +kernel
theorem d_initN_5 : decode prog_6_method_1_code 5 = .ok (.iload_n 1, 1) := by decide +kernel
theorem d_initN_6 : decode prog_6_method_1_code 6 = .ok (.putfield 7, 3) := by decide +kernel
theorem d_initN_9 : decode prog_6_method_1_code 9 = .ok (.aload_n 0, 1) := by decide +kernel
theorem d_initN_10 : decode prog_6_method_1_code 10 = .ok (.iload_n 2, 1) := by decide +kernel
theorem d_initN_11 : decode prog_6_method_1_code 11 = .ok (.putfield 13, 3) := by decide +kernel
theorem d_initN_14 : decode prog_6_method_1_code 14 = .ok (.aload_n 0, 1) := by decide +kernel
theorem d_initN_15 : decode prog_6_method_1_code 15 = .ok (.iload_n 3, 1) := by decide +kernel
theorem d_initN_16 : decode prog_6_method_1_code 16 = .ok (.putfield 16, 3) := by decide +kernel
theorem d_initN_19 : decode prog_6_method_1_code 19 = .ok (.aload_n 0, 1) := by decide +kernel
theorem d_initN_20 : decode prog_6_method_1_code 20 = .ok (.dload 4, 2) := by decide +kernel
theorem d_initN_22 : decode prog_6_method_1_code 22 = .ok (.putfield 19, 3) := by decide +kernel
theorem d_initN_25 : decode prog_6_method_1_code 25 = .ok (.aload_n 0, 1) := by decide +kernel
theorem d_initN_26 : decode prog_6_method_1_code 26 = .ok (.iload 6, 2) := by decide +kernel
theorem d_initN_28 : decode prog_6_method_1_code 28 = .ok (.putfield 23, 3) := by decide +kernel
theorem d_initN_31 : decode prog_6_method_1_code 31 = .ok (.aload_n 0, 1) := by decide +kernel
theorem d_initN_32 : decode prog_6_method_1_code 32 = .ok (.iload 7, 2) := by decide +kernel
theorem d_initN_34 : decode prog_6_method_1_code 34 = .ok (.putfield 27, 3) := by decide +kernel
theorem d_initN_37 : decode prog_6_method_1_code 37 = .ok (.aload_n 0, 1) := by decide +kernel
theorem d_initN_38 : decode prog_6_method_1_code 38 = .ok (.aload 8, 2) := by decide +kernel
theorem d_initN_40 : decode prog_6_method_1_code 40 = .ok (.putfield 30, 3) := by decide +kernel
theorem d_initN_43 : decode prog_6_method_1_code 43 = .ok (.return_, 1) := by decide +kernel
set_option maxRecDepth 65536 in
set_option maxHeartbeats 4000000 in
theorem m_initN (l : Launch) (Z : State) (a0 : Array Value) (hw : ∀ d ∈ tables_1, d.before a0 Z = true) (hs : ∀ d ∈ jdkStatics_1, d.before a0 Z = true) (a : Addr) (p0 : Int32) (p1 : Int32) (p2 : Int32) (p3 : UInt64) (p4 : Int32) (p5 : Int32) (h0 : Heap) (E0 : Exa Z h0 a "com/example/roundsmith/roundsmith/network/Street") (b4 : p4 = 0 ∨ p4 = 1) (b5 : p5 = 0 ∨ p5 = 1) (F_index : Fld Z h0 a "com/example/roundsmith/roundsmith/network/Street" "index" "I" (.int (0 : Int32))) (F_from : Fld Z h0 a "com/example/roundsmith/roundsmith/network/Street" "from" "I" (.int (0 : Int32))) (F_to : Fld Z h0 a "com/example/roundsmith/roundsmith/network/Street" "to" "I" (.int (0 : Int32))) (F_length : Fld Z h0 a "com/example/roundsmith/roundsmith/network/Street" "length" "D" (.double (0 : UInt64))) (F_required : Fld Z h0 a "com/example/roundsmith/roundsmith/network/Street" "required" "Z" (.int (0 : Int32))) (F_oneWay : Fld Z h0 a "com/example/roundsmith/roundsmith/network/Street" "oneWay" "Z" (.int (0 : Int32))) (F_name : Fld Z h0 a "com/example/roundsmith/roundsmith/network/Street" "name" "Ljava/lang/String;" .null) :
    OMet l (⟨"com/example/roundsmith/roundsmith/network/Street", "<init>", "(IIIDZZLjava/lang/String;)V"⟩ : MethodName) prog_6_method_1_code 9 (Option.none : Option FieldType) [] ({ frames := 1, cells := 0, slots := 0, locals := 12 } : Room) Z h0 [a] #[(.ref a), (.int p0), (.int p1), (.int p2), (.double p3), (.int p4), (.int p5), .null] (fun v h' => v = none ∧ Fld Z h' a "com/example/roundsmith/roundsmith/network/Street" "index" "I" (.int p0) ∧ Fld Z h' a "com/example/roundsmith/roundsmith/network/Street" "from" "I" (.int p1) ∧ Fld Z h' a "com/example/roundsmith/roundsmith/network/Street" "to" "I" (.int p2) ∧ Fld Z h' a "com/example/roundsmith/roundsmith/network/Street" "length" "D" (.double p3) ∧ Fld Z h' a "com/example/roundsmith/roundsmith/network/Street" "required" "Z" (.int p4) ∧ Fld Z h' a "com/example/roundsmith/roundsmith/network/Street" "oneWay" "Z" (.int p5) ∧ Fld Z h' a "com/example/roundsmith/roundsmith/network/Street" "name" "Ljava/lang/String;" .null) := by
  refine OMet.of (own := "com/example/roundsmith/roundsmith/network/Street") (nm := "<init>") (plainFor_of_name pn_3) rfl rfl ?_
  intro p e s m below meth c T0 P0 hby hml hret hnm
  refine Done.step (T' := T0) (g' := (mkF m 0 #[.val (.ref a), .val (.int p0), .val (.int p1), .val (.int p2), .val (.double p3), .second, .val (.int p4), .val (.int p5), .val .null] [])) (fun t kk => castTop (ef_initN m a p0 p1 p2 p3 p4 p5) kk) ?_
  refine Done.step (T' := T0) (g' := (mkF m 1 #[.val (.ref a), .val (.int p0), .val (.int p1), .val (.int p2), .val (.double p3), .second, .val (.int p4), .val (.int p5), .val .null] [(.ref a)])) (fun t kk => ?_) ?_
  · show Steps p.tables e below (T0.setTop (mkF m 0 #[.val (.ref a), .val (.int p0), .val (.int p1), .val (.int p2), .val (.double p3), .second, .val (.int p4), .val (.int p5), .val .null] [])) t
    refine XS.aloadN P0.here P0.x rfl (hb hby d_initN_0) rfl rfl ?_
    exact kk
  show Done _ _ _ _ _ _ _ _ _ _ _ _ _ _ _ T0 (mkF m 1 #[.val (.ref a), .val (.int p0), .val (.int p1), .val (.int p2), .val (.double p3), .second, .val (.int p4), .val (.int p5), .val .null] [(.ref a)])
  refine wInit P0 (tw7 hw) (tw8 hw) (tw9 hw) (by rw [hml]; rfl) (hb hby d_initN_1) (by decide) (W := 0) (Nat.le_of_eq rfl) (by decide) rfl (fun T1 P2 => ?_)
  show Done _ _ _ _ _ _ _ _ _ _ _ _ _ _ _ T1 (mkF m 4 #[.val (.ref a), .val (.int p0), .val (.int p1), .val (.int p2), .val (.double p3), .second, .val (.int p4), .val (.int p5), .val .null] [])
  refine Done.step (T' := T1) (g' := (mkF m 6 #[.val (.ref a), .val (.int p0), .val (.int p1), .val (.int p2), .val (.double p3), .second, .val (.int p4), .val (.int p5), .val .null] [(.int p0), (.ref a)])) (fun t kk => ?_) ?_
  · show Steps p.tables e below (T1.setTop (mkF m 4 #[.val (.ref a), .val (.int p0), .val (.int p1), .val (.int p2), .val (.double p3), .second, .val (.int p4), .val (.int p5), .val .null] [])) t
    refine XS.aloadN P2.here P2.x rfl (hb hby d_initN_4) rfl rfl ?_
    show Steps p.tables e below (T1.setTop (mkF m 5 #[.val (.ref a), .val (.int p0), .val (.int p1), .val (.int p2), .val (.double p3), .second, .val (.int p4), .val (.int p5), .val .null] [(.ref a)])) t
    refine XS.iloadN P2.here P2.x rfl (hb hby d_initN_5) rfl ?_
    exact kk
  show Done _ _ _ _ _ _ _ _ _ _ _ _ _ _ _ T1 (mkF m 6 #[.val (.ref a), .val (.int p0), .val (.int p1), .val (.int p2), .val (.double p3), .second, .val (.int p4), .val (.int p5), .val .null] [(.int p0), (.ref a)])
  refine wPut P2 (host := "") (Or.inl (tw10 hw)) Via.refl F_index E0 (Or.inr ⟨(tw11 hw), rfl, hnm⟩) (tw2 hw) (ty := .int) (by decide) rfl rfl (Or.inl (by simp)) (hb hby d_initN_6) rfl (fun T3 h5 P4 W6 F7 => ?_)
  have szh5 : h5.size = h0.size := W6.size
  show Done _ _ _ _ _ _ _ _ _ _ _ _ _ _ _ T3 (mkF m 9 #[.val (.ref a), .val (.int p0), .val (.int p1), .val (.int p2), .val (.double p3), .second, .val (.int p4), .val (.int p5), .val .null] [])
  refine Done.step (T' := T3) (g' := (mkF m 11 #[.val (.ref a), .val (.int p0), .val (.int p1), .val (.int p2), .val (.double p3), .second, .val (.int p4), .val (.int p5), .val .null] [(.int p1), (.ref a)])) (fun t kk => ?_) ?_
  · show Steps p.tables e below (T3.setTop (mkF m 9 #[.val (.ref a), .val (.int p0), .val (.int p1), .val (.int p2), .val (.double p3), .second, .val (.int p4), .val (.int p5), .val .null] [])) t
    refine XS.aloadN P4.here P4.x rfl (hb hby d_initN_9) rfl rfl ?_
    show Steps p.tables e below (T3.setTop (mkF m 10 #[.val (.ref a), .val (.int p0), .val (.int p1), .val (.int p2), .val (.double p3), .second, .val (.int p4), .val (.int p5), .val .null] [(.ref a)])) t
    refine XS.iloadN P4.here P4.x rfl (hb hby d_initN_10) rfl ?_
    exact kk
  have f8 := (F_from.other W6 (Or.inr (slot_ne (Or.inr (tw13 hw)) (Or.inr (tw11 hw)) (by decide) (t := .int) (t' := .int) (by decide) (by decide))))
  have f9 := (E0.wr W6)
  show Done _ _ _ _ _ _ _ _ _ _ _ _ _ _ _ T3 (mkF m 11 #[.val (.ref a), .val (.int p0), .val (.int p1), .val (.int p2), .val (.double p3), .second, .val (.int p4), .val (.int p5), .val .null] [(.int p1), (.ref a)])
  refine wPut P4 (host := "") (Or.inl (tw12 hw)) Via.refl f8 f9 (Or.inr ⟨(tw13 hw), rfl, hnm⟩) (tw2 hw) (ty := .int) (by decide) rfl rfl (Or.inl (by simp)) (hb hby d_initN_11) rfl (fun T10 h12 P11 W13 F14 => ?_)
  have szh12 : h12.size = h5.size := W13.size
  show Done _ _ _ _ _ _ _ _ _ _ _ _ _ _ _ T10 (mkF m 14 #[.val (.ref a), .val (.int p0), .val (.int p1), .val (.int p2), .val (.double p3), .second, .val (.int p4), .val (.int p5), .val .null] [])
  refine Done.step (T' := T10) (g' := (mkF m 16 #[.val (.ref a), .val (.int p0), .val (.int p1), .val (.int p2), .val (.double p3), .second, .val (.int p4), .val (.int p5), .val .null] [(.int p2), (.ref a)])) (fun t kk => ?_) ?_
  · show Steps p.tables e below (T10.setTop (mkF m 14 #[.val (.ref a), .val (.int p0), .val (.int p1), .val (.int p2), .val (.double p3), .second, .val (.int p4), .val (.int p5), .val .null] [])) t
    refine XS.aloadN P11.here P11.x rfl (hb hby d_initN_14) rfl rfl ?_
    show Steps p.tables e below (T10.setTop (mkF m 15 #[.val (.ref a), .val (.int p0), .val (.int p1), .val (.int p2), .val (.double p3), .second, .val (.int p4), .val (.int p5), .val .null] [(.ref a)])) t
    refine XS.iloadN P11.here P11.x rfl (hb hby d_initN_15) rfl ?_
    exact kk
  have f15 := ((F_to.other W6 (Or.inr (slot_ne (Or.inr (tw15 hw)) (Or.inr (tw11 hw)) (by decide) (t := .int) (t' := .int) (by decide) (by decide)))).other W13 (Or.inr (slot_ne (Or.inr (tw15 hw)) (Or.inr (tw13 hw)) (by decide) (t := .int) (t' := .int) (by decide) (by decide))))
  have f16 := (f9.wr W13)
  show Done _ _ _ _ _ _ _ _ _ _ _ _ _ _ _ T10 (mkF m 16 #[.val (.ref a), .val (.int p0), .val (.int p1), .val (.int p2), .val (.double p3), .second, .val (.int p4), .val (.int p5), .val .null] [(.int p2), (.ref a)])
  refine wPut P11 (host := "") (Or.inl (tw14 hw)) Via.refl f15 f16 (Or.inr ⟨(tw15 hw), rfl, hnm⟩) (tw2 hw) (ty := .int) (by decide) rfl rfl (Or.inl (by simp)) (hb hby d_initN_16) rfl (fun T17 h19 P18 W20 F21 => ?_)
  have szh19 : h19.size = h12.size := W20.size
  show Done _ _ _ _ _ _ _ _ _ _ _ _ _ _ _ T17 (mkF m 19 #[.val (.ref a), .val (.int p0), .val (.int p1), .val (.int p2), .val (.double p3), .second, .val (.int p4), .val (.int p5), .val .null] [])
  refine Done.step (T' := T17) (g' := (mkF m 22 #[.val (.ref a), .val (.int p0), .val (.int p1), .val (.int p2), .val (.double p3), .second, .val (.int p4), .val (.int p5), .val .null] [(.double p3), (.ref a)])) (fun t kk => ?_) ?_
  · show Steps p.tables e below (T17.setTop (mkF m 19 #[.val (.ref a), .val (.int p0), .val (.int p1), .val (.int p2), .val (.double p3), .second, .val (.int p4), .val (.int p5), .val .null] [])) t
    refine XS.aloadN P18.here P18.x rfl (hb hby d_initN_19) rfl rfl ?_
    show Steps p.tables e below (T17.setTop (mkF m 20 #[.val (.ref a), .val (.int p0), .val (.int p1), .val (.int p2), .val (.double p3), .second, .val (.int p4), .val (.int p5), .val .null] [(.ref a)])) t
    refine XS.dload P18.here P18.x rfl (hb hby d_initN_20) rfl ?_
    exact kk
  have f22 := (((F_length.other W6 (Or.inr (slot_ne (Or.inr (tw17 hw)) (Or.inr (tw11 hw)) (by decide) (t := .double) (t' := .int) (by decide) (by decide)))).other W13 (Or.inr (slot_ne (Or.inr (tw17 hw)) (Or.inr (tw13 hw)) (by decide) (t := .double) (t' := .int) (by decide) (by decide)))).other W20 (Or.inr (slot_ne (Or.inr (tw17 hw)) (Or.inr (tw15 hw)) (by decide) (t := .double) (t' := .int) (by decide) (by decide))))
  have f23 := (f16.wr W20)
  show Done _ _ _ _ _ _ _ _ _ _ _ _ _ _ _ T17 (mkF m 22 #[.val (.ref a), .val (.int p0), .val (.int p1), .val (.int p2), .val (.double p3), .second, .val (.int p4), .val (.int p5), .val .null] [(.double p3), (.ref a)])
  refine wPut P18 (host := "") (Or.inl (tw16 hw)) Via.refl f22 f23 (Or.inr ⟨(tw17 hw), rfl, hnm⟩) (tw2 hw) (ty := .double) (by decide) rfl rfl (Or.inl (by simp)) (hb hby d_initN_22) rfl (fun T24 h26 P25 W27 F28 => ?_)
  have szh26 : h26.size = h19.size := W27.size
  show Done _ _ _ _ _ _ _ _ _ _ _ _ _ _ _ T24 (mkF m 25 #[.val (.ref a), .val (.int p0), .val (.int p1), .val (.int p2), .val (.double p3), .second, .val (.int p4), .val (.int p5), .val .null] [])
  refine Done.step (T' := T24) (g' := (mkF m 28 #[.val (.ref a), .val (.int p0), .val (.int p1), .val (.int p2), .val (.double p3), .second, .val (.int p4), .val (.int p5), .val .null] [(.int p4), (.ref a)])) (fun t kk => ?_) ?_
  · show Steps p.tables e below (T24.setTop (mkF m 25 #[.val (.ref a), .val (.int p0), .val (.int p1), .val (.int p2), .val (.double p3), .second, .val (.int p4), .val (.int p5), .val .null] [])) t
    refine XS.aloadN P25.here P25.x rfl (hb hby d_initN_25) rfl rfl ?_
    show Steps p.tables e below (T24.setTop (mkF m 26 #[.val (.ref a), .val (.int p0), .val (.int p1), .val (.int p2), .val (.double p3), .second, .val (.int p4), .val (.int p5), .val .null] [(.ref a)])) t
    refine XS.iload P25.here P25.x rfl (hb hby d_initN_26) rfl ?_
    exact kk
  have f29 := ((((F_required.other W6 (Or.inr (slot_ne (Or.inr (tw19 hw)) (Or.inr (tw11 hw)) (by decide) (t := .boolean) (t' := .int) (by decide) (by decide)))).other W13 (Or.inr (slot_ne (Or.inr (tw19 hw)) (Or.inr (tw13 hw)) (by decide) (t := .boolean) (t' := .int) (by decide) (by decide)))).other W20 (Or.inr (slot_ne (Or.inr (tw19 hw)) (Or.inr (tw15 hw)) (by decide) (t := .boolean) (t' := .int) (by decide) (by decide)))).other W27 (Or.inr (slot_ne (Or.inr (tw19 hw)) (Or.inr (tw17 hw)) (by decide) (t := .boolean) (t' := .double) (by decide) (by decide))))
  have f30 := (f23.wr W27)
  show Done _ _ _ _ _ _ _ _ _ _ _ _ _ _ _ T24 (mkF m 28 #[.val (.ref a), .val (.int p0), .val (.int p1), .val (.int p2), .val (.double p3), .second, .val (.int p4), .val (.int p5), .val .null] [(.int p4), (.ref a)])
  refine wPut P25 (host := "") (Or.inl (tw18 hw)) Via.refl f29 f30 (Or.inr ⟨(tw19 hw), rfl, hnm⟩) (tw2 hw) (ty := .boolean) (by decide) (narrow_01 b4) (fits_01 b4) (Or.inl (by simp)) (hb hby d_initN_28) rfl (fun T31 h33 P32 W34 F35 => ?_)
  have szh33 : h33.size = h26.size := W34.size
  show Done _ _ _ _ _ _ _ _ _ _ _ _ _ _ _ T31 (mkF m 31 #[.val (.ref a), .val (.int p0), .val (.int p1), .val (.int p2), .val (.double p3), .second, .val (.int p4), .val (.int p5), .val .null] [])
  refine Done.step (T' := T31) (g' := (mkF m 34 #[.val (.ref a), .val (.int p0), .val (.int p1), .val (.int p2), .val (.double p3), .second, .val (.int p4), .val (.int p5), .val .null] [(.int p5), (.ref a)])) (fun t kk => ?_) ?_
  · show Steps p.tables e below (T31.setTop (mkF m 31 #[.val (.ref a), .val (.int p0), .val (.int p1), .val (.int p2), .val (.double p3), .second, .val (.int p4), .val (.int p5), .val .null] [])) t
    refine XS.aloadN P32.here P32.x rfl (hb hby d_initN_31) rfl rfl ?_
    show Steps p.tables e below (T31.setTop (mkF m 32 #[.val (.ref a), .val (.int p0), .val (.int p1), .val (.int p2), .val (.double p3), .second, .val (.int p4), .val (.int p5), .val .null] [(.ref a)])) t
    refine XS.iload P32.here P32.x rfl (hb hby d_initN_32) rfl ?_
    exact kk
  have f36 := (((((F_oneWay.other W6 (Or.inr (slot_ne (Or.inr (tw21 hw)) (Or.inr (tw11 hw)) (by decide) (t := .boolean) (t' := .int) (by decide) (by decide)))).other W13 (Or.inr (slot_ne (Or.inr (tw21 hw)) (Or.inr (tw13 hw)) (by decide) (t := .boolean) (t' := .int) (by decide) (by decide)))).other W20 (Or.inr (slot_ne (Or.inr (tw21 hw)) (Or.inr (tw15 hw)) (by decide) (t := .boolean) (t' := .int) (by decide) (by decide)))).other W27 (Or.inr (slot_ne (Or.inr (tw21 hw)) (Or.inr (tw17 hw)) (by decide) (t := .boolean) (t' := .double) (by decide) (by decide)))).other W34 (Or.inr (slot_ne (Or.inr (tw21 hw)) (Or.inr (tw19 hw)) (by decide) (t := .boolean) (t' := .boolean) (by decide) (by decide))))
  have f37 := (f30.wr W34)
  show Done _ _ _ _ _ _ _ _ _ _ _ _ _ _ _ T31 (mkF m 34 #[.val (.ref a), .val (.int p0), .val (.int p1), .val (.int p2), .val (.double p3), .second, .val (.int p4), .val (.int p5), .val .null] [(.int p5), (.ref a)])
  refine wPut P32 (host := "") (Or.inl (tw20 hw)) Via.refl f36 f37 (Or.inr ⟨(tw21 hw), rfl, hnm⟩) (tw2 hw) (ty := .boolean) (by decide) (narrow_01 b5) (fits_01 b5) (Or.inl (by simp)) (hb hby d_initN_34) rfl (fun T38 h40 P39 W41 F42 => ?_)
  have szh40 : h40.size = h33.size := W41.size
  show Done _ _ _ _ _ _ _ _ _ _ _ _ _ _ _ T38 (mkF m 37 #[.val (.ref a), .val (.int p0), .val (.int p1), .val (.int p2), .val (.double p3), .second, .val (.int p4), .val (.int p5), .val .null] [])
  refine Done.step (T' := T38) (g' := (mkF m 40 #[.val (.ref a), .val (.int p0), .val (.int p1), .val (.int p2), .val (.double p3), .second, .val (.int p4), .val (.int p5), .val .null] [.null, (.ref a)])) (fun t kk => ?_) ?_
  · show Steps p.tables e below (T38.setTop (mkF m 37 #[.val (.ref a), .val (.int p0), .val (.int p1), .val (.int p2), .val (.double p3), .second, .val (.int p4), .val (.int p5), .val .null] [])) t
    refine XS.aloadN P39.here P39.x rfl (hb hby d_initN_37) rfl rfl ?_
    show Steps p.tables e below (T38.setTop (mkF m 38 #[.val (.ref a), .val (.int p0), .val (.int p1), .val (.int p2), .val (.double p3), .second, .val (.int p4), .val (.int p5), .val .null] [(.ref a)])) t
    refine XS.aload P39.here P39.x rfl (hb hby d_initN_38) rfl rfl ?_
    exact kk
  have f43 := ((((((F_name.other W6 (Or.inr (slot_ne (Or.inr (tw23 hw)) (Or.inr (tw11 hw)) (by decide) (t := (.object "java/lang/String")) (t' := .int) (by decide) (by decide)))).other W13 (Or.inr (slot_ne (Or.inr (tw23 hw)) (Or.inr (tw13 hw)) (by decide) (t := (.object "java/lang/String")) (t' := .int) (by decide) (by decide)))).other W20 (Or.inr (slot_ne (Or.inr (tw23 hw)) (Or.inr (tw15 hw)) (by decide) (t := (.object "java/lang/String")) (t' := .int) (by decide) (by decide)))).other W27 (Or.inr (slot_ne (Or.inr (tw23 hw)) (Or.inr (tw17 hw)) (by decide) (t := (.object "java/lang/String")) (t' := .double) (by decide) (by decide)))).other W34 (Or.inr (slot_ne (Or.inr (tw23 hw)) (Or.inr (tw19 hw)) (by decide) (t := (.object "java/lang/String")) (t' := .boolean) (by decide) (by decide)))).other W41 (Or.inr (slot_ne (Or.inr (tw23 hw)) (Or.inr (tw21 hw)) (by decide) (t := (.object "java/lang/String")) (t' := .boolean) (by decide) (by decide))))
  have f44 := (f37.wr W41)
  show Done _ _ _ _ _ _ _ _ _ _ _ _ _ _ _ T38 (mkF m 40 #[.val (.ref a), .val (.int p0), .val (.int p1), .val (.int p2), .val (.double p3), .second, .val (.int p4), .val (.int p5), .val .null] [.null, (.ref a)])
  refine wPut P39 (host := "") (Or.inl (tw22 hw)) Via.refl f43 f44 (Or.inr ⟨(tw23 hw), rfl, hnm⟩) (tw2 hw) (ty := (.object "java/lang/String")) (by decide) rfl rfl (Or.inl (by simp)) (hb hby d_initN_40) rfl (fun T45 h47 P46 W48 F49 => ?_)
  have szh47 : h47.size = h40.size := W48.size
  show Done _ _ _ _ _ _ _ _ _ _ _ _ _ _ _ T45 (mkF m 43 #[.val (.ref a), .val (.int p0), .val (.int p1), .val (.int p2), .val (.double p3), .second, .val (.int p4), .val (.int p5), .val .null] [])
  show Done _ _ _ _ _ _ _ _ _ _ _ _ _ _ _ T45 (mkF m 43 #[.val (.ref a), .val (.int p0), .val (.int p1), .val (.int p2), .val (.double p3), .second, .val (.int p4), .val (.int p5), .val .null] [])
  have f50 := ((((((F7.other W13 (Or.inr (slot_ne (Or.inr (tw11 hw)) (Or.inr (tw13 hw)) (by decide) (t := .int) (t' := .int) (by decide) (by decide)))).other W20 (Or.inr (slot_ne (Or.inr (tw11 hw)) (Or.inr (tw15 hw)) (by decide) (t := .int) (t' := .int) (by decide) (by decide)))).other W27 (Or.inr (slot_ne (Or.inr (tw11 hw)) (Or.inr (tw17 hw)) (by decide) (t := .int) (t' := .double) (by decide) (by decide)))).other W34 (Or.inr (slot_ne (Or.inr (tw11 hw)) (Or.inr (tw19 hw)) (by decide) (t := .int) (t' := .boolean) (by decide) (by decide)))).other W41 (Or.inr (slot_ne (Or.inr (tw11 hw)) (Or.inr (tw21 hw)) (by decide) (t := .int) (t' := .boolean) (by decide) (by decide)))).other W48 (Or.inr (slot_ne (Or.inr (tw11 hw)) (Or.inr (tw23 hw)) (by decide) (t := .int) (t' := (.object "java/lang/String")) (by decide) (by decide))))
  have f51 := (((((F14.other W20 (Or.inr (slot_ne (Or.inr (tw13 hw)) (Or.inr (tw15 hw)) (by decide) (t := .int) (t' := .int) (by decide) (by decide)))).other W27 (Or.inr (slot_ne (Or.inr (tw13 hw)) (Or.inr (tw17 hw)) (by decide) (t := .int) (t' := .double) (by decide) (by decide)))).other W34 (Or.inr (slot_ne (Or.inr (tw13 hw)) (Or.inr (tw19 hw)) (by decide) (t := .int) (t' := .boolean) (by decide) (by decide)))).other W41 (Or.inr (slot_ne (Or.inr (tw13 hw)) (Or.inr (tw21 hw)) (by decide) (t := .int) (t' := .boolean) (by decide) (by decide)))).other W48 (Or.inr (slot_ne (Or.inr (tw13 hw)) (Or.inr (tw23 hw)) (by decide) (t := .int) (t' := (.object "java/lang/String")) (by decide) (by decide))))
  have f52 := ((((F21.other W27 (Or.inr (slot_ne (Or.inr (tw15 hw)) (Or.inr (tw17 hw)) (by decide) (t := .int) (t' := .double) (by decide) (by decide)))).other W34 (Or.inr (slot_ne (Or.inr (tw15 hw)) (Or.inr (tw19 hw)) (by decide) (t := .int) (t' := .boolean) (by decide) (by decide)))).other W41 (Or.inr (slot_ne (Or.inr (tw15 hw)) (Or.inr (tw21 hw)) (by decide) (t := .int) (t' := .boolean) (by decide) (by decide)))).other W48 (Or.inr (slot_ne (Or.inr (tw15 hw)) (Or.inr (tw23 hw)) (by decide) (t := .int) (t' := (.object "java/lang/String")) (by decide) (by decide))))
  have f53 := (((F28.other W34 (Or.inr (slot_ne (Or.inr (tw17 hw)) (Or.inr (tw19 hw)) (by decide) (t := .double) (t' := .boolean) (by decide) (by decide)))).other W41 (Or.inr (slot_ne (Or.inr (tw17 hw)) (Or.inr (tw21 hw)) (by decide) (t := .double) (t' := .boolean) (by decide) (by decide)))).other W48 (Or.inr (slot_ne (Or.inr (tw17 hw)) (Or.inr (tw23 hw)) (by decide) (t := .double) (t' := (.object "java/lang/String")) (by decide) (by decide))))
  have f54 := ((F35.other W41 (Or.inr (slot_ne (Or.inr (tw19 hw)) (Or.inr (tw21 hw)) (by decide) (t := .boolean) (t' := .boolean) (by decide) (by decide)))).other W48 (Or.inr (slot_ne (Or.inr (tw19 hw)) (Or.inr (tw23 hw)) (by decide) (t := .boolean) (t' := (.object "java/lang/String")) (by decide) (by decide))))
  have f55 := (F42.other W48 (Or.inr (slot_ne (Or.inr (tw21 hw)) (Or.inr (tw23 hw)) (by decide) (t := .boolean) (t' := (.object "java/lang/String")) (by decide) (by decide))))
  exact wRetV P46 hret (hb hby d_initN_43) ⟨rfl, f50, f51, f52, f53, f54, f55, F49⟩
theorem ef_drivable (m : MethodId) (x0 : Addr) (x1 : Int32) : entryFrame m #[(.ref x0), (.int x1)] 2 = mkF m 0 #[.val (.ref x0), .val (.int x1)] [] := by first | (simp [entryFrame, mkF, argsToLocals, Value.category]; done) | rfl
theorem d_drivable_0 : decode prog_6_method_9_code 0 = .ok (.aload_n 0, 1) := by decide +kernel
theorem d_drivable_1 : decode prog_6_method_9_code 1 = .ok (.getfield 27, 3) := by decide +kernel
theorem d_drivable_4 : decode prog_6_method_9_code 4 = .ok (.ifCond .eq 11, 3) := by decide +kernel
theorem d_drivable_15 : decode prog_6_method_9_code 15 = .ok (.iconst 1, 1) := by decide +kernel
theorem d_drivable_16 : decode prog_6_method_9_code 16 = .ok (.goto 4, 3) := by decide +kernel
theorem d_drivable_20 : decode prog_6_method_9_code 20 = .ok (.ireturn, 1) := by decide +kernel
theorem d_drivable_7 : decode prog_6_method_9_code 7 = .ok (.iload_n 1, 1) := by decide +kernel
theorem d_drivable_8 : decode prog_6_method_9_code 8 = .ok (.aload_n 0, 1) := by decide +kernel
theorem d_drivable_9 : decode prog_6_method_9_code 9 = .ok (.getfield 13, 3) := by decide +kernel
theorem d_drivable_12 : decode prog_6_method_9_code 12 = .ok (.if_icmp .ne 7, 3) := by decide +kernel
theorem d_drivable_19 : decode prog_6_method_9_code 19 = .ok (.iconst 0, 1) := by decide +kernel
set_option maxRecDepth 65536 in
set_option maxHeartbeats 4000000 in
theorem m_drivable (l : Launch) (Z : State) (a0 : Array Value) (hw : ∀ d ∈ tables_1, d.before a0 Z = true) (hs : ∀ d ∈ jdkStatics_1, d.before a0 Z = true) (a : Addr) (x ow fr : Int32) (h0 : Heap) (F1 : Fld Z h0 a "com/example/roundsmith/roundsmith/network/Street" "oneWay" "Z" (.int ow)) (F2 : Fld Z h0 a "com/example/roundsmith/roundsmith/network/Street" "from" "I" (.int fr)) :
    OMet l (⟨"com/example/roundsmith/roundsmith/network/Street", "drivableFrom", "(I)Z"⟩ : MethodName) prog_6_method_9_code 2 (Option.some FieldType.boolean) [] ({ frames := 0, cells := 0, slots := 0, locals := 0 } : Room) Z h0 [] #[(.ref a), (.int x)] (fun v h' => v = some (.int (if ow = (0 : Int32) ∨ x = fr then (1 : Int32) else (0 : Int32))) ∧ h0 = h') := by
  refine OMet.of (own := "com/example/roundsmith/roundsmith/network/Street") (nm := "drivableFrom") (plainFor_of_name pn_3) rfl rfl ?_
  intro p e s m below meth c T0 P0 hby hml hret hnm
  refine Done.step (T' := T0) (g' := (mkF m 0 #[.val (.ref a), .val (.int x)] [])) (fun t kk => castTop (ef_drivable m a x) kk) ?_
  refine Done.step (T' := T0) (g' := (mkF m 1 #[.val (.ref a), .val (.int x)] [(.ref a)])) (fun t kk => ?_) ?_
  · show Steps p.tables e below (T0.setTop (mkF m 0 #[.val (.ref a), .val (.int x)] [])) t
    refine XS.aloadN P0.here P0.x rfl (hb hby d_drivable_0) rfl rfl ?_
    exact kk
  show Done _ _ _ _ _ _ _ _ _ _ _ _ _ _ _ T0 (mkF m 1 #[.val (.ref a), .val (.int x)] [(.ref a)])
  refine wGet P0 (host := "") (Or.inl (tw20 hw)) Via.refl F1 (hb hby d_drivable_1) rfl (fun T1 P2 => ?_)
  show Done _ _ _ _ _ _ _ _ _ _ _ _ _ _ _ T1 (mkF m 4 #[.val (.ref a), .val (.int x)] [(.int ow)])
  by_cases hc : ow = (0 : Int32)
  · refine Done.step (T' := T1) (g' := (mkF m 20 #[.val (.ref a), .val (.int x)] [(.int (1 : Int32))])) (fun t kk => ?_) ?_
    · show Steps p.tables e below (T1.setTop (mkF m 4 #[.val (.ref a), .val (.int x)] [(.int ow)])) t
      refine XS.ifYes P2.here P2.x rfl (pc0 := 4) (pc' := 15) rfl (hb hby d_drivable_4) rfl (i0W_eq_t hc) (by decide) (by decide) ?_
      show Steps p.tables e below (T1.setTop (mkF m 15 #[.val (.ref a), .val (.int x)] [])) t
      refine XS.iconst P2.here P2.x rfl (hb hby d_drivable_15) ?_
      show Steps p.tables e below (T1.setTop (mkF m 16 #[.val (.ref a), .val (.int x)] [(.int (1 : Int32))])) t
      refine XS.goto P2.here P2.x rfl (pc0 := 16) (pc' := 20) rfl (hb hby d_drivable_16) (by decide) (by decide) ?_
      exact kk
    show Done _ _ _ _ _ _ _ _ _ _ _ _ _ _ _ T1 (mkF m 20 #[.val (.ref a), .val (.int x)] [(.int (1 : Int32))])
    exact wRet P2 (t := .boolean) hret (narrow_01 (Or.inr rfl)) (Or.inl ⟨rfl, Or.inr (Or.inl rfl), _, rfl⟩) (hb hby d_drivable_20) ⟨by rw [if_pos (Or.inl hc)], rfl⟩
  · refine Done.step (T' := T1) (g' := (mkF m 9 #[.val (.ref a), .val (.int x)] [(.ref a), (.int x)])) (fun t kk => ?_) ?_
    · show Steps p.tables e below (T1.setTop (mkF m 4 #[.val (.ref a), .val (.int x)] [(.int ow)])) t
      refine XS.ifNo P2.here P2.x rfl (hb hby d_drivable_4) rfl (i0W_eq_f (show ¬ (ow = (0 : Int32)) from hc)) ?_
      show Steps p.tables e below (T1.setTop (mkF m 7 #[.val (.ref a), .val (.int x)] [])) t
      refine XS.iloadN P2.here P2.x rfl (hb hby d_drivable_7) rfl ?_
      show Steps p.tables e below (T1.setTop (mkF m 8 #[.val (.ref a), .val (.int x)] [(.int x)])) t
      refine XS.aloadN P2.here P2.x rfl (hb hby d_drivable_8) rfl rfl ?_
      exact kk
    show Done _ _ _ _ _ _ _ _ _ _ _ _ _ _ _ T1 (mkF m 9 #[.val (.ref a), .val (.int x)] [(.ref a), (.int x)])
    refine wGet P2 (host := "") (Or.inl (tw12 hw)) Via.refl F2 (hb hby d_drivable_9) rfl (fun T3 P4 => ?_)
    show Done _ _ _ _ _ _ _ _ _ _ _ _ _ _ _ T3 (mkF m 12 #[.val (.ref a), .val (.int x)] [(.int fr), (.int x)])
    by_cases hd : ¬ (x = fr)
    · refine Done.step (T' := T3) (g' := (mkF m 20 #[.val (.ref a), .val (.int x)] [(.int (0 : Int32))])) (fun t kk => ?_) ?_
      · show Steps p.tables e below (T3.setTop (mkF m 12 #[.val (.ref a), .val (.int x)] [(.int fr), (.int x)])) t
        refine XS.icmpYes P4.here P4.x rfl (pc0 := 12) (pc' := 19) rfl (hb hby d_drivable_12) rfl (iiW_ne_t hd) (by decide) (by decide) ?_
        show Steps p.tables e below (T3.setTop (mkF m 19 #[.val (.ref a), .val (.int x)] [])) t
        refine XS.iconst P4.here P4.x rfl (hb hby d_drivable_19) ?_
        exact kk
      show Done _ _ _ _ _ _ _ _ _ _ _ _ _ _ _ T3 (mkF m 20 #[.val (.ref a), .val (.int x)] [(.int (0 : Int32))])
      exact wRet P4 (t := .boolean) hret (narrow_01 (Or.inl rfl)) (Or.inl ⟨rfl, Or.inr (Or.inl rfl), _, rfl⟩) (hb hby d_drivable_20) ⟨by rw [if_neg (fun q => q.elim hc hd)], rfl⟩
    · refine Done.step (T' := T3) (g' := (mkF m 20 #[.val (.ref a), .val (.int x)] [(.int (1 : Int32))])) (fun t kk => ?_) ?_
      · show Steps p.tables e below (T3.setTop (mkF m 12 #[.val (.ref a), .val (.int x)] [(.int fr), (.int x)])) t
        refine XS.icmpNo P4.here P4.x rfl (hb hby d_drivable_12) rfl (iiW_ne_f (show ¬ (¬ (x = fr)) from hd)) ?_
        show Steps p.tables e below (T3.setTop (mkF m 15 #[.val (.ref a), .val (.int x)] [])) t
        refine XS.iconst P4.here P4.x rfl (hb hby d_drivable_15) ?_
        show Steps p.tables e below (T3.setTop (mkF m 16 #[.val (.ref a), .val (.int x)] [(.int (1 : Int32))])) t
        refine XS.goto P4.here P4.x rfl (pc0 := 16) (pc' := 20) rfl (hb hby d_drivable_16) (by decide) (by decide) ?_
        exact kk
      show Done _ _ _ _ _ _ _ _ _ _ _ _ _ _ _ T3 (mkF m 20 #[.val (.ref a), .val (.int x)] [(.int (1 : Int32))])
      exact wRet P4 (t := .boolean) hret (narrow_01 (Or.inr rfl)) (Or.inl ⟨rfl, Or.inr (Or.inl rfl), _, rfl⟩) (hb hby d_drivable_20) ⟨by rw [if_pos (Or.inr (Decidable.not_not.mp hd))], rfl⟩
theorem ef_law (m : MethodId) (x0 : Int32) (x1 : Int32) (x2 : Int32) (x3 : Int32) (x4 : Int32) : entryFrame m #[(.int x0), (.int x1), (.int x2), (.int x3), (.int x4)] maxLocals = mkF m 0 #[.val (.int x0), .val (.int x1), .val (.int x2), .val (.int x3), .val (.int x4), .unset, .unset, .unset, .unset, .unset, .unset, .unset, .unset, .unset] [] := by first | (simp [entryFrame, mkF, argsToLocals, Value.category, maxLocals]; done) | rfl
set_option maxRecDepth 65536 in
set_option maxHeartbeats 4000000 in
theorem m_law (l : Launch) (Z : State) (a0 : Array Value) (hw : ∀ d ∈ tables_1, d.before a0 Z = true) (hs : ∀ d ∈ jdkStatics_1, d.before a0 Z = true) (p0 p1 p2 p3 p4 : Int32) (cs : Int32) (h0 : Heap)  (S0 : Sta Z h0 "java/lang/String" "COMPACT_STRINGS" "Z" (.int cs)) (hcs : ¬ (cs = (0 : Int32))) :
    OMet l x code maxLocals ret tables_1 room_1 Z h0 [] #[(.int p0), (.int p1), (.int p2), (.int p3), (.int p4)] (fun v h' => v = some (.int 1)) := by
  refine OMet.of (own := "com/example/roundsmith/roundsmith/network/StreetDrivableFromPinLaw") (nm := "law") (plainFor_of_name pn_4) rfl rfl ?_
  intro p e s m below meth c T0 P0 hby hml hret hnm
  refine Done.step (T' := T0) (g' := (mkF m 0 #[.val (.int p0), .val (.int p1), .val (.int p2), .val (.int p3), .val (.int p4), .unset, .unset, .unset, .unset, .unset, .unset, .unset, .unset, .unset] [])) (fun t kk => castTop (ef_law m p0 p1 p2 p3 p4) kk) ?_
  refine Done.step (T' := T0) (g' := (mkF m 46 #[.val (.int p0), .val (.int p1), .val (.int p2), .val (.int p3), .val (.int p4), .val (.int (if ¬ ((p2 &&& (1 : Int32)) = (0 : Int32)) then (1 : Int32) else (0 : Int32))), .val (.int (if ¬ ((p2 &&& (2 : Int32)) = (0 : Int32)) then (1 : Int32) else (0 : Int32))), .val (.int (if ¬ ((p2 &&& (4 : Int32)) = (0 : Int32)) then (1 : Int32) else (0 : Int32))), .val .null, .unset, .unset, .unset, .unset, .unset] [(.int (p2 &&& (8 : Int32)))])) (fun t kk => ?_) ?_
  · show Steps p.tables e below (T0.setTop (mkF m 0 #[.val (.int p0), .val (.int p1), .val (.int p2), .val (.int p3), .val (.int p4), .unset, .unset, .unset, .unset, .unset, .unset, .unset, .unset, .unset] [])) t
    refine XS.iloadN P0.here P0.x rfl (hb hby at_0) rfl ?_
    show Steps p.tables e below (T0.setTop (mkF m 1 #[.val (.int p0), .val (.int p1), .val (.int p2), .val (.int p3), .val (.int p4), .unset, .unset, .unset, .unset, .unset, .unset, .unset, .unset, .unset] [(.int p2)])) t
    refine XS.iconst P0.here P0.x rfl (hb hby at_1) ?_
    show Steps p.tables e below (T0.setTop (mkF m 2 #[.val (.int p0), .val (.int p1), .val (.int p2), .val (.int p3), .val (.int p4), .unset, .unset, .unset, .unset, .unset, .unset, .unset, .unset, .unset] [(.int (1 : Int32)), (.int p2)])) t
    refine XS.iand P0.here P0.x rfl (hb hby at_2) rfl ?_
    show Steps p.tables e below (T0.setTop (mkF m 3 #[.val (.int p0), .val (.int p1), .val (.int p2), .val (.int p3), .val (.int p4), .unset, .unset, .unset, .unset, .unset, .unset, .unset, .unset, .unset] [(.int (p2 &&& (1 : Int32)))])) t
    suffices kk2 : Steps p.tables e below (T0.setTop (mkF m 11 #[.val (.int p0), .val (.int p1), .val (.int p2), .val (.int p3), .val (.int p4), .unset, .unset, .unset, .unset, .unset, .unset, .unset, .unset, .unset] [(.int (if ¬ ((p2 &&& (1 : Int32)) = (0 : Int32)) then (1 : Int32) else (0 : Int32)))])) t by
      by_cases hc1 : (p2 &&& (1 : Int32)) = (0 : Int32)
      · rw [show (if ¬ ((p2 &&& (1 : Int32)) = (0 : Int32)) then (1 : Int32) else (0 : Int32)) = (0 : Int32) from if_neg (not_not_intro hc1)] at kk2
        show Steps p.tables e below (T0.setTop (mkF m 3 #[.val (.int p0), .val (.int p1), .val (.int p2), .val (.int p3), .val (.int p4), .unset, .unset, .unset, .unset, .unset, .unset, .unset, .unset, .unset] [(.int (p2 &&& (1 : Int32)))])) t
        refine XS.ifYes P0.here P0.x rfl (pc0 := 3) (pc' := 10) rfl (hb hby at_3) rfl (i0W_eq_t hc1) (by decide) (by decide) ?_
        show Steps p.tables e below (T0.setTop (mkF m 10 #[.val (.int p0), .val (.int p1), .val (.int p2), .val (.int p3), .val (.int p4), .unset, .unset, .unset, .unset, .unset, .unset, .unset, .unset, .unset] [])) t
        refine XS.iconst P0.here P0.x rfl (hb hby at_10) ?_
        exact kk2
      · rw [show (if ¬ ((p2 &&& (1 : Int32)) = (0 : Int32)) then (1 : Int32) else (0 : Int32)) = (1 : Int32) from if_pos hc1] at kk2
        show Steps p.tables e below (T0.setTop (mkF m 3 #[.val (.int p0), .val (.int p1), .val (.int p2), .val (.int p3), .val (.int p4), .unset, .unset, .unset, .unset, .unset, .unset, .unset, .unset, .unset] [(.int (p2 &&& (1 : Int32)))])) t
        refine XS.ifNo P0.here P0.x rfl (hb hby at_3) rfl (i0W_eq_f hc1) ?_
        show Steps p.tables e below (T0.setTop (mkF m 6 #[.val (.int p0), .val (.int p1), .val (.int p2), .val (.int p3), .val (.int p4), .unset, .unset, .unset, .unset, .unset, .unset, .unset, .unset, .unset] [])) t
        refine XS.iconst P0.here P0.x rfl (hb hby at_6) ?_
        show Steps p.tables e below (T0.setTop (mkF m 7 #[.val (.int p0), .val (.int p1), .val (.int p2), .val (.int p3), .val (.int p4), .unset, .unset, .unset, .unset, .unset, .unset, .unset, .unset, .unset] [(.int (1 : Int32))])) t
        refine XS.goto P0.here P0.x rfl (pc0 := 7) (pc' := 11) rfl (hb hby at_7) (by decide) (by decide) ?_
        exact kk2
    show Steps p.tables e below (T0.setTop (mkF m 11 #[.val (.int p0), .val (.int p1), .val (.int p2), .val (.int p3), .val (.int p4), .unset, .unset, .unset, .unset, .unset, .unset, .unset, .unset, .unset] [(.int (if ¬ ((p2 &&& (1 : Int32)) = (0 : Int32)) then (1 : Int32) else (0 : Int32)))])) t
    refine XS.istore P0.here P0.x rfl (hb hby at_11) rfl (l' := #[.val (.int p0), .val (.int p1), .val (.int p2), .val (.int p3), .val (.int p4), .val (.int (if ¬ ((p2 &&& (1 : Int32)) = (0 : Int32)) then (1 : Int32) else (0 : Int32))), .unset, .unset, .unset, .unset, .unset, .unset, .unset, .unset]) rfl ?_
    show Steps p.tables e below (T0.setTop (mkF m 13 #[.val (.int p0), .val (.int p1), .val (.int p2), .val (.int p3), .val (.int p4), .val (.int (if ¬ ((p2 &&& (1 : Int32)) = (0 : Int32)) then (1 : Int32) else (0 : Int32))), .unset, .unset, .unset, .unset, .unset, .unset, .unset, .unset] [])) t
    refine XS.iloadN P0.here P0.x rfl (hb hby at_13) rfl ?_
    show Steps p.tables e below (T0.setTop (mkF m 14 #[.val (.int p0), .val (.int p1), .val (.int p2), .val (.int p3), .val (.int p4), .val (.int (if ¬ ((p2 &&& (1 : Int32)) = (0 : Int32)) then (1 : Int32) else (0 : Int32))), .unset, .unset, .unset, .unset, .unset, .unset, .unset, .unset] [(.int p2)])) t
    refine XS.iconst P0.here P0.x rfl (hb hby at_14) ?_
    show Steps p.tables e below (T0.setTop (mkF m 15 #[.val (.int p0), .val (.int p1), .val (.int p2), .val (.int p3), .val (.int p4), .val (.int (if ¬ ((p2 &&& (1 : Int32)) = (0 : Int32)) then (1 : Int32) else (0 : Int32))), .unset, .unset, .unset, .unset, .unset, .unset, .unset, .unset] [(.int (2 : Int32)), (.int p2)])) t
    refine XS.iand P0.here P0.x rfl (hb hby at_15) rfl ?_
    show Steps p.tables e below (T0.setTop (mkF m 16 #[.val (.int p0), .val (.int p1), .val (.int p2), .val (.int p3), .val (.int p4), .val (.int (if ¬ ((p2 &&& (1 : Int32)) = (0 : Int32)) then (1 : Int32) else (0 : Int32))), .unset, .unset, .unset, .unset, .unset, .unset, .unset, .unset] [(.int (p2 &&& (2 : Int32)))])) t
    suffices kk4 : Steps p.tables e below (T0.setTop (mkF m 24 #[.val (.int p0), .val (.int p1), .val (.int p2), .val (.int p3), .val (.int p4), .val (.int (if ¬ ((p2 &&& (1 : Int32)) = (0 : Int32)) then (1 : Int32) else (0 : Int32))), .unset, .unset, .unset, .unset, .unset, .unset, .unset, .unset] [(.int (if ¬ ((p2 &&& (2 : Int32)) = (0 : Int32)) then (1 : Int32) else (0 : Int32)))])) t by
      by_cases hc3 : (p2 &&& (2 : Int32)) = (0 : Int32)
      · rw [show (if ¬ ((p2 &&& (2 : Int32)) = (0 : Int32)) then (1 : Int32) else (0 : Int32)) = (0 : Int32) from if_neg (not_not_intro hc3)] at kk4
        show Steps p.tables e below (T0.setTop (mkF m 16 #[.val (.int p0), .val (.int p1), .val (.int p2), .val (.int p3), .val (.int p4), .val (.int (if ¬ ((p2 &&& (1 : Int32)) = (0 : Int32)) then (1 : Int32) else (0 : Int32))), .unset, .unset, .unset, .unset, .unset, .unset, .unset, .unset] [(.int (p2 &&& (2 : Int32)))])) t
        refine XS.ifYes P0.here P0.x rfl (pc0 := 16) (pc' := 23) rfl (hb hby at_16) rfl (i0W_eq_t hc3) (by decide) (by decide) ?_
        show Steps p.tables e below (T0.setTop (mkF m 23 #[.val (.int p0), .val (.int p1), .val (.int p2), .val (.int p3), .val (.int p4), .val (.int (if ¬ ((p2 &&& (1 : Int32)) = (0 : Int32)) then (1 : Int32) else (0 : Int32))), .unset, .unset, .unset, .unset, .unset, .unset, .unset, .unset] [])) t
        refine XS.iconst P0.here P0.x rfl (hb hby at_23) ?_
        exact kk4
      · rw [show (if ¬ ((p2 &&& (2 : Int32)) = (0 : Int32)) then (1 : Int32) else (0 : Int32)) = (1 : Int32) from if_pos hc3] at kk4
        show Steps p.tables e below (T0.setTop (mkF m 16 #[.val (.int p0), .val (.int p1), .val (.int p2), .val (.int p3), .val (.int p4), .val (.int (if ¬ ((p2 &&& (1 : Int32)) = (0 : Int32)) then (1 : Int32) else (0 : Int32))), .unset, .unset, .unset, .unset, .unset, .unset, .unset, .unset] [(.int (p2 &&& (2 : Int32)))])) t
        refine XS.ifNo P0.here P0.x rfl (hb hby at_16) rfl (i0W_eq_f hc3) ?_
        show Steps p.tables e below (T0.setTop (mkF m 19 #[.val (.int p0), .val (.int p1), .val (.int p2), .val (.int p3), .val (.int p4), .val (.int (if ¬ ((p2 &&& (1 : Int32)) = (0 : Int32)) then (1 : Int32) else (0 : Int32))), .unset, .unset, .unset, .unset, .unset, .unset, .unset, .unset] [])) t
        refine XS.iconst P0.here P0.x rfl (hb hby at_19) ?_
        show Steps p.tables e below (T0.setTop (mkF m 20 #[.val (.int p0), .val (.int p1), .val (.int p2), .val (.int p3), .val (.int p4), .val (.int (if ¬ ((p2 &&& (1 : Int32)) = (0 : Int32)) then (1 : Int32) else (0 : Int32))), .unset, .unset, .unset, .unset, .unset, .unset, .unset, .unset] [(.int (1 : Int32))])) t
        refine XS.goto P0.here P0.x rfl (pc0 := 20) (pc' := 24) rfl (hb hby at_20) (by decide) (by decide) ?_
        exact kk4
    show Steps p.tables e below (T0.setTop (mkF m 24 #[.val (.int p0), .val (.int p1), .val (.int p2), .val (.int p3), .val (.int p4), .val (.int (if ¬ ((p2 &&& (1 : Int32)) = (0 : Int32)) then (1 : Int32) else (0 : Int32))), .unset, .unset, .unset, .unset, .unset, .unset, .unset, .unset] [(.int (if ¬ ((p2 &&& (2 : Int32)) = (0 : Int32)) then (1 : Int32) else (0 : Int32)))])) t
    refine XS.istore P0.here P0.x rfl (hb hby at_24) rfl (l' := #[.val (.int p0), .val (.int p1), .val (.int p2), .val (.int p3), .val (.int p4), .val (.int (if ¬ ((p2 &&& (1 : Int32)) = (0 : Int32)) then (1 : Int32) else (0 : Int32))), .val (.int (if ¬ ((p2 &&& (2 : Int32)) = (0 : Int32)) then (1 : Int32) else (0 : Int32))), .unset, .unset, .unset, .unset, .unset, .unset, .unset]) rfl ?_
    show Steps p.tables e below (T0.setTop (mkF m 26 #[.val (.int p0), .val (.int p1), .val (.int p2), .val (.int p3), .val (.int p4), .val (.int (if ¬ ((p2 &&& (1 : Int32)) = (0 : Int32)) then (1 : Int32) else (0 : Int32))), .val (.int (if ¬ ((p2 &&& (2 : Int32)) = (0 : Int32)) then (1 : Int32) else (0 : Int32))), .unset, .unset, .unset, .unset, .unset, .unset, .unset] [])) t
    refine XS.iloadN P0.here P0.x rfl (hb hby at_26) rfl ?_
    show Steps p.tables e below (T0.setTop (mkF m 27 #[.val (.int p0), .val (.int p1), .val (.int p2), .val (.int p3), .val (.int p4), .val (.int (if ¬ ((p2 &&& (1 : Int32)) = (0 : Int32)) then (1 : Int32) else (0 : Int32))), .val (.int (if ¬ ((p2 &&& (2 : Int32)) = (0 : Int32)) then (1 : Int32) else (0 : Int32))), .unset, .unset, .unset, .unset, .unset, .unset, .unset] [(.int p2)])) t
    refine XS.iconst P0.here P0.x rfl (hb hby at_27) ?_
    show Steps p.tables e below (T0.setTop (mkF m 28 #[.val (.int p0), .val (.int p1), .val (.int p2), .val (.int p3), .val (.int p4), .val (.int (if ¬ ((p2 &&& (1 : Int32)) = (0 : Int32)) then (1 : Int32) else (0 : Int32))), .val (.int (if ¬ ((p2 &&& (2 : Int32)) = (0 : Int32)) then (1 : Int32) else (0 : Int32))), .unset, .unset, .unset, .unset, .unset, .unset, .unset] [(.int (4 : Int32)), (.int p2)])) t
    refine XS.iand P0.here P0.x rfl (hb hby at_28) rfl ?_
    show Steps p.tables e below (T0.setTop (mkF m 29 #[.val (.int p0), .val (.int p1), .val (.int p2), .val (.int p3), .val (.int p4), .val (.int (if ¬ ((p2 &&& (1 : Int32)) = (0 : Int32)) then (1 : Int32) else (0 : Int32))), .val (.int (if ¬ ((p2 &&& (2 : Int32)) = (0 : Int32)) then (1 : Int32) else (0 : Int32))), .unset, .unset, .unset, .unset, .unset, .unset, .unset] [(.int (p2 &&& (4 : Int32)))])) t
    suffices kk6 : Steps p.tables e below (T0.setTop (mkF m 37 #[.val (.int p0), .val (.int p1), .val (.int p2), .val (.int p3), .val (.int p4), .val (.int (if ¬ ((p2 &&& (1 : Int32)) = (0 : Int32)) then (1 : Int32) else (0 : Int32))), .val (.int (if ¬ ((p2 &&& (2 : Int32)) = (0 : Int32)) then (1 : Int32) else (0 : Int32))), .unset, .unset, .unset, .unset, .unset, .unset, .unset] [(.int (if ¬ ((p2 &&& (4 : Int32)) = (0 : Int32)) then (1 : Int32) else (0 : Int32)))])) t by
      by_cases hc5 : (p2 &&& (4 : Int32)) = (0 : Int32)
      · rw [show (if ¬ ((p2 &&& (4 : Int32)) = (0 : Int32)) then (1 : Int32) else (0 : Int32)) = (0 : Int32) from if_neg (not_not_intro hc5)] at kk6
        show Steps p.tables e below (T0.setTop (mkF m 29 #[.val (.int p0), .val (.int p1), .val (.int p2), .val (.int p3), .val (.int p4), .val (.int (if ¬ ((p2 &&& (1 : Int32)) = (0 : Int32)) then (1 : Int32) else (0 : Int32))), .val (.int (if ¬ ((p2 &&& (2 : Int32)) = (0 : Int32)) then (1 : Int32) else (0 : Int32))), .unset, .unset, .unset, .unset, .unset, .unset, .unset] [(.int (p2 &&& (4 : Int32)))])) t
        refine XS.ifYes P0.here P0.x rfl (pc0 := 29) (pc' := 36) rfl (hb hby at_29) rfl (i0W_eq_t hc5) (by decide) (by decide) ?_
        show Steps p.tables e below (T0.setTop (mkF m 36 #[.val (.int p0), .val (.int p1), .val (.int p2), .val (.int p3), .val (.int p4), .val (.int (if ¬ ((p2 &&& (1 : Int32)) = (0 : Int32)) then (1 : Int32) else (0 : Int32))), .val (.int (if ¬ ((p2 &&& (2 : Int32)) = (0 : Int32)) then (1 : Int32) else (0 : Int32))), .unset, .unset, .unset, .unset, .unset, .unset, .unset] [])) t
        refine XS.iconst P0.here P0.x rfl (hb hby at_36) ?_
        exact kk6
      · rw [show (if ¬ ((p2 &&& (4 : Int32)) = (0 : Int32)) then (1 : Int32) else (0 : Int32)) = (1 : Int32) from if_pos hc5] at kk6
        show Steps p.tables e below (T0.setTop (mkF m 29 #[.val (.int p0), .val (.int p1), .val (.int p2), .val (.int p3), .val (.int p4), .val (.int (if ¬ ((p2 &&& (1 : Int32)) = (0 : Int32)) then (1 : Int32) else (0 : Int32))), .val (.int (if ¬ ((p2 &&& (2 : Int32)) = (0 : Int32)) then (1 : Int32) else (0 : Int32))), .unset, .unset, .unset, .unset, .unset, .unset, .unset] [(.int (p2 &&& (4 : Int32)))])) t
        refine XS.ifNo P0.here P0.x rfl (hb hby at_29) rfl (i0W_eq_f hc5) ?_
        show Steps p.tables e below (T0.setTop (mkF m 32 #[.val (.int p0), .val (.int p1), .val (.int p2), .val (.int p3), .val (.int p4), .val (.int (if ¬ ((p2 &&& (1 : Int32)) = (0 : Int32)) then (1 : Int32) else (0 : Int32))), .val (.int (if ¬ ((p2 &&& (2 : Int32)) = (0 : Int32)) then (1 : Int32) else (0 : Int32))), .unset, .unset, .unset, .unset, .unset, .unset, .unset] [])) t
        refine XS.iconst P0.here P0.x rfl (hb hby at_32) ?_
        show Steps p.tables e below (T0.setTop (mkF m 33 #[.val (.int p0), .val (.int p1), .val (.int p2), .val (.int p3), .val (.int p4), .val (.int (if ¬ ((p2 &&& (1 : Int32)) = (0 : Int32)) then (1 : Int32) else (0 : Int32))), .val (.int (if ¬ ((p2 &&& (2 : Int32)) = (0 : Int32)) then (1 : Int32) else (0 : Int32))), .unset, .unset, .unset, .unset, .unset, .unset, .unset] [(.int (1 : Int32))])) t
        refine XS.goto P0.here P0.x rfl (pc0 := 33) (pc' := 37) rfl (hb hby at_33) (by decide) (by decide) ?_
        exact kk6
    show Steps p.tables e below (T0.setTop (mkF m 37 #[.val (.int p0), .val (.int p1), .val (.int p2), .val (.int p3), .val (.int p4), .val (.int (if ¬ ((p2 &&& (1 : Int32)) = (0 : Int32)) then (1 : Int32) else (0 : Int32))), .val (.int (if ¬ ((p2 &&& (2 : Int32)) = (0 : Int32)) then (1 : Int32) else (0 : Int32))), .unset, .unset, .unset, .unset, .unset, .unset, .unset] [(.int (if ¬ ((p2 &&& (4 : Int32)) = (0 : Int32)) then (1 : Int32) else (0 : Int32)))])) t
    refine XS.istore P0.here P0.x rfl (hb hby at_37) rfl (l' := #[.val (.int p0), .val (.int p1), .val (.int p2), .val (.int p3), .val (.int p4), .val (.int (if ¬ ((p2 &&& (1 : Int32)) = (0 : Int32)) then (1 : Int32) else (0 : Int32))), .val (.int (if ¬ ((p2 &&& (2 : Int32)) = (0 : Int32)) then (1 : Int32) else (0 : Int32))), .val (.int (if ¬ ((p2 &&& (4 : Int32)) = (0 : Int32)) then (1 : Int32) else (0 : Int32))), .unset, .unset, .unset, .unset, .unset, .unset]) rfl ?_
    show Steps p.tables e below (T0.setTop (mkF m 39 #[.val (.int p0), .val (.int p1), .val (.int p2), .val (.int p3), .val (.int p4), .val (.int (if ¬ ((p2 &&& (1 : Int32)) = (0 : Int32)) then (1 : Int32) else (0 : Int32))), .val (.int (if ¬ ((p2 &&& (2 : Int32)) = (0 : Int32)) then (1 : Int32) else (0 : Int32))), .val (.int (if ¬ ((p2 &&& (4 : Int32)) = (0 : Int32)) then (1 : Int32) else (0 : Int32))), .unset, .unset, .unset, .unset, .unset, .unset] [])) t
    refine XS.aconstNull P0.here P0.x rfl (hb hby at_39) ?_
    show Steps p.tables e below (T0.setTop (mkF m 40 #[.val (.int p0), .val (.int p1), .val (.int p2), .val (.int p3), .val (.int p4), .val (.int (if ¬ ((p2 &&& (1 : Int32)) = (0 : Int32)) then (1 : Int32) else (0 : Int32))), .val (.int (if ¬ ((p2 &&& (2 : Int32)) = (0 : Int32)) then (1 : Int32) else (0 : Int32))), .val (.int (if ¬ ((p2 &&& (4 : Int32)) = (0 : Int32)) then (1 : Int32) else (0 : Int32))), .unset, .unset, .unset, .unset, .unset, .unset] [.null])) t
    refine XS.astore P0.here P0.x rfl (hb hby at_40) rfl rfl (l' := #[.val (.int p0), .val (.int p1), .val (.int p2), .val (.int p3), .val (.int p4), .val (.int (if ¬ ((p2 &&& (1 : Int32)) = (0 : Int32)) then (1 : Int32) else (0 : Int32))), .val (.int (if ¬ ((p2 &&& (2 : Int32)) = (0 : Int32)) then (1 : Int32) else (0 : Int32))), .val (.int (if ¬ ((p2 &&& (4 : Int32)) = (0 : Int32)) then (1 : Int32) else (0 : Int32))), .val .null, .unset, .unset, .unset, .unset, .unset]) rfl ?_
    show Steps p.tables e below (T0.setTop (mkF m 42 #[.val (.int p0), .val (.int p1), .val (.int p2), .val (.int p3), .val (.int p4), .val (.int (if ¬ ((p2 &&& (1 : Int32)) = (0 : Int32)) then (1 : Int32) else (0 : Int32))), .val (.int (if ¬ ((p2 &&& (2 : Int32)) = (0 : Int32)) then (1 : Int32) else (0 : Int32))), .val (.int (if ¬ ((p2 &&& (4 : Int32)) = (0 : Int32)) then (1 : Int32) else (0 : Int32))), .val .null, .unset, .unset, .unset, .unset, .unset] [])) t
    refine XS.iloadN P0.here P0.x rfl (hb hby at_42) rfl ?_
    show Steps p.tables e below (T0.setTop (mkF m 43 #[.val (.int p0), .val (.int p1), .val (.int p2), .val (.int p3), .val (.int p4), .val (.int (if ¬ ((p2 &&& (1 : Int32)) = (0 : Int32)) then (1 : Int32) else (0 : Int32))), .val (.int (if ¬ ((p2 &&& (2 : Int32)) = (0 : Int32)) then (1 : Int32) else (0 : Int32))), .val (.int (if ¬ ((p2 &&& (4 : Int32)) = (0 : Int32)) then (1 : Int32) else (0 : Int32))), .val .null, .unset, .unset, .unset, .unset, .unset] [(.int p2)])) t
    refine XS.bipush P0.here P0.x rfl (hb hby at_43) ?_
    show Steps p.tables e below (T0.setTop (mkF m 45 #[.val (.int p0), .val (.int p1), .val (.int p2), .val (.int p3), .val (.int p4), .val (.int (if ¬ ((p2 &&& (1 : Int32)) = (0 : Int32)) then (1 : Int32) else (0 : Int32))), .val (.int (if ¬ ((p2 &&& (2 : Int32)) = (0 : Int32)) then (1 : Int32) else (0 : Int32))), .val (.int (if ¬ ((p2 &&& (4 : Int32)) = (0 : Int32)) then (1 : Int32) else (0 : Int32))), .val .null, .unset, .unset, .unset, .unset, .unset] [(.int (8 : Int32)), (.int p2)])) t
    refine XS.iand P0.here P0.x rfl (hb hby at_45) rfl ?_
    exact kk
  by_cases hn : (p2 &&& (8 : Int32)) = (0 : Int32)
  · refine Done.step (T' := T0) (g' := (mkF m 70 #[.val (.int p0), .val (.int p1), .val (.int p2), .val (.int p3), .val (.int p4), .val (.int (if ¬ ((p2 &&& (1 : Int32)) = (0 : Int32)) then (1 : Int32) else (0 : Int32))), .val (.int (if ¬ ((p2 &&& (2 : Int32)) = (0 : Int32)) then (1 : Int32) else (0 : Int32))), .val (.int (if ¬ ((p2 &&& (4 : Int32)) = (0 : Int32)) then (1 : Int32) else (0 : Int32))), .val .null, .val (.double (FP.i2d (p4 &&& (65535 : Int32)))), .second, .unset, .unset, .unset] [])) (fun t kk => ?_) ?_
    · show Steps p.tables e below (T0.setTop (mkF m 46 #[.val (.int p0), .val (.int p1), .val (.int p2), .val (.int p3), .val (.int p4), .val (.int (if ¬ ((p2 &&& (1 : Int32)) = (0 : Int32)) then (1 : Int32) else (0 : Int32))), .val (.int (if ¬ ((p2 &&& (2 : Int32)) = (0 : Int32)) then (1 : Int32) else (0 : Int32))), .val (.int (if ¬ ((p2 &&& (4 : Int32)) = (0 : Int32)) then (1 : Int32) else (0 : Int32))), .val .null, .unset, .unset, .unset, .unset, .unset] [(.int (p2 &&& (8 : Int32)))])) t
      refine XS.ifYes P0.here P0.x rfl (pc0 := 46) (pc' := 62) rfl (hb hby at_46) rfl (i0W_eq_t hn) (by decide) (by decide) ?_
      show Steps p.tables e below (T0.setTop (mkF m 62 #[.val (.int p0), .val (.int p1), .val (.int p2), .val (.int p3), .val (.int p4), .val (.int (if ¬ ((p2 &&& (1 : Int32)) = (0 : Int32)) then (1 : Int32) else (0 : Int32))), .val (.int (if ¬ ((p2 &&& (2 : Int32)) = (0 : Int32)) then (1 : Int32) else (0 : Int32))), .val (.int (if ¬ ((p2 &&& (4 : Int32)) = (0 : Int32)) then (1 : Int32) else (0 : Int32))), .val .null, .unset, .unset, .unset, .unset, .unset] [])) t
      refine XS.iload P0.here P0.x rfl (hb hby at_62) rfl ?_
      show Steps p.tables e below (T0.setTop (mkF m 64 #[.val (.int p0), .val (.int p1), .val (.int p2), .val (.int p3), .val (.int p4), .val (.int (if ¬ ((p2 &&& (1 : Int32)) = (0 : Int32)) then (1 : Int32) else (0 : Int32))), .val (.int (if ¬ ((p2 &&& (2 : Int32)) = (0 : Int32)) then (1 : Int32) else (0 : Int32))), .val (.int (if ¬ ((p2 &&& (4 : Int32)) = (0 : Int32)) then (1 : Int32) else (0 : Int32))), .val .null, .unset, .unset, .unset, .unset, .unset] [(.int p4)])) t
      refine pLdcI P0 (tw0 hw) (hb hby at_64) rfl ?_
      show Steps p.tables e below (T0.setTop (mkF m 66 #[.val (.int p0), .val (.int p1), .val (.int p2), .val (.int p3), .val (.int p4), .val (.int (if ¬ ((p2 &&& (1 : Int32)) = (0 : Int32)) then (1 : Int32) else (0 : Int32))), .val (.int (if ¬ ((p2 &&& (2 : Int32)) = (0 : Int32)) then (1 : Int32) else (0 : Int32))), .val (.int (if ¬ ((p2 &&& (4 : Int32)) = (0 : Int32)) then (1 : Int32) else (0 : Int32))), .val .null, .unset, .unset, .unset, .unset, .unset] [(.int (65535 : Int32)), (.int p4)])) t
      refine XS.iand P0.here P0.x rfl (hb hby at_66) rfl ?_
      show Steps p.tables e below (T0.setTop (mkF m 67 #[.val (.int p0), .val (.int p1), .val (.int p2), .val (.int p3), .val (.int p4), .val (.int (if ¬ ((p2 &&& (1 : Int32)) = (0 : Int32)) then (1 : Int32) else (0 : Int32))), .val (.int (if ¬ ((p2 &&& (2 : Int32)) = (0 : Int32)) then (1 : Int32) else (0 : Int32))), .val (.int (if ¬ ((p2 &&& (4 : Int32)) = (0 : Int32)) then (1 : Int32) else (0 : Int32))), .val .null, .unset, .unset, .unset, .unset, .unset] [(.int (p4 &&& (65535 : Int32)))])) t
      refine XS.i2dS P0.here P0.x rfl (hb hby at_67) rfl rfl ?_
      show Steps p.tables e below (T0.setTop (mkF m 68 #[.val (.int p0), .val (.int p1), .val (.int p2), .val (.int p3), .val (.int p4), .val (.int (if ¬ ((p2 &&& (1 : Int32)) = (0 : Int32)) then (1 : Int32) else (0 : Int32))), .val (.int (if ¬ ((p2 &&& (2 : Int32)) = (0 : Int32)) then (1 : Int32) else (0 : Int32))), .val (.int (if ¬ ((p2 &&& (4 : Int32)) = (0 : Int32)) then (1 : Int32) else (0 : Int32))), .val .null, .unset, .unset, .unset, .unset, .unset] [(.double (FP.i2d (p4 &&& (65535 : Int32))))])) t
      refine XS.dstore P0.here P0.x rfl (hb hby at_68) rfl (l' := #[.val (.int p0), .val (.int p1), .val (.int p2), .val (.int p3), .val (.int p4), .val (.int (if ¬ ((p2 &&& (1 : Int32)) = (0 : Int32)) then (1 : Int32) else (0 : Int32))), .val (.int (if ¬ ((p2 &&& (2 : Int32)) = (0 : Int32)) then (1 : Int32) else (0 : Int32))), .val (.int (if ¬ ((p2 &&& (4 : Int32)) = (0 : Int32)) then (1 : Int32) else (0 : Int32))), .val .null, .val (.double (FP.i2d (p4 &&& (65535 : Int32)))), .second, .unset, .unset, .unset]) rfl ?_
      exact kk
    show Done _ _ _ _ _ _ _ _ _ _ _ _ _ _ _ T0 (mkF m 70 #[.val (.int p0), .val (.int p1), .val (.int p2), .val (.int p3), .val (.int p4), .val (.int (if ¬ ((p2 &&& (1 : Int32)) = (0 : Int32)) then (1 : Int32) else (0 : Int32))), .val (.int (if ¬ ((p2 &&& (2 : Int32)) = (0 : Int32)) then (1 : Int32) else (0 : Int32))), .val (.int (if ¬ ((p2 &&& (4 : Int32)) = (0 : Int32)) then (1 : Int32) else (0 : Int32))), .val .null, .val (.double (FP.i2d (p4 &&& (65535 : Int32)))), .second, .unset, .unset, .unset] [])
    refine wNew P0 (tw1 hw) (tw2 hw) (tw3 hw) (hb hby at_70) rfl (by decide) (by decide) (k' := 1) (n' := 7) rfl rfl (fun T7 h9 b10 g11 lt12 P8 E13 X14 D15 => ?_)
    have ge_b10 : h0.size ≤ b10 := by have := P0.ge; omega
    have F16 : Fld Z h9 b10 "com/example/roundsmith/roundsmith/network/Street" "index" "I" (.int (0 : Int32)) := D15 (Or.inr (tw11 hw)) (ty := .int) (by decide)
    have F17 : Fld Z h9 b10 "com/example/roundsmith/roundsmith/network/Street" "from" "I" (.int (0 : Int32)) := D15 (Or.inr (tw13 hw)) (ty := .int) (by decide)
    have F18 : Fld Z h9 b10 "com/example/roundsmith/roundsmith/network/Street" "to" "I" (.int (0 : Int32)) := D15 (Or.inr (tw15 hw)) (ty := .int) (by decide)
    have F19 : Fld Z h9 b10 "com/example/roundsmith/roundsmith/network/Street" "length" "D" (.double (0 : UInt64)) := D15 (Or.inr (tw17 hw)) (ty := .double) (by decide)
    have F20 : Fld Z h9 b10 "com/example/roundsmith/roundsmith/network/Street" "required" "Z" (.int (0 : Int32)) := D15 (Or.inr (tw19 hw)) (ty := .boolean) (by decide)
    have F21 : Fld Z h9 b10 "com/example/roundsmith/roundsmith/network/Street" "oneWay" "Z" (.int (0 : Int32)) := D15 (Or.inr (tw21 hw)) (ty := .boolean) (by decide)
    have F22 : Fld Z h9 b10 "com/example/roundsmith/roundsmith/network/Street" "name" "Ljava/lang/String;" .null := D15 (Or.inr (tw23 hw)) (ty := (.object "java/lang/String")) (by decide)
    show Done _ _ _ _ _ _ _ _ _ _ _ _ _ _ _ T7 (mkF m 73 #[.val (.int p0), .val (.int p1), .val (.int p2), .val (.int p3), .val (.int p4), .val (.int (if ¬ ((p2 &&& (1 : Int32)) = (0 : Int32)) then (1 : Int32) else (0 : Int32))), .val (.int (if ¬ ((p2 &&& (2 : Int32)) = (0 : Int32)) then (1 : Int32) else (0 : Int32))), .val (.int (if ¬ ((p2 &&& (4 : Int32)) = (0 : Int32)) then (1 : Int32) else (0 : Int32))), .val .null, .val (.double (FP.i2d (p4 &&& (65535 : Int32)))), .second, .unset, .unset, .unset] [(.ref b10)])
    refine Done.step (T' := T7) (g' := (mkF m 85 #[.val (.int p0), .val (.int p1), .val (.int p2), .val (.int p3), .val (.int p4), .val (.int (if ¬ ((p2 &&& (1 : Int32)) = (0 : Int32)) then (1 : Int32) else (0 : Int32))), .val (.int (if ¬ ((p2 &&& (2 : Int32)) = (0 : Int32)) then (1 : Int32) else (0 : Int32))), .val (.int (if ¬ ((p2 &&& (4 : Int32)) = (0 : Int32)) then (1 : Int32) else (0 : Int32))), .val .null, .val (.double (FP.i2d (p4 &&& (65535 : Int32)))), .second, .unset, .unset, .unset] [.null, (.int (if ¬ ((p2 &&& (1 : Int32)) = (0 : Int32)) then (1 : Int32) else (0 : Int32))), (.int (if ¬ ((p2 &&& (2 : Int32)) = (0 : Int32)) then (1 : Int32) else (0 : Int32))), (.double (FP.i2d (p4 &&& (65535 : Int32)))), (.int p1), (.int p0), (.int p3), (.ref b10), (.ref b10)])) (fun t kk => ?_) ?_
    · show Steps p.tables e below (T7.setTop (mkF m 73 #[.val (.int p0), .val (.int p1), .val (.int p2), .val (.int p3), .val (.int p4), .val (.int (if ¬ ((p2 &&& (1 : Int32)) = (0 : Int32)) then (1 : Int32) else (0 : Int32))), .val (.int (if ¬ ((p2 &&& (2 : Int32)) = (0 : Int32)) then (1 : Int32) else (0 : Int32))), .val (.int (if ¬ ((p2 &&& (4 : Int32)) = (0 : Int32)) then (1 : Int32) else (0 : Int32))), .val .null, .val (.double (FP.i2d (p4 &&& (65535 : Int32)))), .second, .unset, .unset, .unset] [(.ref b10)])) t
      refine XS.dup P8.here P8.x rfl (hb hby at_73) rfl rfl ?_
      show Steps p.tables e below (T7.setTop (mkF m 74 #[.val (.int p0), .val (.int p1), .val (.int p2), .val (.int p3), .val (.int p4), .val (.int (if ¬ ((p2 &&& (1 : Int32)) = (0 : Int32)) then (1 : Int32) else (0 : Int32))), .val (.int (if ¬ ((p2 &&& (2 : Int32)) = (0 : Int32)) then (1 : Int32) else (0 : Int32))), .val (.int (if ¬ ((p2 &&& (4 : Int32)) = (0 : Int32)) then (1 : Int32) else (0 : Int32))), .val .null, .val (.double (FP.i2d (p4 &&& (65535 : Int32)))), .second, .unset, .unset, .unset] [(.ref b10), (.ref b10)])) t
      refine XS.iloadN P8.here P8.x rfl (hb hby at_74) rfl ?_
      show Steps p.tables e below (T7.setTop (mkF m 75 #[.val (.int p0), .val (.int p1), .val (.int p2), .val (.int p3), .val (.int p4), .val (.int (if ¬ ((p2 &&& (1 : Int32)) = (0 : Int32)) then (1 : Int32) else (0 : Int32))), .val (.int (if ¬ ((p2 &&& (2 : Int32)) = (0 : Int32)) then (1 : Int32) else (0 : Int32))), .val (.int (if ¬ ((p2 &&& (4 : Int32)) = (0 : Int32)) then (1 : Int32) else (0 : Int32))), .val .null, .val (.double (FP.i2d (p4 &&& (65535 : Int32)))), .second, .unset, .unset, .unset] [(.int p3), (.ref b10), (.ref b10)])) t
      refine XS.iloadN P8.here P8.x rfl (hb hby at_75) rfl ?_
      show Steps p.tables e below (T7.setTop (mkF m 76 #[.val (.int p0), .val (.int p1), .val (.int p2), .val (.int p3), .val (.int p4), .val (.int (if ¬ ((p2 &&& (1 : Int32)) = (0 : Int32)) then (1 : Int32) else (0 : Int32))), .val (.int (if ¬ ((p2 &&& (2 : Int32)) = (0 : Int32)) then (1 : Int32) else (0 : Int32))), .val (.int (if ¬ ((p2 &&& (4 : Int32)) = (0 : Int32)) then (1 : Int32) else (0 : Int32))), .val .null, .val (.double (FP.i2d (p4 &&& (65535 : Int32)))), .second, .unset, .unset, .unset] [(.int p0), (.int p3), (.ref b10), (.ref b10)])) t
      refine XS.iloadN P8.here P8.x rfl (hb hby at_76) rfl ?_
      show Steps p.tables e below (T7.setTop (mkF m 77 #[.val (.int p0), .val (.int p1), .val (.int p2), .val (.int p3), .val (.int p4), .val (.int (if ¬ ((p2 &&& (1 : Int32)) = (0 : Int32)) then (1 : Int32) else (0 : Int32))), .val (.int (if ¬ ((p2 &&& (2 : Int32)) = (0 : Int32)) then (1 : Int32) else (0 : Int32))), .val (.int (if ¬ ((p2 &&& (4 : Int32)) = (0 : Int32)) then (1 : Int32) else (0 : Int32))), .val .null, .val (.double (FP.i2d (p4 &&& (65535 : Int32)))), .second, .unset, .unset, .unset] [(.int p1), (.int p0), (.int p3), (.ref b10), (.ref b10)])) t
      refine XS.dload P8.here P8.x rfl (hb hby at_77) rfl ?_
      show Steps p.tables e below (T7.setTop (mkF m 79 #[.val (.int p0), .val (.int p1), .val (.int p2), .val (.int p3), .val (.int p4), .val (.int (if ¬ ((p2 &&& (1 : Int32)) = (0 : Int32)) then (1 : Int32) else (0 : Int32))), .val (.int (if ¬ ((p2 &&& (2 : Int32)) = (0 : Int32)) then (1 : Int32) else (0 : Int32))), .val (.int (if ¬ ((p2 &&& (4 : Int32)) = (0 : Int32)) then (1 : Int32) else (0 : Int32))), .val .null, .val (.double (FP.i2d (p4 &&& (65535 : Int32)))), .second, .unset, .unset, .unset] [(.double (FP.i2d (p4 &&& (65535 : Int32)))), (.int p1), (.int p0), (.int p3), (.ref b10), (.ref b10)])) t
      refine XS.iload P8.here P8.x rfl (hb hby at_79) rfl ?_
      show Steps p.tables e below (T7.setTop (mkF m 81 #[.val (.int p0), .val (.int p1), .val (.int p2), .val (.int p3), .val (.int p4), .val (.int (if ¬ ((p2 &&& (1 : Int32)) = (0 : Int32)) then (1 : Int32) else (0 : Int32))), .val (.int (if ¬ ((p2 &&& (2 : Int32)) = (0 : Int32)) then (1 : Int32) else (0 : Int32))), .val (.int (if ¬ ((p2 &&& (4 : Int32)) = (0 : Int32)) then (1 : Int32) else (0 : Int32))), .val .null, .val (.double (FP.i2d (p4 &&& (65535 : Int32)))), .second, .unset, .unset, .unset] [(.int (if ¬ ((p2 &&& (2 : Int32)) = (0 : Int32)) then (1 : Int32) else (0 : Int32))), (.double (FP.i2d (p4 &&& (65535 : Int32)))), (.int p1), (.int p0), (.int p3), (.ref b10), (.ref b10)])) t
      refine XS.iload P8.here P8.x rfl (hb hby at_81) rfl ?_
      show Steps p.tables e below (T7.setTop (mkF m 83 #[.val (.int p0), .val (.int p1), .val (.int p2), .val (.int p3), .val (.int p4), .val (.int (if ¬ ((p2 &&& (1 : Int32)) = (0 : Int32)) then (1 : Int32) else (0 : Int32))), .val (.int (if ¬ ((p2 &&& (2 : Int32)) = (0 : Int32)) then (1 : Int32) else (0 : Int32))), .val (.int (if ¬ ((p2 &&& (4 : Int32)) = (0 : Int32)) then (1 : Int32) else (0 : Int32))), .val .null, .val (.double (FP.i2d (p4 &&& (65535 : Int32)))), .second, .unset, .unset, .unset] [(.int (if ¬ ((p2 &&& (1 : Int32)) = (0 : Int32)) then (1 : Int32) else (0 : Int32))), (.int (if ¬ ((p2 &&& (2 : Int32)) = (0 : Int32)) then (1 : Int32) else (0 : Int32))), (.double (FP.i2d (p4 &&& (65535 : Int32)))), (.int p1), (.int p0), (.int p3), (.ref b10), (.ref b10)])) t
      refine XS.aload P8.here P8.x rfl (hb hby at_83) rfl rfl ?_
      exact kk
    show Done _ _ _ _ _ _ _ _ _ _ _ _ _ _ _ T7 (mkF m 85 #[.val (.int p0), .val (.int p1), .val (.int p2), .val (.int p3), .val (.int p4), .val (.int (if ¬ ((p2 &&& (1 : Int32)) = (0 : Int32)) then (1 : Int32) else (0 : Int32))), .val (.int (if ¬ ((p2 &&& (2 : Int32)) = (0 : Int32)) then (1 : Int32) else (0 : Int32))), .val (.int (if ¬ ((p2 &&& (4 : Int32)) = (0 : Int32)) then (1 : Int32) else (0 : Int32))), .val .null, .val (.double (FP.i2d (p4 &&& (65535 : Int32)))), .second, .unset, .unset, .unset] [.null, (.int (if ¬ ((p2 &&& (1 : Int32)) = (0 : Int32)) then (1 : Int32) else (0 : Int32))), (.int (if ¬ ((p2 &&& (2 : Int32)) = (0 : Int32)) then (1 : Int32) else (0 : Int32))), (.double (FP.i2d (p4 &&& (65535 : Int32)))), (.int p1), (.int p0), (.int p3), (.ref b10), (.ref b10)])
    refine wCallI P8 (m_initN l Z a0 hw hs b10 p3 p0 p1 (FP.i2d (p4 &&& (65535 : Int32))) (if ¬ ((p2 &&& (2 : Int32)) = (0 : Int32)) then (1 : Int32) else (0 : Int32)) (if ¬ ((p2 &&& (1 : Int32)) = (0 : Int32)) then (1 : Int32) else (0 : Int32)) h9 X14 (b01or _) (b01or _) F16 F17 F18 F19 F20 F21 F22) rfl (tw4 hw) (tw5 hw) (tw3 hw) (tw6 hw) (by decide) (a := b10) (by rw [hml]; rfl) (lenOf pd_3 rfl) (argsL := [(.int p3), (.int p0), (.int p1), (.double (FP.i2d (p4 &&& (65535 : Int32)))), (.int (if ¬ ((p2 &&& (2 : Int32)) = (0 : Int32)) then (1 : Int32) else (0 : Int32))), (.int (if ¬ ((p2 &&& (1 : Int32)) = (0 : Int32)) then (1 : Int32) else (0 : Int32))), .null]) (rest := [(.ref b10)]) rfl rfl (W := 1) (Nat.le_of_eq rfl) (by decide) (by decide) (by decide) (by decide) (allS (Or.inr ge_b10) all0) (hb hby at_85) rfl (k' := 1) (n' := 7) rfl rfl ?_
    rintro T23 h32 _ P24 K33 ⟨rfl, F25, F26, F27, F28, F29, F30, F31⟩
    have szh32 : h9.size ≤ h32.size := K33.1
    show Done _ _ _ _ _ _ _ _ _ _ _ _ _ _ _ T23 (mkF m 88 #[.val (.int p0), .val (.int p1), .val (.int p2), .val (.int p3), .val (.int p4), .val (.int (if ¬ ((p2 &&& (1 : Int32)) = (0 : Int32)) then (1 : Int32) else (0 : Int32))), .val (.int (if ¬ ((p2 &&& (2 : Int32)) = (0 : Int32)) then (1 : Int32) else (0 : Int32))), .val (.int (if ¬ ((p2 &&& (4 : Int32)) = (0 : Int32)) then (1 : Int32) else (0 : Int32))), .val .null, .val (.double (FP.i2d (p4 &&& (65535 : Int32)))), .second, .unset, .unset, .unset] [(.ref b10)])
    refine Done.step (T' := T23) (g' := (mkF m 139 #[.val (.int p0), .val (.int p1), .val (.int p2), .val (.int p3), .val (.int p4), .val (.int (if ¬ ((p2 &&& (1 : Int32)) = (0 : Int32)) then (1 : Int32) else (0 : Int32))), .val (.int (if ¬ ((p2 &&& (2 : Int32)) = (0 : Int32)) then (1 : Int32) else (0 : Int32))), .val (.int (if ¬ ((p2 &&& (4 : Int32)) = (0 : Int32)) then (1 : Int32) else (0 : Int32))), .val .null, .val (.double (FP.i2d (p4 &&& (65535 : Int32)))), .second, .val (.ref b10), .val (.int (if ¬ ((p2 &&& (4 : Int32)) = (0 : Int32)) then p1 else p0)), .val (.int (if (p2 &&& (1 : Int32)) = (0 : Int32) then (1 : Int32) else (if (p2 &&& (4 : Int32)) = (0 : Int32) then (1 : Int32) else (if p0 = p1 then (1 : Int32) else (0 : Int32)))))] [(.int (if ¬ ((p2 &&& (4 : Int32)) = (0 : Int32)) then p1 else p0)), (.ref b10)])) (fun t kk => ?_) ?_
    · show Steps p.tables e below (T23.setTop (mkF m 88 #[.val (.int p0), .val (.int p1), .val (.int p2), .val (.int p3), .val (.int p4), .val (.int (if ¬ ((p2 &&& (1 : Int32)) = (0 : Int32)) then (1 : Int32) else (0 : Int32))), .val (.int (if ¬ ((p2 &&& (2 : Int32)) = (0 : Int32)) then (1 : Int32) else (0 : Int32))), .val (.int (if ¬ ((p2 &&& (4 : Int32)) = (0 : Int32)) then (1 : Int32) else (0 : Int32))), .val .null, .val (.double (FP.i2d (p4 &&& (65535 : Int32)))), .second, .unset, .unset, .unset] [(.ref b10)])) t
      refine XS.astore P24.here P24.x rfl (hb hby at_88) rfl rfl (l' := #[.val (.int p0), .val (.int p1), .val (.int p2), .val (.int p3), .val (.int p4), .val (.int (if ¬ ((p2 &&& (1 : Int32)) = (0 : Int32)) then (1 : Int32) else (0 : Int32))), .val (.int (if ¬ ((p2 &&& (2 : Int32)) = (0 : Int32)) then (1 : Int32) else (0 : Int32))), .val (.int (if ¬ ((p2 &&& (4 : Int32)) = (0 : Int32)) then (1 : Int32) else (0 : Int32))), .val .null, .val (.double (FP.i2d (p4 &&& (65535 : Int32)))), .second, .val (.ref b10), .unset, .unset]) rfl ?_
      show Steps p.tables e below (T23.setTop (mkF m 90 #[.val (.int p0), .val (.int p1), .val (.int p2), .val (.int p3), .val (.int p4), .val (.int (if ¬ ((p2 &&& (1 : Int32)) = (0 : Int32)) then (1 : Int32) else (0 : Int32))), .val (.int (if ¬ ((p2 &&& (2 : Int32)) = (0 : Int32)) then (1 : Int32) else (0 : Int32))), .val (.int (if ¬ ((p2 &&& (4 : Int32)) = (0 : Int32)) then (1 : Int32) else (0 : Int32))), .val .null, .val (.double (FP.i2d (p4 &&& (65535 : Int32)))), .second, .val (.ref b10), .unset, .unset] [])) t
      refine XS.iloadN P24.here P24.x rfl (hb hby at_90) rfl ?_
      show Steps p.tables e below (T23.setTop (mkF m 91 #[.val (.int p0), .val (.int p1), .val (.int p2), .val (.int p3), .val (.int p4), .val (.int (if ¬ ((p2 &&& (1 : Int32)) = (0 : Int32)) then (1 : Int32) else (0 : Int32))), .val (.int (if ¬ ((p2 &&& (2 : Int32)) = (0 : Int32)) then (1 : Int32) else (0 : Int32))), .val (.int (if ¬ ((p2 &&& (4 : Int32)) = (0 : Int32)) then (1 : Int32) else (0 : Int32))), .val .null, .val (.double (FP.i2d (p4 &&& (65535 : Int32)))), .second, .val (.ref b10), .unset, .unset] [(.int p0)])) t
      refine XS.istore P24.here P24.x rfl (hb hby at_91) rfl (l' := #[.val (.int p0), .val (.int p1), .val (.int p2), .val (.int p3), .val (.int p4), .val (.int (if ¬ ((p2 &&& (1 : Int32)) = (0 : Int32)) then (1 : Int32) else (0 : Int32))), .val (.int (if ¬ ((p2 &&& (2 : Int32)) = (0 : Int32)) then (1 : Int32) else (0 : Int32))), .val (.int (if ¬ ((p2 &&& (4 : Int32)) = (0 : Int32)) then (1 : Int32) else (0 : Int32))), .val .null, .val (.double (FP.i2d (p4 &&& (65535 : Int32)))), .second, .val (.ref b10), .val (.int p0), .unset]) rfl ?_
      show Steps p.tables e below (T23.setTop (mkF m 93 #[.val (.int p0), .val (.int p1), .val (.int p2), .val (.int p3), .val (.int p4), .val (.int (if ¬ ((p2 &&& (1 : Int32)) = (0 : Int32)) then (1 : Int32) else (0 : Int32))), .val (.int (if ¬ ((p2 &&& (2 : Int32)) = (0 : Int32)) then (1 : Int32) else (0 : Int32))), .val (.int (if ¬ ((p2 &&& (4 : Int32)) = (0 : Int32)) then (1 : Int32) else (0 : Int32))), .val .null, .val (.double (FP.i2d (p4 &&& (65535 : Int32)))), .second, .val (.ref b10), .val (.int p0), .unset] [])) t
      refine XS.iload P24.here P24.x rfl (hb hby at_93) rfl ?_
      show Steps p.tables e below (T23.setTop (mkF m 95 #[.val (.int p0), .val (.int p1), .val (.int p2), .val (.int p3), .val (.int p4), .val (.int (if ¬ ((p2 &&& (1 : Int32)) = (0 : Int32)) then (1 : Int32) else (0 : Int32))), .val (.int (if ¬ ((p2 &&& (2 : Int32)) = (0 : Int32)) then (1 : Int32) else (0 : Int32))), .val (.int (if ¬ ((p2 &&& (4 : Int32)) = (0 : Int32)) then (1 : Int32) else (0 : Int32))), .val .null, .val (.double (FP.i2d (p4 &&& (65535 : Int32)))), .second, .val (.ref b10), .val (.int p0), .unset] [(.int (if ¬ ((p2 &&& (4 : Int32)) = (0 : Int32)) then (1 : Int32) else (0 : Int32)))])) t
      suffices kk35 : Steps p.tables e below (T23.setTop (mkF m 101 #[.val (.int p0), .val (.int p1), .val (.int p2), .val (.int p3), .val (.int p4), .val (.int (if ¬ ((p2 &&& (1 : Int32)) = (0 : Int32)) then (1 : Int32) else (0 : Int32))), .val (.int (if ¬ ((p2 &&& (2 : Int32)) = (0 : Int32)) then (1 : Int32) else (0 : Int32))), .val (.int (if ¬ ((p2 &&& (4 : Int32)) = (0 : Int32)) then (1 : Int32) else (0 : Int32))), .val .null, .val (.double (FP.i2d (p4 &&& (65535 : Int32)))), .second, .val (.ref b10), .val (.int (if ¬ ((p2 &&& (4 : Int32)) = (0 : Int32)) then p1 else p0)), .unset] [])) t by
        by_cases hc34 : ¬ ((p2 &&& (4 : Int32)) = (0 : Int32))
        · rw [show (if ¬ ((p2 &&& (4 : Int32)) = (0 : Int32)) then p1 else p0) = p1 from if_pos hc34] at kk35
          show Steps p.tables e below (T23.setTop (mkF m 95 #[.val (.int p0), .val (.int p1), .val (.int p2), .val (.int p3), .val (.int p4), .val (.int (if ¬ ((p2 &&& (1 : Int32)) = (0 : Int32)) then (1 : Int32) else (0 : Int32))), .val (.int (if ¬ ((p2 &&& (2 : Int32)) = (0 : Int32)) then (1 : Int32) else (0 : Int32))), .val (.int (if ¬ ((p2 &&& (4 : Int32)) = (0 : Int32)) then (1 : Int32) else (0 : Int32))), .val .null, .val (.double (FP.i2d (p4 &&& (65535 : Int32)))), .second, .val (.ref b10), .val (.int p0), .unset] [(.int (if ¬ ((p2 &&& (4 : Int32)) = (0 : Int32)) then (1 : Int32) else (0 : Int32)))])) t
          refine XS.ifNo P24.here P24.x rfl (hb hby at_95) rfl (b01_eq_f (not_not_intro hc34)) ?_
          show Steps p.tables e below (T23.setTop (mkF m 98 #[.val (.int p0), .val (.int p1), .val (.int p2), .val (.int p3), .val (.int p4), .val (.int (if ¬ ((p2 &&& (1 : Int32)) = (0 : Int32)) then (1 : Int32) else (0 : Int32))), .val (.int (if ¬ ((p2 &&& (2 : Int32)) = (0 : Int32)) then (1 : Int32) else (0 : Int32))), .val (.int (if ¬ ((p2 &&& (4 : Int32)) = (0 : Int32)) then (1 : Int32) else (0 : Int32))), .val .null, .val (.double (FP.i2d (p4 &&& (65535 : Int32)))), .second, .val (.ref b10), .val (.int p0), .unset] [])) t
          refine XS.iloadN P24.here P24.x rfl (hb hby at_98) rfl ?_
          show Steps p.tables e below (T23.setTop (mkF m 99 #[.val (.int p0), .val (.int p1), .val (.int p2), .val (.int p3), .val (.int p4), .val (.int (if ¬ ((p2 &&& (1 : Int32)) = (0 : Int32)) then (1 : Int32) else (0 : Int32))), .val (.int (if ¬ ((p2 &&& (2 : Int32)) = (0 : Int32)) then (1 : Int32) else (0 : Int32))), .val (.int (if ¬ ((p2 &&& (4 : Int32)) = (0 : Int32)) then (1 : Int32) else (0 : Int32))), .val .null, .val (.double (FP.i2d (p4 &&& (65535 : Int32)))), .second, .val (.ref b10), .val (.int p0), .unset] [(.int p1)])) t
          refine XS.istore P24.here P24.x rfl (hb hby at_99) rfl (l' := #[.val (.int p0), .val (.int p1), .val (.int p2), .val (.int p3), .val (.int p4), .val (.int (if ¬ ((p2 &&& (1 : Int32)) = (0 : Int32)) then (1 : Int32) else (0 : Int32))), .val (.int (if ¬ ((p2 &&& (2 : Int32)) = (0 : Int32)) then (1 : Int32) else (0 : Int32))), .val (.int (if ¬ ((p2 &&& (4 : Int32)) = (0 : Int32)) then (1 : Int32) else (0 : Int32))), .val .null, .val (.double (FP.i2d (p4 &&& (65535 : Int32)))), .second, .val (.ref b10), .val (.int p1), .unset]) rfl ?_
          exact kk35
        · rw [show (if ¬ ((p2 &&& (4 : Int32)) = (0 : Int32)) then p1 else p0) = p0 from if_neg hc34] at kk35
          show Steps p.tables e below (T23.setTop (mkF m 95 #[.val (.int p0), .val (.int p1), .val (.int p2), .val (.int p3), .val (.int p4), .val (.int (if ¬ ((p2 &&& (1 : Int32)) = (0 : Int32)) then (1 : Int32) else (0 : Int32))), .val (.int (if ¬ ((p2 &&& (2 : Int32)) = (0 : Int32)) then (1 : Int32) else (0 : Int32))), .val (.int (if ¬ ((p2 &&& (4 : Int32)) = (0 : Int32)) then (1 : Int32) else (0 : Int32))), .val .null, .val (.double (FP.i2d (p4 &&& (65535 : Int32)))), .second, .val (.ref b10), .val (.int p0), .unset] [(.int (if ¬ ((p2 &&& (4 : Int32)) = (0 : Int32)) then (1 : Int32) else (0 : Int32)))])) t
          refine XS.ifYes P24.here P24.x rfl (pc0 := 95) (pc' := 101) rfl (hb hby at_95) rfl (b01_eq_t hc34) (by decide) (by decide) ?_
          exact kk35
      show Steps p.tables e below (T23.setTop (mkF m 101 #[.val (.int p0), .val (.int p1), .val (.int p2), .val (.int p3), .val (.int p4), .val (.int (if ¬ ((p2 &&& (1 : Int32)) = (0 : Int32)) then (1 : Int32) else (0 : Int32))), .val (.int (if ¬ ((p2 &&& (2 : Int32)) = (0 : Int32)) then (1 : Int32) else (0 : Int32))), .val (.int (if ¬ ((p2 &&& (4 : Int32)) = (0 : Int32)) then (1 : Int32) else (0 : Int32))), .val .null, .val (.double (FP.i2d (p4 &&& (65535 : Int32)))), .second, .val (.ref b10), .val (.int (if ¬ ((p2 &&& (4 : Int32)) = (0 : Int32)) then p1 else p0)), .unset] [])) t
      refine XS.iload P24.here P24.x rfl (hb hby at_101) rfl ?_
      show Steps p.tables e below (T23.setTop (mkF m 103 #[.val (.int p0), .val (.int p1), .val (.int p2), .val (.int p3), .val (.int p4), .val (.int (if ¬ ((p2 &&& (1 : Int32)) = (0 : Int32)) then (1 : Int32) else (0 : Int32))), .val (.int (if ¬ ((p2 &&& (2 : Int32)) = (0 : Int32)) then (1 : Int32) else (0 : Int32))), .val (.int (if ¬ ((p2 &&& (4 : Int32)) = (0 : Int32)) then (1 : Int32) else (0 : Int32))), .val .null, .val (.double (FP.i2d (p4 &&& (65535 : Int32)))), .second, .val (.ref b10), .val (.int (if ¬ ((p2 &&& (4 : Int32)) = (0 : Int32)) then p1 else p0)), .unset] [(.int (if ¬ ((p2 &&& (1 : Int32)) = (0 : Int32)) then (1 : Int32) else (0 : Int32)))])) t
      suffices kk41 : Steps p.tables e below (T23.setTop (mkF m 135 #[.val (.int p0), .val (.int p1), .val (.int p2), .val (.int p3), .val (.int p4), .val (.int (if ¬ ((p2 &&& (1 : Int32)) = (0 : Int32)) then (1 : Int32) else (0 : Int32))), .val (.int (if ¬ ((p2 &&& (2 : Int32)) = (0 : Int32)) then (1 : Int32) else (0 : Int32))), .val (.int (if ¬ ((p2 &&& (4 : Int32)) = (0 : Int32)) then (1 : Int32) else (0 : Int32))), .val .null, .val (.double (FP.i2d (p4 &&& (65535 : Int32)))), .second, .val (.ref b10), .val (.int (if ¬ ((p2 &&& (4 : Int32)) = (0 : Int32)) then p1 else p0)), .val (.int (if (p2 &&& (1 : Int32)) = (0 : Int32) then (1 : Int32) else (if (p2 &&& (4 : Int32)) = (0 : Int32) then (1 : Int32) else (if p0 = p1 then (1 : Int32) else (0 : Int32)))))] [])) t by
        by_cases hc36 : (p2 &&& (1 : Int32)) = (0 : Int32)
        · rw [show (if (p2 &&& (1 : Int32)) = (0 : Int32) then (1 : Int32) else (if (p2 &&& (4 : Int32)) = (0 : Int32) then (1 : Int32) else (if p0 = p1 then (1 : Int32) else (0 : Int32)))) = (1 : Int32) from if_pos hc36] at kk41
          show Steps p.tables e below (T23.setTop (mkF m 103 #[.val (.int p0), .val (.int p1), .val (.int p2), .val (.int p3), .val (.int p4), .val (.int (if ¬ ((p2 &&& (1 : Int32)) = (0 : Int32)) then (1 : Int32) else (0 : Int32))), .val (.int (if ¬ ((p2 &&& (2 : Int32)) = (0 : Int32)) then (1 : Int32) else (0 : Int32))), .val (.int (if ¬ ((p2 &&& (4 : Int32)) = (0 : Int32)) then (1 : Int32) else (0 : Int32))), .val .null, .val (.double (FP.i2d (p4 &&& (65535 : Int32)))), .second, .val (.ref b10), .val (.int (if ¬ ((p2 &&& (4 : Int32)) = (0 : Int32)) then p1 else p0)), .unset] [(.int (if ¬ ((p2 &&& (1 : Int32)) = (0 : Int32)) then (1 : Int32) else (0 : Int32)))])) t
          refine XS.ifNo P24.here P24.x rfl (hb hby at_103) rfl (b01_ne_f (not_not_intro hc36)) ?_
          show Steps p.tables e below (T23.setTop (mkF m 106 #[.val (.int p0), .val (.int p1), .val (.int p2), .val (.int p3), .val (.int p4), .val (.int (if ¬ ((p2 &&& (1 : Int32)) = (0 : Int32)) then (1 : Int32) else (0 : Int32))), .val (.int (if ¬ ((p2 &&& (2 : Int32)) = (0 : Int32)) then (1 : Int32) else (0 : Int32))), .val (.int (if ¬ ((p2 &&& (4 : Int32)) = (0 : Int32)) then (1 : Int32) else (0 : Int32))), .val .null, .val (.double (FP.i2d (p4 &&& (65535 : Int32)))), .second, .val (.ref b10), .val (.int (if ¬ ((p2 &&& (4 : Int32)) = (0 : Int32)) then p1 else p0)), .unset] [])) t
          refine XS.iconst P24.here P24.x rfl (hb hby at_106) ?_
          show Steps p.tables e below (T23.setTop (mkF m 107 #[.val (.int p0), .val (.int p1), .val (.int p2), .val (.int p3), .val (.int p4), .val (.int (if ¬ ((p2 &&& (1 : Int32)) = (0 : Int32)) then (1 : Int32) else (0 : Int32))), .val (.int (if ¬ ((p2 &&& (2 : Int32)) = (0 : Int32)) then (1 : Int32) else (0 : Int32))), .val (.int (if ¬ ((p2 &&& (4 : Int32)) = (0 : Int32)) then (1 : Int32) else (0 : Int32))), .val .null, .val (.double (FP.i2d (p4 &&& (65535 : Int32)))), .second, .val (.ref b10), .val (.int (if ¬ ((p2 &&& (4 : Int32)) = (0 : Int32)) then p1 else p0)), .unset] [(.int (1 : Int32))])) t
          refine XS.istore P24.here P24.x rfl (hb hby at_107) rfl (l' := #[.val (.int p0), .val (.int p1), .val (.int p2), .val (.int p3), .val (.int p4), .val (.int (if ¬ ((p2 &&& (1 : Int32)) = (0 : Int32)) then (1 : Int32) else (0 : Int32))), .val (.int (if ¬ ((p2 &&& (2 : Int32)) = (0 : Int32)) then (1 : Int32) else (0 : Int32))), .val (.int (if ¬ ((p2 &&& (4 : Int32)) = (0 : Int32)) then (1 : Int32) else (0 : Int32))), .val .null, .val (.double (FP.i2d (p4 &&& (65535 : Int32)))), .second, .val (.ref b10), .val (.int (if ¬ ((p2 &&& (4 : Int32)) = (0 : Int32)) then p1 else p0)), .val (.int (1 : Int32))]) rfl ?_
          show Steps p.tables e below (T23.setTop (mkF m 109 #[.val (.int p0), .val (.int p1), .val (.int p2), .val (.int p3), .val (.int p4), .val (.int (if ¬ ((p2 &&& (1 : Int32)) = (0 : Int32)) then (1 : Int32) else (0 : Int32))), .val (.int (if ¬ ((p2 &&& (2 : Int32)) = (0 : Int32)) then (1 : Int32) else (0 : Int32))), .val (.int (if ¬ ((p2 &&& (4 : Int32)) = (0 : Int32)) then (1 : Int32) else (0 : Int32))), .val .null, .val (.double (FP.i2d (p4 &&& (65535 : Int32)))), .second, .val (.ref b10), .val (.int (if ¬ ((p2 &&& (4 : Int32)) = (0 : Int32)) then p1 else p0)), .val (.int (1 : Int32))] [])) t
          refine XS.goto P24.here P24.x rfl (pc0 := 109) (pc' := 135) rfl (hb hby at_109) (by decide) (by decide) ?_
          exact kk41
        · rw [show (if (p2 &&& (1 : Int32)) = (0 : Int32) then (1 : Int32) else (if (p2 &&& (4 : Int32)) = (0 : Int32) then (1 : Int32) else (if p0 = p1 then (1 : Int32) else (0 : Int32)))) = (if (p2 &&& (4 : Int32)) = (0 : Int32) then (1 : Int32) else (if p0 = p1 then (1 : Int32) else (0 : Int32))) from if_neg hc36] at kk41
          show Steps p.tables e below (T23.setTop (mkF m 103 #[.val (.int p0), .val (.int p1), .val (.int p2), .val (.int p3), .val (.int p4), .val (.int (if ¬ ((p2 &&& (1 : Int32)) = (0 : Int32)) then (1 : Int32) else (0 : Int32))), .val (.int (if ¬ ((p2 &&& (2 : Int32)) = (0 : Int32)) then (1 : Int32) else (0 : Int32))), .val (.int (if ¬ ((p2 &&& (4 : Int32)) = (0 : Int32)) then (1 : Int32) else (0 : Int32))), .val .null, .val (.double (FP.i2d (p4 &&& (65535 : Int32)))), .second, .val (.ref b10), .val (.int (if ¬ ((p2 &&& (4 : Int32)) = (0 : Int32)) then p1 else p0)), .unset] [(.int (if ¬ ((p2 &&& (1 : Int32)) = (0 : Int32)) then (1 : Int32) else (0 : Int32)))])) t
          refine XS.ifYes P24.here P24.x rfl (pc0 := 103) (pc' := 112) rfl (hb hby at_103) rfl (b01_ne_t hc36) (by decide) (by decide) ?_
          show Steps p.tables e below (T23.setTop (mkF m 112 #[.val (.int p0), .val (.int p1), .val (.int p2), .val (.int p3), .val (.int p4), .val (.int (if ¬ ((p2 &&& (1 : Int32)) = (0 : Int32)) then (1 : Int32) else (0 : Int32))), .val (.int (if ¬ ((p2 &&& (2 : Int32)) = (0 : Int32)) then (1 : Int32) else (0 : Int32))), .val (.int (if ¬ ((p2 &&& (4 : Int32)) = (0 : Int32)) then (1 : Int32) else (0 : Int32))), .val .null, .val (.double (FP.i2d (p4 &&& (65535 : Int32)))), .second, .val (.ref b10), .val (.int (if ¬ ((p2 &&& (4 : Int32)) = (0 : Int32)) then p1 else p0)), .unset] [])) t
          refine XS.iload P24.here P24.x rfl (hb hby at_112) rfl ?_
          show Steps p.tables e below (T23.setTop (mkF m 114 #[.val (.int p0), .val (.int p1), .val (.int p2), .val (.int p3), .val (.int p4), .val (.int (if ¬ ((p2 &&& (1 : Int32)) = (0 : Int32)) then (1 : Int32) else (0 : Int32))), .val (.int (if ¬ ((p2 &&& (2 : Int32)) = (0 : Int32)) then (1 : Int32) else (0 : Int32))), .val (.int (if ¬ ((p2 &&& (4 : Int32)) = (0 : Int32)) then (1 : Int32) else (0 : Int32))), .val .null, .val (.double (FP.i2d (p4 &&& (65535 : Int32)))), .second, .val (.ref b10), .val (.int (if ¬ ((p2 &&& (4 : Int32)) = (0 : Int32)) then p1 else p0)), .unset] [(.int (if ¬ ((p2 &&& (4 : Int32)) = (0 : Int32)) then (1 : Int32) else (0 : Int32)))])) t
          suffices kk40 : Steps p.tables e below (T23.setTop (mkF m 135 #[.val (.int p0), .val (.int p1), .val (.int p2), .val (.int p3), .val (.int p4), .val (.int (if ¬ ((p2 &&& (1 : Int32)) = (0 : Int32)) then (1 : Int32) else (0 : Int32))), .val (.int (if ¬ ((p2 &&& (2 : Int32)) = (0 : Int32)) then (1 : Int32) else (0 : Int32))), .val (.int (if ¬ ((p2 &&& (4 : Int32)) = (0 : Int32)) then (1 : Int32) else (0 : Int32))), .val .null, .val (.double (FP.i2d (p4 &&& (65535 : Int32)))), .second, .val (.ref b10), .val (.int (if ¬ ((p2 &&& (4 : Int32)) = (0 : Int32)) then p1 else p0)), .val (.int (if (p2 &&& (4 : Int32)) = (0 : Int32) then (1 : Int32) else (if p0 = p1 then (1 : Int32) else (0 : Int32))))] [])) t by
            by_cases hc37 : (p2 &&& (4 : Int32)) = (0 : Int32)
            · rw [show (if (p2 &&& (4 : Int32)) = (0 : Int32) then (1 : Int32) else (if p0 = p1 then (1 : Int32) else (0 : Int32))) = (1 : Int32) from if_pos hc37] at kk40
              show Steps p.tables e below (T23.setTop (mkF m 114 #[.val (.int p0), .val (.int p1), .val (.int p2), .val (.int p3), .val (.int p4), .val (.int (if ¬ ((p2 &&& (1 : Int32)) = (0 : Int32)) then (1 : Int32) else (0 : Int32))), .val (.int (if ¬ ((p2 &&& (2 : Int32)) = (0 : Int32)) then (1 : Int32) else (0 : Int32))), .val (.int (if ¬ ((p2 &&& (4 : Int32)) = (0 : Int32)) then (1 : Int32) else (0 : Int32))), .val .null, .val (.double (FP.i2d (p4 &&& (65535 : Int32)))), .second, .val (.ref b10), .val (.int (if ¬ ((p2 &&& (4 : Int32)) = (0 : Int32)) then p1 else p0)), .unset] [(.int (if ¬ ((p2 &&& (4 : Int32)) = (0 : Int32)) then (1 : Int32) else (0 : Int32)))])) t
              refine XS.ifNo P24.here P24.x rfl (hb hby at_114) rfl (b01_ne_f (not_not_intro hc37)) ?_
              show Steps p.tables e below (T23.setTop (mkF m 117 #[.val (.int p0), .val (.int p1), .val (.int p2), .val (.int p3), .val (.int p4), .val (.int (if ¬ ((p2 &&& (1 : Int32)) = (0 : Int32)) then (1 : Int32) else (0 : Int32))), .val (.int (if ¬ ((p2 &&& (2 : Int32)) = (0 : Int32)) then (1 : Int32) else (0 : Int32))), .val (.int (if ¬ ((p2 &&& (4 : Int32)) = (0 : Int32)) then (1 : Int32) else (0 : Int32))), .val .null, .val (.double (FP.i2d (p4 &&& (65535 : Int32)))), .second, .val (.ref b10), .val (.int (if ¬ ((p2 &&& (4 : Int32)) = (0 : Int32)) then p1 else p0)), .unset] [])) t
              refine XS.iconst P24.here P24.x rfl (hb hby at_117) ?_
              show Steps p.tables e below (T23.setTop (mkF m 118 #[.val (.int p0), .val (.int p1), .val (.int p2), .val (.int p3), .val (.int p4), .val (.int (if ¬ ((p2 &&& (1 : Int32)) = (0 : Int32)) then (1 : Int32) else (0 : Int32))), .val (.int (if ¬ ((p2 &&& (2 : Int32)) = (0 : Int32)) then (1 : Int32) else (0 : Int32))), .val (.int (if ¬ ((p2 &&& (4 : Int32)) = (0 : Int32)) then (1 : Int32) else (0 : Int32))), .val .null, .val (.double (FP.i2d (p4 &&& (65535 : Int32)))), .second, .val (.ref b10), .val (.int (if ¬ ((p2 &&& (4 : Int32)) = (0 : Int32)) then p1 else p0)), .unset] [(.int (1 : Int32))])) t
              refine XS.istore P24.here P24.x rfl (hb hby at_118) rfl (l' := #[.val (.int p0), .val (.int p1), .val (.int p2), .val (.int p3), .val (.int p4), .val (.int (if ¬ ((p2 &&& (1 : Int32)) = (0 : Int32)) then (1 : Int32) else (0 : Int32))), .val (.int (if ¬ ((p2 &&& (2 : Int32)) = (0 : Int32)) then (1 : Int32) else (0 : Int32))), .val (.int (if ¬ ((p2 &&& (4 : Int32)) = (0 : Int32)) then (1 : Int32) else (0 : Int32))), .val .null, .val (.double (FP.i2d (p4 &&& (65535 : Int32)))), .second, .val (.ref b10), .val (.int (if ¬ ((p2 &&& (4 : Int32)) = (0 : Int32)) then p1 else p0)), .val (.int (1 : Int32))]) rfl ?_
              show Steps p.tables e below (T23.setTop (mkF m 120 #[.val (.int p0), .val (.int p1), .val (.int p2), .val (.int p3), .val (.int p4), .val (.int (if ¬ ((p2 &&& (1 : Int32)) = (0 : Int32)) then (1 : Int32) else (0 : Int32))), .val (.int (if ¬ ((p2 &&& (2 : Int32)) = (0 : Int32)) then (1 : Int32) else (0 : Int32))), .val (.int (if ¬ ((p2 &&& (4 : Int32)) = (0 : Int32)) then (1 : Int32) else (0 : Int32))), .val .null, .val (.double (FP.i2d (p4 &&& (65535 : Int32)))), .second, .val (.ref b10), .val (.int (if ¬ ((p2 &&& (4 : Int32)) = (0 : Int32)) then p1 else p0)), .val (.int (1 : Int32))] [])) t
              refine XS.goto P24.here P24.x rfl (pc0 := 120) (pc' := 135) rfl (hb hby at_120) (by decide) (by decide) ?_
              exact kk40
            · rw [show (if (p2 &&& (4 : Int32)) = (0 : Int32) then (1 : Int32) else (if p0 = p1 then (1 : Int32) else (0 : Int32))) = (if p0 = p1 then (1 : Int32) else (0 : Int32)) from if_neg hc37] at kk40
              show Steps p.tables e below (T23.setTop (mkF m 114 #[.val (.int p0), .val (.int p1), .val (.int p2), .val (.int p3), .val (.int p4), .val (.int (if ¬ ((p2 &&& (1 : Int32)) = (0 : Int32)) then (1 : Int32) else (0 : Int32))), .val (.int (if ¬ ((p2 &&& (2 : Int32)) = (0 : Int32)) then (1 : Int32) else (0 : Int32))), .val (.int (if ¬ ((p2 &&& (4 : Int32)) = (0 : Int32)) then (1 : Int32) else (0 : Int32))), .val .null, .val (.double (FP.i2d (p4 &&& (65535 : Int32)))), .second, .val (.ref b10), .val (.int (if ¬ ((p2 &&& (4 : Int32)) = (0 : Int32)) then p1 else p0)), .unset] [(.int (if ¬ ((p2 &&& (4 : Int32)) = (0 : Int32)) then (1 : Int32) else (0 : Int32)))])) t
              refine XS.ifYes P24.here P24.x rfl (pc0 := 114) (pc' := 123) rfl (hb hby at_114) rfl (b01_ne_t hc37) (by decide) (by decide) ?_
              show Steps p.tables e below (T23.setTop (mkF m 123 #[.val (.int p0), .val (.int p1), .val (.int p2), .val (.int p3), .val (.int p4), .val (.int (if ¬ ((p2 &&& (1 : Int32)) = (0 : Int32)) then (1 : Int32) else (0 : Int32))), .val (.int (if ¬ ((p2 &&& (2 : Int32)) = (0 : Int32)) then (1 : Int32) else (0 : Int32))), .val (.int (if ¬ ((p2 &&& (4 : Int32)) = (0 : Int32)) then (1 : Int32) else (0 : Int32))), .val .null, .val (.double (FP.i2d (p4 &&& (65535 : Int32)))), .second, .val (.ref b10), .val (.int (if ¬ ((p2 &&& (4 : Int32)) = (0 : Int32)) then p1 else p0)), .unset] [])) t
              refine XS.iloadN P24.here P24.x rfl (hb hby at_123) rfl ?_
              show Steps p.tables e below (T23.setTop (mkF m 124 #[.val (.int p0), .val (.int p1), .val (.int p2), .val (.int p3), .val (.int p4), .val (.int (if ¬ ((p2 &&& (1 : Int32)) = (0 : Int32)) then (1 : Int32) else (0 : Int32))), .val (.int (if ¬ ((p2 &&& (2 : Int32)) = (0 : Int32)) then (1 : Int32) else (0 : Int32))), .val (.int (if ¬ ((p2 &&& (4 : Int32)) = (0 : Int32)) then (1 : Int32) else (0 : Int32))), .val .null, .val (.double (FP.i2d (p4 &&& (65535 : Int32)))), .second, .val (.ref b10), .val (.int (if ¬ ((p2 &&& (4 : Int32)) = (0 : Int32)) then p1 else p0)), .unset] [(.int p0)])) t
              refine XS.iloadN P24.here P24.x rfl (hb hby at_124) rfl ?_
              show Steps p.tables e below (T23.setTop (mkF m 125 #[.val (.int p0), .val (.int p1), .val (.int p2), .val (.int p3), .val (.int p4), .val (.int (if ¬ ((p2 &&& (1 : Int32)) = (0 : Int32)) then (1 : Int32) else (0 : Int32))), .val (.int (if ¬ ((p2 &&& (2 : Int32)) = (0 : Int32)) then (1 : Int32) else (0 : Int32))), .val (.int (if ¬ ((p2 &&& (4 : Int32)) = (0 : Int32)) then (1 : Int32) else (0 : Int32))), .val .null, .val (.double (FP.i2d (p4 &&& (65535 : Int32)))), .second, .val (.ref b10), .val (.int (if ¬ ((p2 &&& (4 : Int32)) = (0 : Int32)) then p1 else p0)), .unset] [(.int p1), (.int p0)])) t
              suffices kk39 : Steps p.tables e below (T23.setTop (mkF m 133 #[.val (.int p0), .val (.int p1), .val (.int p2), .val (.int p3), .val (.int p4), .val (.int (if ¬ ((p2 &&& (1 : Int32)) = (0 : Int32)) then (1 : Int32) else (0 : Int32))), .val (.int (if ¬ ((p2 &&& (2 : Int32)) = (0 : Int32)) then (1 : Int32) else (0 : Int32))), .val (.int (if ¬ ((p2 &&& (4 : Int32)) = (0 : Int32)) then (1 : Int32) else (0 : Int32))), .val .null, .val (.double (FP.i2d (p4 &&& (65535 : Int32)))), .second, .val (.ref b10), .val (.int (if ¬ ((p2 &&& (4 : Int32)) = (0 : Int32)) then p1 else p0)), .unset] [(.int (if p0 = p1 then (1 : Int32) else (0 : Int32)))])) t by
                by_cases hc38 : p0 = p1
                · rw [show (if p0 = p1 then (1 : Int32) else (0 : Int32)) = (1 : Int32) from if_pos hc38] at kk39
                  show Steps p.tables e below (T23.setTop (mkF m 125 #[.val (.int p0), .val (.int p1), .val (.int p2), .val (.int p3), .val (.int p4), .val (.int (if ¬ ((p2 &&& (1 : Int32)) = (0 : Int32)) then (1 : Int32) else (0 : Int32))), .val (.int (if ¬ ((p2 &&& (2 : Int32)) = (0 : Int32)) then (1 : Int32) else (0 : Int32))), .val (.int (if ¬ ((p2 &&& (4 : Int32)) = (0 : Int32)) then (1 : Int32) else (0 : Int32))), .val .null, .val (.double (FP.i2d (p4 &&& (65535 : Int32)))), .second, .val (.ref b10), .val (.int (if ¬ ((p2 &&& (4 : Int32)) = (0 : Int32)) then p1 else p0)), .unset] [(.int p1), (.int p0)])) t
                  refine XS.icmpNo P24.here P24.x rfl (hb hby at_125) rfl (iiW_ne_f (not_not_intro hc38)) ?_
                  show Steps p.tables e below (T23.setTop (mkF m 128 #[.val (.int p0), .val (.int p1), .val (.int p2), .val (.int p3), .val (.int p4), .val (.int (if ¬ ((p2 &&& (1 : Int32)) = (0 : Int32)) then (1 : Int32) else (0 : Int32))), .val (.int (if ¬ ((p2 &&& (2 : Int32)) = (0 : Int32)) then (1 : Int32) else (0 : Int32))), .val (.int (if ¬ ((p2 &&& (4 : Int32)) = (0 : Int32)) then (1 : Int32) else (0 : Int32))), .val .null, .val (.double (FP.i2d (p4 &&& (65535 : Int32)))), .second, .val (.ref b10), .val (.int (if ¬ ((p2 &&& (4 : Int32)) = (0 : Int32)) then p1 else p0)), .unset] [])) t
                  refine XS.iconst P24.here P24.x rfl (hb hby at_128) ?_
                  show Steps p.tables e below (T23.setTop (mkF m 129 #[.val (.int p0), .val (.int p1), .val (.int p2), .val (.int p3), .val (.int p4), .val (.int (if ¬ ((p2 &&& (1 : Int32)) = (0 : Int32)) then (1 : Int32) else (0 : Int32))), .val (.int (if ¬ ((p2 &&& (2 : Int32)) = (0 : Int32)) then (1 : Int32) else (0 : Int32))), .val (.int (if ¬ ((p2 &&& (4 : Int32)) = (0 : Int32)) then (1 : Int32) else (0 : Int32))), .val .null, .val (.double (FP.i2d (p4 &&& (65535 : Int32)))), .second, .val (.ref b10), .val (.int (if ¬ ((p2 &&& (4 : Int32)) = (0 : Int32)) then p1 else p0)), .unset] [(.int (1 : Int32))])) t
                  refine XS.goto P24.here P24.x rfl (pc0 := 129) (pc' := 133) rfl (hb hby at_129) (by decide) (by decide) ?_
                  exact kk39
                · rw [show (if p0 = p1 then (1 : Int32) else (0 : Int32)) = (0 : Int32) from if_neg hc38] at kk39
                  show Steps p.tables e below (T23.setTop (mkF m 125 #[.val (.int p0), .val (.int p1), .val (.int p2), .val (.int p3), .val (.int p4), .val (.int (if ¬ ((p2 &&& (1 : Int32)) = (0 : Int32)) then (1 : Int32) else (0 : Int32))), .val (.int (if ¬ ((p2 &&& (2 : Int32)) = (0 : Int32)) then (1 : Int32) else (0 : Int32))), .val (.int (if ¬ ((p2 &&& (4 : Int32)) = (0 : Int32)) then (1 : Int32) else (0 : Int32))), .val .null, .val (.double (FP.i2d (p4 &&& (65535 : Int32)))), .second, .val (.ref b10), .val (.int (if ¬ ((p2 &&& (4 : Int32)) = (0 : Int32)) then p1 else p0)), .unset] [(.int p1), (.int p0)])) t
                  refine XS.icmpYes P24.here P24.x rfl (pc0 := 125) (pc' := 132) rfl (hb hby at_125) rfl (iiW_ne_t hc38) (by decide) (by decide) ?_
                  show Steps p.tables e below (T23.setTop (mkF m 132 #[.val (.int p0), .val (.int p1), .val (.int p2), .val (.int p3), .val (.int p4), .val (.int (if ¬ ((p2 &&& (1 : Int32)) = (0 : Int32)) then (1 : Int32) else (0 : Int32))), .val (.int (if ¬ ((p2 &&& (2 : Int32)) = (0 : Int32)) then (1 : Int32) else (0 : Int32))), .val (.int (if ¬ ((p2 &&& (4 : Int32)) = (0 : Int32)) then (1 : Int32) else (0 : Int32))), .val .null, .val (.double (FP.i2d (p4 &&& (65535 : Int32)))), .second, .val (.ref b10), .val (.int (if ¬ ((p2 &&& (4 : Int32)) = (0 : Int32)) then p1 else p0)), .unset] [])) t
                  refine XS.iconst P24.here P24.x rfl (hb hby at_132) ?_
                  exact kk39
              show Steps p.tables e below (T23.setTop (mkF m 133 #[.val (.int p0), .val (.int p1), .val (.int p2), .val (.int p3), .val (.int p4), .val (.int (if ¬ ((p2 &&& (1 : Int32)) = (0 : Int32)) then (1 : Int32) else (0 : Int32))), .val (.int (if ¬ ((p2 &&& (2 : Int32)) = (0 : Int32)) then (1 : Int32) else (0 : Int32))), .val (.int (if ¬ ((p2 &&& (4 : Int32)) = (0 : Int32)) then (1 : Int32) else (0 : Int32))), .val .null, .val (.double (FP.i2d (p4 &&& (65535 : Int32)))), .second, .val (.ref b10), .val (.int (if ¬ ((p2 &&& (4 : Int32)) = (0 : Int32)) then p1 else p0)), .unset] [(.int (if p0 = p1 then (1 : Int32) else (0 : Int32)))])) t
              refine XS.istore P24.here P24.x rfl (hb hby at_133) rfl (l' := #[.val (.int p0), .val (.int p1), .val (.int p2), .val (.int p3), .val (.int p4), .val (.int (if ¬ ((p2 &&& (1 : Int32)) = (0 : Int32)) then (1 : Int32) else (0 : Int32))), .val (.int (if ¬ ((p2 &&& (2 : Int32)) = (0 : Int32)) then (1 : Int32) else (0 : Int32))), .val (.int (if ¬ ((p2 &&& (4 : Int32)) = (0 : Int32)) then (1 : Int32) else (0 : Int32))), .val .null, .val (.double (FP.i2d (p4 &&& (65535 : Int32)))), .second, .val (.ref b10), .val (.int (if ¬ ((p2 &&& (4 : Int32)) = (0 : Int32)) then p1 else p0)), .val (.int (if p0 = p1 then (1 : Int32) else (0 : Int32)))]) rfl ?_
              exact kk40
          exact kk41
      show Steps p.tables e below (T23.setTop (mkF m 135 #[.val (.int p0), .val (.int p1), .val (.int p2), .val (.int p3), .val (.int p4), .val (.int (if ¬ ((p2 &&& (1 : Int32)) = (0 : Int32)) then (1 : Int32) else (0 : Int32))), .val (.int (if ¬ ((p2 &&& (2 : Int32)) = (0 : Int32)) then (1 : Int32) else (0 : Int32))), .val (.int (if ¬ ((p2 &&& (4 : Int32)) = (0 : Int32)) then (1 : Int32) else (0 : Int32))), .val .null, .val (.double (FP.i2d (p4 &&& (65535 : Int32)))), .second, .val (.ref b10), .val (.int (if ¬ ((p2 &&& (4 : Int32)) = (0 : Int32)) then p1 else p0)), .val (.int (if (p2 &&& (1 : Int32)) = (0 : Int32) then (1 : Int32) else (if (p2 &&& (4 : Int32)) = (0 : Int32) then (1 : Int32) else (if p0 = p1 then (1 : Int32) else (0 : Int32)))))] [])) t
      refine XS.aload P24.here P24.x rfl (hb hby at_135) rfl rfl ?_
      show Steps p.tables e below (T23.setTop (mkF m 137 #[.val (.int p0), .val (.int p1), .val (.int p2), .val (.int p3), .val (.int p4), .val (.int (if ¬ ((p2 &&& (1 : Int32)) = (0 : Int32)) then (1 : Int32) else (0 : Int32))), .val (.int (if ¬ ((p2 &&& (2 : Int32)) = (0 : Int32)) then (1 : Int32) else (0 : Int32))), .val (.int (if ¬ ((p2 &&& (4 : Int32)) = (0 : Int32)) then (1 : Int32) else (0 : Int32))), .val .null, .val (.double (FP.i2d (p4 &&& (65535 : Int32)))), .second, .val (.ref b10), .val (.int (if ¬ ((p2 &&& (4 : Int32)) = (0 : Int32)) then p1 else p0)), .val (.int (if (p2 &&& (1 : Int32)) = (0 : Int32) then (1 : Int32) else (if (p2 &&& (4 : Int32)) = (0 : Int32) then (1 : Int32) else (if p0 = p1 then (1 : Int32) else (0 : Int32)))))] [(.ref b10)])) t
      refine XS.iload P24.here P24.x rfl (hb hby at_137) rfl ?_
      exact kk
    show Done _ _ _ _ _ _ _ _ _ _ _ _ _ _ _ T23 (mkF m 139 #[.val (.int p0), .val (.int p1), .val (.int p2), .val (.int p3), .val (.int p4), .val (.int (if ¬ ((p2 &&& (1 : Int32)) = (0 : Int32)) then (1 : Int32) else (0 : Int32))), .val (.int (if ¬ ((p2 &&& (2 : Int32)) = (0 : Int32)) then (1 : Int32) else (0 : Int32))), .val (.int (if ¬ ((p2 &&& (4 : Int32)) = (0 : Int32)) then (1 : Int32) else (0 : Int32))), .val .null, .val (.double (FP.i2d (p4 &&& (65535 : Int32)))), .second, .val (.ref b10), .val (.int (if ¬ ((p2 &&& (4 : Int32)) = (0 : Int32)) then p1 else p0)), .val (.int (if (p2 &&& (1 : Int32)) = (0 : Int32) then (1 : Int32) else (if (p2 &&& (4 : Int32)) = (0 : Int32) then (1 : Int32) else (if p0 = p1 then (1 : Int32) else (0 : Int32)))))] [(.int (if ¬ ((p2 &&& (4 : Int32)) = (0 : Int32)) then p1 else p0)), (.ref b10)])
    have f44 := (X14.keep K33)
    refine wCallV P24 (m_drivable l Z a0 hw hs b10 (if ¬ ((p2 &&& (4 : Int32)) = (0 : Int32)) then p1 else p0) (if ¬ ((p2 &&& (1 : Int32)) = (0 : Int32)) then (1 : Int32) else (0 : Int32)) p0 h32 F30 F26) (tw24 hw) (tw25 hw) (tw27 hw) (tw27 hw) (tw26 hw) (tw3 hw) (tw28 hw) (by decide) f44 (by rw [hml]; rfl) (lenOf pd_4 rfl) (argsL := [(.int (if ¬ ((p2 &&& (4 : Int32)) = (0 : Int32)) then p1 else p0))]) (rest := []) rfl rfl (W := 0) (Nat.le_of_eq rfl) (by decide) (by decide) (by decide) (by decide) (by simp) (hb hby at_139) rfl (k' := 1) (n' := 7) rfl rfl ?_
    rintro T42 _ _ P43 - ⟨rfl, rfl⟩
    show Done _ _ _ _ _ _ _ _ _ _ _ _ _ _ _ T42 (mkF m 142 #[.val (.int p0), .val (.int p1), .val (.int p2), .val (.int p3), .val (.int p4), .val (.int (if ¬ ((p2 &&& (1 : Int32)) = (0 : Int32)) then (1 : Int32) else (0 : Int32))), .val (.int (if ¬ ((p2 &&& (2 : Int32)) = (0 : Int32)) then (1 : Int32) else (0 : Int32))), .val (.int (if ¬ ((p2 &&& (4 : Int32)) = (0 : Int32)) then (1 : Int32) else (0 : Int32))), .val .null, .val (.double (FP.i2d (p4 &&& (65535 : Int32)))), .second, .val (.ref b10), .val (.int (if ¬ ((p2 &&& (4 : Int32)) = (0 : Int32)) then p1 else p0)), .val (.int (if (p2 &&& (1 : Int32)) = (0 : Int32) then (1 : Int32) else (if (p2 &&& (4 : Int32)) = (0 : Int32) then (1 : Int32) else (if p0 = p1 then (1 : Int32) else (0 : Int32)))))] [(.int (if (if ¬ ((p2 &&& (1 : Int32)) = (0 : Int32)) then (1 : Int32) else (0 : Int32)) = (0 : Int32) ∨ (if ¬ ((p2 &&& (4 : Int32)) = (0 : Int32)) then p1 else p0) = p0 then (1 : Int32) else (0 : Int32)))])
    refine Done.step (T' := T42) (g' := (mkF m 152 #[.val (.int p0), .val (.int p1), .val (.int p2), .val (.int p3), .val (.int p4), .val (.int (if ¬ ((p2 &&& (1 : Int32)) = (0 : Int32)) then (1 : Int32) else (0 : Int32))), .val (.int (if ¬ ((p2 &&& (2 : Int32)) = (0 : Int32)) then (1 : Int32) else (0 : Int32))), .val (.int (if ¬ ((p2 &&& (4 : Int32)) = (0 : Int32)) then (1 : Int32) else (0 : Int32))), .val .null, .val (.double (FP.i2d (p4 &&& (65535 : Int32)))), .second, .val (.ref b10), .val (.int (if ¬ ((p2 &&& (4 : Int32)) = (0 : Int32)) then p1 else p0)), .val (.int (if (p2 &&& (1 : Int32)) = (0 : Int32) then (1 : Int32) else (if (p2 &&& (4 : Int32)) = (0 : Int32) then (1 : Int32) else (if p0 = p1 then (1 : Int32) else (0 : Int32)))))] [(.int (1 : Int32))])) (fun t kk => ?_) ?_
    · show Steps p.tables e below (T42.setTop (mkF m 142 #[.val (.int p0), .val (.int p1), .val (.int p2), .val (.int p3), .val (.int p4), .val (.int (if ¬ ((p2 &&& (1 : Int32)) = (0 : Int32)) then (1 : Int32) else (0 : Int32))), .val (.int (if ¬ ((p2 &&& (2 : Int32)) = (0 : Int32)) then (1 : Int32) else (0 : Int32))), .val (.int (if ¬ ((p2 &&& (4 : Int32)) = (0 : Int32)) then (1 : Int32) else (0 : Int32))), .val .null, .val (.double (FP.i2d (p4 &&& (65535 : Int32)))), .second, .val (.ref b10), .val (.int (if ¬ ((p2 &&& (4 : Int32)) = (0 : Int32)) then p1 else p0)), .val (.int (if (p2 &&& (1 : Int32)) = (0 : Int32) then (1 : Int32) else (if (p2 &&& (4 : Int32)) = (0 : Int32) then (1 : Int32) else (if p0 = p1 then (1 : Int32) else (0 : Int32)))))] [(.int (if (if ¬ ((p2 &&& (1 : Int32)) = (0 : Int32)) then (1 : Int32) else (0 : Int32)) = (0 : Int32) ∨ (if ¬ ((p2 &&& (4 : Int32)) = (0 : Int32)) then p1 else p0) = p0 then (1 : Int32) else (0 : Int32)))])) t
      refine XS.iload P43.here P43.x rfl (hb hby at_142) rfl ?_
      show Steps p.tables e below (T42.setTop (mkF m 144 #[.val (.int p0), .val (.int p1), .val (.int p2), .val (.int p3), .val (.int p4), .val (.int (if ¬ ((p2 &&& (1 : Int32)) = (0 : Int32)) then (1 : Int32) else (0 : Int32))), .val (.int (if ¬ ((p2 &&& (2 : Int32)) = (0 : Int32)) then (1 : Int32) else (0 : Int32))), .val (.int (if ¬ ((p2 &&& (4 : Int32)) = (0 : Int32)) then (1 : Int32) else (0 : Int32))), .val .null, .val (.double (FP.i2d (p4 &&& (65535 : Int32)))), .second, .val (.ref b10), .val (.int (if ¬ ((p2 &&& (4 : Int32)) = (0 : Int32)) then p1 else p0)), .val (.int (if (p2 &&& (1 : Int32)) = (0 : Int32) then (1 : Int32) else (if (p2 &&& (4 : Int32)) = (0 : Int32) then (1 : Int32) else (if p0 = p1 then (1 : Int32) else (0 : Int32)))))] [(.int (if (p2 &&& (1 : Int32)) = (0 : Int32) then (1 : Int32) else (if (p2 &&& (4 : Int32)) = (0 : Int32) then (1 : Int32) else (if p0 = p1 then (1 : Int32) else (0 : Int32))))), (.int (if (if ¬ ((p2 &&& (1 : Int32)) = (0 : Int32)) then (1 : Int32) else (0 : Int32)) = (0 : Int32) ∨ (if ¬ ((p2 &&& (4 : Int32)) = (0 : Int32)) then p1 else p0) = p0 then (1 : Int32) else (0 : Int32)))])) t
      refine XS.icmpNo P43.here P43.x rfl (hb hby at_144) rfl (iiW_ne_f (not_not_intro (own_fin _ _ _ _))) ?_
      show Steps p.tables e below (T42.setTop (mkF m 147 #[.val (.int p0), .val (.int p1), .val (.int p2), .val (.int p3), .val (.int p4), .val (.int (if ¬ ((p2 &&& (1 : Int32)) = (0 : Int32)) then (1 : Int32) else (0 : Int32))), .val (.int (if ¬ ((p2 &&& (2 : Int32)) = (0 : Int32)) then (1 : Int32) else (0 : Int32))), .val (.int (if ¬ ((p2 &&& (4 : Int32)) = (0 : Int32)) then (1 : Int32) else (0 : Int32))), .val .null, .val (.double (FP.i2d (p4 &&& (65535 : Int32)))), .second, .val (.ref b10), .val (.int (if ¬ ((p2 &&& (4 : Int32)) = (0 : Int32)) then p1 else p0)), .val (.int (if (p2 &&& (1 : Int32)) = (0 : Int32) then (1 : Int32) else (if (p2 &&& (4 : Int32)) = (0 : Int32) then (1 : Int32) else (if p0 = p1 then (1 : Int32) else (0 : Int32)))))] [])) t
      refine XS.iconst P43.here P43.x rfl (hb hby at_147) ?_
      show Steps p.tables e below (T42.setTop (mkF m 148 #[.val (.int p0), .val (.int p1), .val (.int p2), .val (.int p3), .val (.int p4), .val (.int (if ¬ ((p2 &&& (1 : Int32)) = (0 : Int32)) then (1 : Int32) else (0 : Int32))), .val (.int (if ¬ ((p2 &&& (2 : Int32)) = (0 : Int32)) then (1 : Int32) else (0 : Int32))), .val (.int (if ¬ ((p2 &&& (4 : Int32)) = (0 : Int32)) then (1 : Int32) else (0 : Int32))), .val .null, .val (.double (FP.i2d (p4 &&& (65535 : Int32)))), .second, .val (.ref b10), .val (.int (if ¬ ((p2 &&& (4 : Int32)) = (0 : Int32)) then p1 else p0)), .val (.int (if (p2 &&& (1 : Int32)) = (0 : Int32) then (1 : Int32) else (if (p2 &&& (4 : Int32)) = (0 : Int32) then (1 : Int32) else (if p0 = p1 then (1 : Int32) else (0 : Int32)))))] [(.int (1 : Int32))])) t
      refine XS.goto P43.here P43.x rfl (pc0 := 148) (pc' := 152) rfl (hb hby at_148) (by decide) (by decide) ?_
      exact kk
    show Done _ _ _ _ _ _ _ _ _ _ _ _ _ _ _ T42 (mkF m 152 #[.val (.int p0), .val (.int p1), .val (.int p2), .val (.int p3), .val (.int p4), .val (.int (if ¬ ((p2 &&& (1 : Int32)) = (0 : Int32)) then (1 : Int32) else (0 : Int32))), .val (.int (if ¬ ((p2 &&& (2 : Int32)) = (0 : Int32)) then (1 : Int32) else (0 : Int32))), .val (.int (if ¬ ((p2 &&& (4 : Int32)) = (0 : Int32)) then (1 : Int32) else (0 : Int32))), .val .null, .val (.double (FP.i2d (p4 &&& (65535 : Int32)))), .second, .val (.ref b10), .val (.int (if ¬ ((p2 &&& (4 : Int32)) = (0 : Int32)) then p1 else p0)), .val (.int (if (p2 &&& (1 : Int32)) = (0 : Int32) then (1 : Int32) else (if (p2 &&& (4 : Int32)) = (0 : Int32) then (1 : Int32) else (if p0 = p1 then (1 : Int32) else (0 : Int32)))))] [(.int (1 : Int32))])
    exact wRet P43 (t := .boolean) hret (narrow_01 (Or.inr rfl)) (Or.inl ⟨rfl, Or.inr (Or.inl rfl), _, rfl⟩) (hb hby at_152) rfl
  · refine Done.step (T' := T0) (g' := (mkF m 57 #[.val (.int p0), .val (.int p1), .val (.int p2), .val (.int p3), .val (.int p4), .val (.int (if ¬ ((p2 &&& (1 : Int32)) = (0 : Int32)) then (1 : Int32) else (0 : Int32))), .val (.int (if ¬ ((p2 &&& (2 : Int32)) = (0 : Int32)) then (1 : Int32) else (0 : Int32))), .val (.int (if ¬ ((p2 &&& (4 : Int32)) = (0 : Int32)) then (1 : Int32) else (0 : Int32))), .val .null, .unset, .unset, .unset, .unset, .unset] [(.int (((p2.toUInt32 >>> ((4 : Int32) &&& 31).toUInt32).toInt32) &&& (255 : Int32)).toUInt32.toUInt16.toUInt32.toInt32)])) (fun t kk => ?_) ?_
    · show Steps p.tables e below (T0.setTop (mkF m 46 #[.val (.int p0), .val (.int p1), .val (.int p2), .val (.int p3), .val (.int p4), .val (.int (if ¬ ((p2 &&& (1 : Int32)) = (0 : Int32)) then (1 : Int32) else (0 : Int32))), .val (.int (if ¬ ((p2 &&& (2 : Int32)) = (0 : Int32)) then (1 : Int32) else (0 : Int32))), .val (.int (if ¬ ((p2 &&& (4 : Int32)) = (0 : Int32)) then (1 : Int32) else (0 : Int32))), .val .null, .unset, .unset, .unset, .unset, .unset] [(.int (p2 &&& (8 : Int32)))])) t
      refine XS.ifNo P0.here P0.x rfl (hb hby at_46) rfl (i0W_eq_f (show ¬ ((p2 &&& (8 : Int32)) = (0 : Int32)) from hn)) ?_
      show Steps p.tables e below (T0.setTop (mkF m 49 #[.val (.int p0), .val (.int p1), .val (.int p2), .val (.int p3), .val (.int p4), .val (.int (if ¬ ((p2 &&& (1 : Int32)) = (0 : Int32)) then (1 : Int32) else (0 : Int32))), .val (.int (if ¬ ((p2 &&& (2 : Int32)) = (0 : Int32)) then (1 : Int32) else (0 : Int32))), .val (.int (if ¬ ((p2 &&& (4 : Int32)) = (0 : Int32)) then (1 : Int32) else (0 : Int32))), .val .null, .unset, .unset, .unset, .unset, .unset] [])) t
      refine XS.iloadN P0.here P0.x rfl (hb hby at_49) rfl ?_
      show Steps p.tables e below (T0.setTop (mkF m 50 #[.val (.int p0), .val (.int p1), .val (.int p2), .val (.int p3), .val (.int p4), .val (.int (if ¬ ((p2 &&& (1 : Int32)) = (0 : Int32)) then (1 : Int32) else (0 : Int32))), .val (.int (if ¬ ((p2 &&& (2 : Int32)) = (0 : Int32)) then (1 : Int32) else (0 : Int32))), .val (.int (if ¬ ((p2 &&& (4 : Int32)) = (0 : Int32)) then (1 : Int32) else (0 : Int32))), .val .null, .unset, .unset, .unset, .unset, .unset] [(.int p2)])) t
      refine XS.iconst P0.here P0.x rfl (hb hby at_50) ?_
      show Steps p.tables e below (T0.setTop (mkF m 51 #[.val (.int p0), .val (.int p1), .val (.int p2), .val (.int p3), .val (.int p4), .val (.int (if ¬ ((p2 &&& (1 : Int32)) = (0 : Int32)) then (1 : Int32) else (0 : Int32))), .val (.int (if ¬ ((p2 &&& (2 : Int32)) = (0 : Int32)) then (1 : Int32) else (0 : Int32))), .val (.int (if ¬ ((p2 &&& (4 : Int32)) = (0 : Int32)) then (1 : Int32) else (0 : Int32))), .val .null, .unset, .unset, .unset, .unset, .unset] [(.int (4 : Int32)), (.int p2)])) t
      refine XS.iushr P0.here P0.x rfl (hb hby at_51) rfl ?_
      show Steps p.tables e below (T0.setTop (mkF m 52 #[.val (.int p0), .val (.int p1), .val (.int p2), .val (.int p3), .val (.int p4), .val (.int (if ¬ ((p2 &&& (1 : Int32)) = (0 : Int32)) then (1 : Int32) else (0 : Int32))), .val (.int (if ¬ ((p2 &&& (2 : Int32)) = (0 : Int32)) then (1 : Int32) else (0 : Int32))), .val (.int (if ¬ ((p2 &&& (4 : Int32)) = (0 : Int32)) then (1 : Int32) else (0 : Int32))), .val .null, .unset, .unset, .unset, .unset, .unset] [(.int ((p2.toUInt32 >>> ((4 : Int32) &&& 31).toUInt32).toInt32))])) t
      refine XS.sipush P0.here P0.x rfl (hb hby at_52) ?_
      show Steps p.tables e below (T0.setTop (mkF m 55 #[.val (.int p0), .val (.int p1), .val (.int p2), .val (.int p3), .val (.int p4), .val (.int (if ¬ ((p2 &&& (1 : Int32)) = (0 : Int32)) then (1 : Int32) else (0 : Int32))), .val (.int (if ¬ ((p2 &&& (2 : Int32)) = (0 : Int32)) then (1 : Int32) else (0 : Int32))), .val (.int (if ¬ ((p2 &&& (4 : Int32)) = (0 : Int32)) then (1 : Int32) else (0 : Int32))), .val .null, .unset, .unset, .unset, .unset, .unset] [(.int (255 : Int32)), (.int ((p2.toUInt32 >>> ((4 : Int32) &&& 31).toUInt32).toInt32))])) t
      refine XS.iand P0.here P0.x rfl (hb hby at_55) rfl ?_
      show Steps p.tables e below (T0.setTop (mkF m 56 #[.val (.int p0), .val (.int p1), .val (.int p2), .val (.int p3), .val (.int p4), .val (.int (if ¬ ((p2 &&& (1 : Int32)) = (0 : Int32)) then (1 : Int32) else (0 : Int32))), .val (.int (if ¬ ((p2 &&& (2 : Int32)) = (0 : Int32)) then (1 : Int32) else (0 : Int32))), .val (.int (if ¬ ((p2 &&& (4 : Int32)) = (0 : Int32)) then (1 : Int32) else (0 : Int32))), .val .null, .unset, .unset, .unset, .unset, .unset] [(.int (((p2.toUInt32 >>> ((4 : Int32) &&& 31).toUInt32).toInt32) &&& (255 : Int32)))])) t
      refine XS.i2c P0.here P0.x rfl (hb hby at_56) rfl ?_
      exact kk
    show Done _ _ _ _ _ _ _ _ _ _ _ _ _ _ _ T0 (mkF m 57 #[.val (.int p0), .val (.int p1), .val (.int p2), .val (.int p3), .val (.int p4), .val (.int (if ¬ ((p2 &&& (1 : Int32)) = (0 : Int32)) then (1 : Int32) else (0 : Int32))), .val (.int (if ¬ ((p2 &&& (2 : Int32)) = (0 : Int32)) then (1 : Int32) else (0 : Int32))), .val (.int (if ¬ ((p2 &&& (4 : Int32)) = (0 : Int32)) then (1 : Int32) else (0 : Int32))), .val .null, .unset, .unset, .unset, .unset, .unset] [(.int (((p2.toUInt32 >>> ((4 : Int32) &&& 31).toUInt32).toInt32) &&& (255 : Int32)).toUInt32.toUInt16.toUInt32.toInt32)])
    generalize g_ch : (((p2.toUInt32 >>> ((4 : Int32) &&& 31).toUInt32).toInt32) &&& (255 : Int32)).toUInt32.toUInt16.toUInt32.toInt32 = ch
    have hch : ¬ ((255 : Int32) < ch) := by rw [← g_ch]; exact own_ch _
    show Done _ _ _ _ _ _ _ _ _ _ _ _ _ _ _ T0 (mkF m 57 #[.val (.int p0), .val (.int p1), .val (.int p2), .val (.int p3), .val (.int p4), .val (.int (if ¬ ((p2 &&& (1 : Int32)) = (0 : Int32)) then (1 : Int32) else (0 : Int32))), .val (.int (if ¬ ((p2 &&& (2 : Int32)) = (0 : Int32)) then (1 : Int32) else (0 : Int32))), .val (.int (if ¬ ((p2 &&& (4 : Int32)) = (0 : Int32)) then (1 : Int32) else (0 : Int32))), .val .null, .unset, .unset, .unset, .unset, .unset] [(.int ch)])
    show Done _ _ _ _ _ _ _ _ _ _ _ _ _ _ _ T0 (mkF m 57 #[.val (.int p0), .val (.int p1), .val (.int p2), .val (.int p3), .val (.int p4), .val (.int (if ¬ ((p2 &&& (1 : Int32)) = (0 : Int32)) then (1 : Int32) else (0 : Int32))), .val (.int (if ¬ ((p2 &&& (2 : Int32)) = (0 : Int32)) then (1 : Int32) else (0 : Int32))), .val (.int (if ¬ ((p2 &&& (4 : Int32)) = (0 : Int32)) then (1 : Int32) else (0 : Int32))), .val .null, .unset, .unset, .unset, .unset, .unset] [(.int ch)])
    refine wCallS P0 (m_valueOf l Z a0 hw hs ch cs h0 S0 hcs hch) (tw29 hw) (tw30 hw) (tw31 hw) (tw32 hw) (by decide) (by rw [hml]; rfl) (lenOf pd_5 rfl) (argsL := [(.int ch)]) (rest := []) rfl rfl (W := 0) (Nat.le_of_eq rfl) (by decide) (by decide) (by decide) (by decide) (by simp) (hb hby at_57) rfl (k' := 2) (n' := 5) rfl rfl ?_
    rintro T45 h58 _ P46 K59 ⟨b47, b48, rfl, q49, q50, q51, q52, q53, q54, q55, q56, q57⟩
    have szh58 : h0.size ≤ h58.size := K59.1
    show Done _ _ _ _ _ _ _ _ _ _ _ _ _ _ _ T45 (mkF m 60 #[.val (.int p0), .val (.int p1), .val (.int p2), .val (.int p3), .val (.int p4), .val (.int (if ¬ ((p2 &&& (1 : Int32)) = (0 : Int32)) then (1 : Int32) else (0 : Int32))), .val (.int (if ¬ ((p2 &&& (2 : Int32)) = (0 : Int32)) then (1 : Int32) else (0 : Int32))), .val (.int (if ¬ ((p2 &&& (4 : Int32)) = (0 : Int32)) then (1 : Int32) else (0 : Int32))), .val .null, .unset, .unset, .unset, .unset, .unset] [(.ref b47)])
    refine Done.step (T' := T45) (g' := (mkF m 70 #[.val (.int p0), .val (.int p1), .val (.int p2), .val (.int p3), .val (.int p4), .val (.int (if ¬ ((p2 &&& (1 : Int32)) = (0 : Int32)) then (1 : Int32) else (0 : Int32))), .val (.int (if ¬ ((p2 &&& (2 : Int32)) = (0 : Int32)) then (1 : Int32) else (0 : Int32))), .val (.int (if ¬ ((p2 &&& (4 : Int32)) = (0 : Int32)) then (1 : Int32) else (0 : Int32))), .val (.ref b47), .val (.double (FP.i2d (p4 &&& (65535 : Int32)))), .second, .unset, .unset, .unset] [])) (fun t kk => ?_) ?_
    · show Steps p.tables e below (T45.setTop (mkF m 60 #[.val (.int p0), .val (.int p1), .val (.int p2), .val (.int p3), .val (.int p4), .val (.int (if ¬ ((p2 &&& (1 : Int32)) = (0 : Int32)) then (1 : Int32) else (0 : Int32))), .val (.int (if ¬ ((p2 &&& (2 : Int32)) = (0 : Int32)) then (1 : Int32) else (0 : Int32))), .val (.int (if ¬ ((p2 &&& (4 : Int32)) = (0 : Int32)) then (1 : Int32) else (0 : Int32))), .val .null, .unset, .unset, .unset, .unset, .unset] [(.ref b47)])) t
      refine XS.astore P46.here P46.x rfl (hb hby at_60) rfl rfl (l' := #[.val (.int p0), .val (.int p1), .val (.int p2), .val (.int p3), .val (.int p4), .val (.int (if ¬ ((p2 &&& (1 : Int32)) = (0 : Int32)) then (1 : Int32) else (0 : Int32))), .val (.int (if ¬ ((p2 &&& (2 : Int32)) = (0 : Int32)) then (1 : Int32) else (0 : Int32))), .val (.int (if ¬ ((p2 &&& (4 : Int32)) = (0 : Int32)) then (1 : Int32) else (0 : Int32))), .val (.ref b47), .unset, .unset, .unset, .unset, .unset]) rfl ?_
      show Steps p.tables e below (T45.setTop (mkF m 62 #[.val (.int p0), .val (.int p1), .val (.int p2), .val (.int p3), .val (.int p4), .val (.int (if ¬ ((p2 &&& (1 : Int32)) = (0 : Int32)) then (1 : Int32) else (0 : Int32))), .val (.int (if ¬ ((p2 &&& (2 : Int32)) = (0 : Int32)) then (1 : Int32) else (0 : Int32))), .val (.int (if ¬ ((p2 &&& (4 : Int32)) = (0 : Int32)) then (1 : Int32) else (0 : Int32))), .val (.ref b47), .unset, .unset, .unset, .unset, .unset] [])) t
      refine XS.iload P46.here P46.x rfl (hb hby at_62) rfl ?_
      show Steps p.tables e below (T45.setTop (mkF m 64 #[.val (.int p0), .val (.int p1), .val (.int p2), .val (.int p3), .val (.int p4), .val (.int (if ¬ ((p2 &&& (1 : Int32)) = (0 : Int32)) then (1 : Int32) else (0 : Int32))), .val (.int (if ¬ ((p2 &&& (2 : Int32)) = (0 : Int32)) then (1 : Int32) else (0 : Int32))), .val (.int (if ¬ ((p2 &&& (4 : Int32)) = (0 : Int32)) then (1 : Int32) else (0 : Int32))), .val (.ref b47), .unset, .unset, .unset, .unset, .unset] [(.int p4)])) t
      refine pLdcI P46 (tw0 hw) (hb hby at_64) rfl ?_
      show Steps p.tables e below (T45.setTop (mkF m 66 #[.val (.int p0), .val (.int p1), .val (.int p2), .val (.int p3), .val (.int p4), .val (.int (if ¬ ((p2 &&& (1 : Int32)) = (0 : Int32)) then (1 : Int32) else (0 : Int32))), .val (.int (if ¬ ((p2 &&& (2 : Int32)) = (0 : Int32)) then (1 : Int32) else (0 : Int32))), .val (.int (if ¬ ((p2 &&& (4 : Int32)) = (0 : Int32)) then (1 : Int32) else (0 : Int32))), .val (.ref b47), .unset, .unset, .unset, .unset, .unset] [(.int (65535 : Int32)), (.int p4)])) t
      refine XS.iand P46.here P46.x rfl (hb hby at_66) rfl ?_
      show Steps p.tables e below (T45.setTop (mkF m 67 #[.val (.int p0), .val (.int p1), .val (.int p2), .val (.int p3), .val (.int p4), .val (.int (if ¬ ((p2 &&& (1 : Int32)) = (0 : Int32)) then (1 : Int32) else (0 : Int32))), .val (.int (if ¬ ((p2 &&& (2 : Int32)) = (0 : Int32)) then (1 : Int32) else (0 : Int32))), .val (.int (if ¬ ((p2 &&& (4 : Int32)) = (0 : Int32)) then (1 : Int32) else (0 : Int32))), .val (.ref b47), .unset, .unset, .unset, .unset, .unset] [(.int (p4 &&& (65535 : Int32)))])) t
      refine XS.i2dS P46.here P46.x rfl (hb hby at_67) rfl rfl ?_
      show Steps p.tables e below (T45.setTop (mkF m 68 #[.val (.int p0), .val (.int p1), .val (.int p2), .val (.int p3), .val (.int p4), .val (.int (if ¬ ((p2 &&& (1 : Int32)) = (0 : Int32)) then (1 : Int32) else (0 : Int32))), .val (.int (if ¬ ((p2 &&& (2 : Int32)) = (0 : Int32)) then (1 : Int32) else (0 : Int32))), .val (.int (if ¬ ((p2 &&& (4 : Int32)) = (0 : Int32)) then (1 : Int32) else (0 : Int32))), .val (.ref b47), .unset, .unset, .unset, .unset, .unset] [(.double (FP.i2d (p4 &&& (65535 : Int32))))])) t
      refine XS.dstore P46.here P46.x rfl (hb hby at_68) rfl (l' := #[.val (.int p0), .val (.int p1), .val (.int p2), .val (.int p3), .val (.int p4), .val (.int (if ¬ ((p2 &&& (1 : Int32)) = (0 : Int32)) then (1 : Int32) else (0 : Int32))), .val (.int (if ¬ ((p2 &&& (2 : Int32)) = (0 : Int32)) then (1 : Int32) else (0 : Int32))), .val (.int (if ¬ ((p2 &&& (4 : Int32)) = (0 : Int32)) then (1 : Int32) else (0 : Int32))), .val (.ref b47), .val (.double (FP.i2d (p4 &&& (65535 : Int32)))), .second, .unset, .unset, .unset]) rfl ?_
      exact kk
    show Done _ _ _ _ _ _ _ _ _ _ _ _ _ _ _ T45 (mkF m 70 #[.val (.int p0), .val (.int p1), .val (.int p2), .val (.int p3), .val (.int p4), .val (.int (if ¬ ((p2 &&& (1 : Int32)) = (0 : Int32)) then (1 : Int32) else (0 : Int32))), .val (.int (if ¬ ((p2 &&& (2 : Int32)) = (0 : Int32)) then (1 : Int32) else (0 : Int32))), .val (.int (if ¬ ((p2 &&& (4 : Int32)) = (0 : Int32)) then (1 : Int32) else (0 : Int32))), .val (.ref b47), .val (.double (FP.i2d (p4 &&& (65535 : Int32)))), .second, .unset, .unset, .unset] [])
    refine wNew P46 (tw1 hw) (tw2 hw) (tw3 hw) (hb hby at_70) rfl (by decide) (by decide) (k' := 3) (n' := 12) rfl rfl (fun T60 h62 b63 g64 lt65 P61 E66 X67 D68 => ?_)
    have ge_b63 : h0.size ≤ b63 := by have := P46.ge; omega
    have F69 : Fld Z h62 b63 "com/example/roundsmith/roundsmith/network/Street" "index" "I" (.int (0 : Int32)) := D68 (Or.inr (tw11 hw)) (ty := .int) (by decide)
    have F70 : Fld Z h62 b63 "com/example/roundsmith/roundsmith/network/Street" "from" "I" (.int (0 : Int32)) := D68 (Or.inr (tw13 hw)) (ty := .int) (by decide)
    have F71 : Fld Z h62 b63 "com/example/roundsmith/roundsmith/network/Street" "to" "I" (.int (0 : Int32)) := D68 (Or.inr (tw15 hw)) (ty := .int) (by decide)
    have F72 : Fld Z h62 b63 "com/example/roundsmith/roundsmith/network/Street" "length" "D" (.double (0 : UInt64)) := D68 (Or.inr (tw17 hw)) (ty := .double) (by decide)
    have F73 : Fld Z h62 b63 "com/example/roundsmith/roundsmith/network/Street" "required" "Z" (.int (0 : Int32)) := D68 (Or.inr (tw19 hw)) (ty := .boolean) (by decide)
    have F74 : Fld Z h62 b63 "com/example/roundsmith/roundsmith/network/Street" "oneWay" "Z" (.int (0 : Int32)) := D68 (Or.inr (tw21 hw)) (ty := .boolean) (by decide)
    have F75 : Fld Z h62 b63 "com/example/roundsmith/roundsmith/network/Street" "name" "Ljava/lang/String;" .null := D68 (Or.inr (tw23 hw)) (ty := (.object "java/lang/String")) (by decide)
    show Done _ _ _ _ _ _ _ _ _ _ _ _ _ _ _ T60 (mkF m 73 #[.val (.int p0), .val (.int p1), .val (.int p2), .val (.int p3), .val (.int p4), .val (.int (if ¬ ((p2 &&& (1 : Int32)) = (0 : Int32)) then (1 : Int32) else (0 : Int32))), .val (.int (if ¬ ((p2 &&& (2 : Int32)) = (0 : Int32)) then (1 : Int32) else (0 : Int32))), .val (.int (if ¬ ((p2 &&& (4 : Int32)) = (0 : Int32)) then (1 : Int32) else (0 : Int32))), .val (.ref b47), .val (.double (FP.i2d (p4 &&& (65535 : Int32)))), .second, .unset, .unset, .unset] [(.ref b63)])
    refine Done.step (T' := T60) (g' := (mkF m 85 #[.val (.int p0), .val (.int p1), .val (.int p2), .val (.int p3), .val (.int p4), .val (.int (if ¬ ((p2 &&& (1 : Int32)) = (0 : Int32)) then (1 : Int32) else (0 : Int32))), .val (.int (if ¬ ((p2 &&& (2 : Int32)) = (0 : Int32)) then (1 : Int32) else (0 : Int32))), .val (.int (if ¬ ((p2 &&& (4 : Int32)) = (0 : Int32)) then (1 : Int32) else (0 : Int32))), .val (.ref b47), .val (.double (FP.i2d (p4 &&& (65535 : Int32)))), .second, .unset, .unset, .unset] [(.ref b47), (.int (if ¬ ((p2 &&& (1 : Int32)) = (0 : Int32)) then (1 : Int32) else (0 : Int32))), (.int (if ¬ ((p2 &&& (2 : Int32)) = (0 : Int32)) then (1 : Int32) else (0 : Int32))), (.double (FP.i2d (p4 &&& (65535 : Int32)))), (.int p1), (.int p0), (.int p3), (.ref b63), (.ref b63)])) (fun t kk => ?_) ?_
    · show Steps p.tables e below (T60.setTop (mkF m 73 #[.val (.int p0), .val (.int p1), .val (.int p2), .val (.int p3), .val (.int p4), .val (.int (if ¬ ((p2 &&& (1 : Int32)) = (0 : Int32)) then (1 : Int32) else (0 : Int32))), .val (.int (if ¬ ((p2 &&& (2 : Int32)) = (0 : Int32)) then (1 : Int32) else (0 : Int32))), .val (.int (if ¬ ((p2 &&& (4 : Int32)) = (0 : Int32)) then (1 : Int32) else (0 : Int32))), .val (.ref b47), .val (.double (FP.i2d (p4 &&& (65535 : Int32)))), .second, .unset, .unset, .unset] [(.ref b63)])) t
      refine XS.dup P61.here P61.x rfl (hb hby at_73) rfl rfl ?_
      show Steps p.tables e below (T60.setTop (mkF m 74 #[.val (.int p0), .val (.int p1), .val (.int p2), .val (.int p3), .val (.int p4), .val (.int (if ¬ ((p2 &&& (1 : Int32)) = (0 : Int32)) then (1 : Int32) else (0 : Int32))), .val (.int (if ¬ ((p2 &&& (2 : Int32)) = (0 : Int32)) then (1 : Int32) else (0 : Int32))), .val (.int (if ¬ ((p2 &&& (4 : Int32)) = (0 : Int32)) then (1 : Int32) else (0 : Int32))), .val (.ref b47), .val (.double (FP.i2d (p4 &&& (65535 : Int32)))), .second, .unset, .unset, .unset] [(.ref b63), (.ref b63)])) t
      refine XS.iloadN P61.here P61.x rfl (hb hby at_74) rfl ?_
      show Steps p.tables e below (T60.setTop (mkF m 75 #[.val (.int p0), .val (.int p1), .val (.int p2), .val (.int p3), .val (.int p4), .val (.int (if ¬ ((p2 &&& (1 : Int32)) = (0 : Int32)) then (1 : Int32) else (0 : Int32))), .val (.int (if ¬ ((p2 &&& (2 : Int32)) = (0 : Int32)) then (1 : Int32) else (0 : Int32))), .val (.int (if ¬ ((p2 &&& (4 : Int32)) = (0 : Int32)) then (1 : Int32) else (0 : Int32))), .val (.ref b47), .val (.double (FP.i2d (p4 &&& (65535 : Int32)))), .second, .unset, .unset, .unset] [(.int p3), (.ref b63), (.ref b63)])) t
      refine XS.iloadN P61.here P61.x rfl (hb hby at_75) rfl ?_
      show Steps p.tables e below (T60.setTop (mkF m 76 #[.val (.int p0), .val (.int p1), .val (.int p2), .val (.int p3), .val (.int p4), .val (.int (if ¬ ((p2 &&& (1 : Int32)) = (0 : Int32)) then (1 : Int32) else (0 : Int32))), .val (.int (if ¬ ((p2 &&& (2 : Int32)) = (0 : Int32)) then (1 : Int32) else (0 : Int32))), .val (.int (if ¬ ((p2 &&& (4 : Int32)) = (0 : Int32)) then (1 : Int32) else (0 : Int32))), .val (.ref b47), .val (.double (FP.i2d (p4 &&& (65535 : Int32)))), .second, .unset, .unset, .unset] [(.int p0), (.int p3), (.ref b63), (.ref b63)])) t
      refine XS.iloadN P61.here P61.x rfl (hb hby at_76) rfl ?_
      show Steps p.tables e below (T60.setTop (mkF m 77 #[.val (.int p0), .val (.int p1), .val (.int p2), .val (.int p3), .val (.int p4), .val (.int (if ¬ ((p2 &&& (1 : Int32)) = (0 : Int32)) then (1 : Int32) else (0 : Int32))), .val (.int (if ¬ ((p2 &&& (2 : Int32)) = (0 : Int32)) then (1 : Int32) else (0 : Int32))), .val (.int (if ¬ ((p2 &&& (4 : Int32)) = (0 : Int32)) then (1 : Int32) else (0 : Int32))), .val (.ref b47), .val (.double (FP.i2d (p4 &&& (65535 : Int32)))), .second, .unset, .unset, .unset] [(.int p1), (.int p0), (.int p3), (.ref b63), (.ref b63)])) t
      refine XS.dload P61.here P61.x rfl (hb hby at_77) rfl ?_
      show Steps p.tables e below (T60.setTop (mkF m 79 #[.val (.int p0), .val (.int p1), .val (.int p2), .val (.int p3), .val (.int p4), .val (.int (if ¬ ((p2 &&& (1 : Int32)) = (0 : Int32)) then (1 : Int32) else (0 : Int32))), .val (.int (if ¬ ((p2 &&& (2 : Int32)) = (0 : Int32)) then (1 : Int32) else (0 : Int32))), .val (.int (if ¬ ((p2 &&& (4 : Int32)) = (0 : Int32)) then (1 : Int32) else (0 : Int32))), .val (.ref b47), .val (.double (FP.i2d (p4 &&& (65535 : Int32)))), .second, .unset, .unset, .unset] [(.double (FP.i2d (p4 &&& (65535 : Int32)))), (.int p1), (.int p0), (.int p3), (.ref b63), (.ref b63)])) t
      refine XS.iload P61.here P61.x rfl (hb hby at_79) rfl ?_
      show Steps p.tables e below (T60.setTop (mkF m 81 #[.val (.int p0), .val (.int p1), .val (.int p2), .val (.int p3), .val (.int p4), .val (.int (if ¬ ((p2 &&& (1 : Int32)) = (0 : Int32)) then (1 : Int32) else (0 : Int32))), .val (.int (if ¬ ((p2 &&& (2 : Int32)) = (0 : Int32)) then (1 : Int32) else (0 : Int32))), .val (.int (if ¬ ((p2 &&& (4 : Int32)) = (0 : Int32)) then (1 : Int32) else (0 : Int32))), .val (.ref b47), .val (.double (FP.i2d (p4 &&& (65535 : Int32)))), .second, .unset, .unset, .unset] [(.int (if ¬ ((p2 &&& (2 : Int32)) = (0 : Int32)) then (1 : Int32) else (0 : Int32))), (.double (FP.i2d (p4 &&& (65535 : Int32)))), (.int p1), (.int p0), (.int p3), (.ref b63), (.ref b63)])) t
      refine XS.iload P61.here P61.x rfl (hb hby at_81) rfl ?_
      show Steps p.tables e below (T60.setTop (mkF m 83 #[.val (.int p0), .val (.int p1), .val (.int p2), .val (.int p3), .val (.int p4), .val (.int (if ¬ ((p2 &&& (1 : Int32)) = (0 : Int32)) then (1 : Int32) else (0 : Int32))), .val (.int (if ¬ ((p2 &&& (2 : Int32)) = (0 : Int32)) then (1 : Int32) else (0 : Int32))), .val (.int (if ¬ ((p2 &&& (4 : Int32)) = (0 : Int32)) then (1 : Int32) else (0 : Int32))), .val (.ref b47), .val (.double (FP.i2d (p4 &&& (65535 : Int32)))), .second, .unset, .unset, .unset] [(.int (if ¬ ((p2 &&& (1 : Int32)) = (0 : Int32)) then (1 : Int32) else (0 : Int32))), (.int (if ¬ ((p2 &&& (2 : Int32)) = (0 : Int32)) then (1 : Int32) else (0 : Int32))), (.double (FP.i2d (p4 &&& (65535 : Int32)))), (.int p1), (.int p0), (.int p3), (.ref b63), (.ref b63)])) t
      refine XS.aload P61.here P61.x rfl (hb hby at_83) rfl rfl ?_
      exact kk
    show Done _ _ _ _ _ _ _ _ _ _ _ _ _ _ _ T60 (mkF m 85 #[.val (.int p0), .val (.int p1), .val (.int p2), .val (.int p3), .val (.int p4), .val (.int (if ¬ ((p2 &&& (1 : Int32)) = (0 : Int32)) then (1 : Int32) else (0 : Int32))), .val (.int (if ¬ ((p2 &&& (2 : Int32)) = (0 : Int32)) then (1 : Int32) else (0 : Int32))), .val (.int (if ¬ ((p2 &&& (4 : Int32)) = (0 : Int32)) then (1 : Int32) else (0 : Int32))), .val (.ref b47), .val (.double (FP.i2d (p4 &&& (65535 : Int32)))), .second, .unset, .unset, .unset] [(.ref b47), (.int (if ¬ ((p2 &&& (1 : Int32)) = (0 : Int32)) then (1 : Int32) else (0 : Int32))), (.int (if ¬ ((p2 &&& (2 : Int32)) = (0 : Int32)) then (1 : Int32) else (0 : Int32))), (.double (FP.i2d (p4 &&& (65535 : Int32)))), (.int p1), (.int p0), (.int p3), (.ref b63), (.ref b63)])
    refine wCallI P61 (m_initR l Z a0 hw hs b63 p3 p0 p1 (FP.i2d (p4 &&& (65535 : Int32))) (if ¬ ((p2 &&& (2 : Int32)) = (0 : Int32)) then (1 : Int32) else (0 : Int32)) (if ¬ ((p2 &&& (1 : Int32)) = (0 : Int32)) then (1 : Int32) else (0 : Int32)) b47 h62 X67 (b01or _) (b01or _) F69 F70 F71 F72 F73 F74 F75) rfl (tw4 hw) (tw5 hw) (tw3 hw) (tw6 hw) (by decide) (a := b63) (by rw [hml]; rfl) (lenOf pd_3 rfl) (argsL := [(.int p3), (.int p0), (.int p1), (.double (FP.i2d (p4 &&& (65535 : Int32)))), (.int (if ¬ ((p2 &&& (2 : Int32)) = (0 : Int32)) then (1 : Int32) else (0 : Int32))), (.int (if ¬ ((p2 &&& (1 : Int32)) = (0 : Int32)) then (1 : Int32) else (0 : Int32))), (.ref b47)]) (rest := [(.ref b63)]) rfl rfl (W := 1) (Nat.le_of_eq rfl) (by decide) (by decide) (by decide) (by decide) (allS (Or.inr ge_b63) all0) (hb hby at_85) rfl (k' := 3) (n' := 12) rfl rfl ?_
    rintro T76 h85 _ P77 K86 ⟨rfl, F78, F79, F80, F81, F82, F83, F84⟩
    have szh85 : h62.size ≤ h85.size := K86.1
    show Done _ _ _ _ _ _ _ _ _ _ _ _ _ _ _ T76 (mkF m 88 #[.val (.int p0), .val (.int p1), .val (.int p2), .val (.int p3), .val (.int p4), .val (.int (if ¬ ((p2 &&& (1 : Int32)) = (0 : Int32)) then (1 : Int32) else (0 : Int32))), .val (.int (if ¬ ((p2 &&& (2 : Int32)) = (0 : Int32)) then (1 : Int32) else (0 : Int32))), .val (.int (if ¬ ((p2 &&& (4 : Int32)) = (0 : Int32)) then (1 : Int32) else (0 : Int32))), .val (.ref b47), .val (.double (FP.i2d (p4 &&& (65535 : Int32)))), .second, .unset, .unset, .unset] [(.ref b63)])
    refine Done.step (T' := T76) (g' := (mkF m 139 #[.val (.int p0), .val (.int p1), .val (.int p2), .val (.int p3), .val (.int p4), .val (.int (if ¬ ((p2 &&& (1 : Int32)) = (0 : Int32)) then (1 : Int32) else (0 : Int32))), .val (.int (if ¬ ((p2 &&& (2 : Int32)) = (0 : Int32)) then (1 : Int32) else (0 : Int32))), .val (.int (if ¬ ((p2 &&& (4 : Int32)) = (0 : Int32)) then (1 : Int32) else (0 : Int32))), .val (.ref b47), .val (.double (FP.i2d (p4 &&& (65535 : Int32)))), .second, .val (.ref b63), .val (.int (if ¬ ((p2 &&& (4 : Int32)) = (0 : Int32)) then p1 else p0)), .val (.int (if (p2 &&& (1 : Int32)) = (0 : Int32) then (1 : Int32) else (if (p2 &&& (4 : Int32)) = (0 : Int32) then (1 : Int32) else (if p0 = p1 then (1 : Int32) else (0 : Int32)))))] [(.int (if ¬ ((p2 &&& (4 : Int32)) = (0 : Int32)) then p1 else p0)), (.ref b63)])) (fun t kk => ?_) ?_
    · show Steps p.tables e below (T76.setTop (mkF m 88 #[.val (.int p0), .val (.int p1), .val (.int p2), .val (.int p3), .val (.int p4), .val (.int (if ¬ ((p2 &&& (1 : Int32)) = (0 : Int32)) then (1 : Int32) else (0 : Int32))), .val (.int (if ¬ ((p2 &&& (2 : Int32)) = (0 : Int32)) then (1 : Int32) else (0 : Int32))), .val (.int (if ¬ ((p2 &&& (4 : Int32)) = (0 : Int32)) then (1 : Int32) else (0 : Int32))), .val (.ref b47), .val (.double (FP.i2d (p4 &&& (65535 : Int32)))), .second, .unset, .unset, .unset] [(.ref b63)])) t
      refine XS.astore P77.here P77.x rfl (hb hby at_88) rfl rfl (l' := #[.val (.int p0), .val (.int p1), .val (.int p2), .val (.int p3), .val (.int p4), .val (.int (if ¬ ((p2 &&& (1 : Int32)) = (0 : Int32)) then (1 : Int32) else (0 : Int32))), .val (.int (if ¬ ((p2 &&& (2 : Int32)) = (0 : Int32)) then (1 : Int32) else (0 : Int32))), .val (.int (if ¬ ((p2 &&& (4 : Int32)) = (0 : Int32)) then (1 : Int32) else (0 : Int32))), .val (.ref b47), .val (.double (FP.i2d (p4 &&& (65535 : Int32)))), .second, .val (.ref b63), .unset, .unset]) rfl ?_
      show Steps p.tables e below (T76.setTop (mkF m 90 #[.val (.int p0), .val (.int p1), .val (.int p2), .val (.int p3), .val (.int p4), .val (.int (if ¬ ((p2 &&& (1 : Int32)) = (0 : Int32)) then (1 : Int32) else (0 : Int32))), .val (.int (if ¬ ((p2 &&& (2 : Int32)) = (0 : Int32)) then (1 : Int32) else (0 : Int32))), .val (.int (if ¬ ((p2 &&& (4 : Int32)) = (0 : Int32)) then (1 : Int32) else (0 : Int32))), .val (.ref b47), .val (.double (FP.i2d (p4 &&& (65535 : Int32)))), .second, .val (.ref b63), .unset, .unset] [])) t
      refine XS.iloadN P77.here P77.x rfl (hb hby at_90) rfl ?_
      show Steps p.tables e below (T76.setTop (mkF m 91 #[.val (.int p0), .val (.int p1), .val (.int p2), .val (.int p3), .val (.int p4), .val (.int (if ¬ ((p2 &&& (1 : Int32)) = (0 : Int32)) then (1 : Int32) else (0 : Int32))), .val (.int (if ¬ ((p2 &&& (2 : Int32)) = (0 : Int32)) then (1 : Int32) else (0 : Int32))), .val (.int (if ¬ ((p2 &&& (4 : Int32)) = (0 : Int32)) then (1 : Int32) else (0 : Int32))), .val (.ref b47), .val (.double (FP.i2d (p4 &&& (65535 : Int32)))), .second, .val (.ref b63), .unset, .unset] [(.int p0)])) t
      refine XS.istore P77.here P77.x rfl (hb hby at_91) rfl (l' := #[.val (.int p0), .val (.int p1), .val (.int p2), .val (.int p3), .val (.int p4), .val (.int (if ¬ ((p2 &&& (1 : Int32)) = (0 : Int32)) then (1 : Int32) else (0 : Int32))), .val (.int (if ¬ ((p2 &&& (2 : Int32)) = (0 : Int32)) then (1 : Int32) else (0 : Int32))), .val (.int (if ¬ ((p2 &&& (4 : Int32)) = (0 : Int32)) then (1 : Int32) else (0 : Int32))), .val (.ref b47), .val (.double (FP.i2d (p4 &&& (65535 : Int32)))), .second, .val (.ref b63), .val (.int p0), .unset]) rfl ?_
      show Steps p.tables e below (T76.setTop (mkF m 93 #[.val (.int p0), .val (.int p1), .val (.int p2), .val (.int p3), .val (.int p4), .val (.int (if ¬ ((p2 &&& (1 : Int32)) = (0 : Int32)) then (1 : Int32) else (0 : Int32))), .val (.int (if ¬ ((p2 &&& (2 : Int32)) = (0 : Int32)) then (1 : Int32) else (0 : Int32))), .val (.int (if ¬ ((p2 &&& (4 : Int32)) = (0 : Int32)) then (1 : Int32) else (0 : Int32))), .val (.ref b47), .val (.double (FP.i2d (p4 &&& (65535 : Int32)))), .second, .val (.ref b63), .val (.int p0), .unset] [])) t
      refine XS.iload P77.here P77.x rfl (hb hby at_93) rfl ?_
      show Steps p.tables e below (T76.setTop (mkF m 95 #[.val (.int p0), .val (.int p1), .val (.int p2), .val (.int p3), .val (.int p4), .val (.int (if ¬ ((p2 &&& (1 : Int32)) = (0 : Int32)) then (1 : Int32) else (0 : Int32))), .val (.int (if ¬ ((p2 &&& (2 : Int32)) = (0 : Int32)) then (1 : Int32) else (0 : Int32))), .val (.int (if ¬ ((p2 &&& (4 : Int32)) = (0 : Int32)) then (1 : Int32) else (0 : Int32))), .val (.ref b47), .val (.double (FP.i2d (p4 &&& (65535 : Int32)))), .second, .val (.ref b63), .val (.int p0), .unset] [(.int (if ¬ ((p2 &&& (4 : Int32)) = (0 : Int32)) then (1 : Int32) else (0 : Int32)))])) t
      suffices kk88 : Steps p.tables e below (T76.setTop (mkF m 101 #[.val (.int p0), .val (.int p1), .val (.int p2), .val (.int p3), .val (.int p4), .val (.int (if ¬ ((p2 &&& (1 : Int32)) = (0 : Int32)) then (1 : Int32) else (0 : Int32))), .val (.int (if ¬ ((p2 &&& (2 : Int32)) = (0 : Int32)) then (1 : Int32) else (0 : Int32))), .val (.int (if ¬ ((p2 &&& (4 : Int32)) = (0 : Int32)) then (1 : Int32) else (0 : Int32))), .val (.ref b47), .val (.double (FP.i2d (p4 &&& (65535 : Int32)))), .second, .val (.ref b63), .val (.int (if ¬ ((p2 &&& (4 : Int32)) = (0 : Int32)) then p1 else p0)), .unset] [])) t by
        by_cases hc87 : ¬ ((p2 &&& (4 : Int32)) = (0 : Int32))
        · rw [show (if ¬ ((p2 &&& (4 : Int32)) = (0 : Int32)) then p1 else p0) = p1 from if_pos hc87] at kk88
          show Steps p.tables e below (T76.setTop (mkF m 95 #[.val (.int p0), .val (.int p1), .val (.int p2), .val (.int p3), .val (.int p4), .val (.int (if ¬ ((p2 &&& (1 : Int32)) = (0 : Int32)) then (1 : Int32) else (0 : Int32))), .val (.int (if ¬ ((p2 &&& (2 : Int32)) = (0 : Int32)) then (1 : Int32) else (0 : Int32))), .val (.int (if ¬ ((p2 &&& (4 : Int32)) = (0 : Int32)) then (1 : Int32) else (0 : Int32))), .val (.ref b47), .val (.double (FP.i2d (p4 &&& (65535 : Int32)))), .second, .val (.ref b63), .val (.int p0), .unset] [(.int (if ¬ ((p2 &&& (4 : Int32)) = (0 : Int32)) then (1 : Int32) else (0 : Int32)))])) t
          refine XS.ifNo P77.here P77.x rfl (hb hby at_95) rfl (b01_eq_f (not_not_intro hc87)) ?_
          show Steps p.tables e below (T76.setTop (mkF m 98 #[.val (.int p0), .val (.int p1), .val (.int p2), .val (.int p3), .val (.int p4), .val (.int (if ¬ ((p2 &&& (1 : Int32)) = (0 : Int32)) then (1 : Int32) else (0 : Int32))), .val (.int (if ¬ ((p2 &&& (2 : Int32)) = (0 : Int32)) then (1 : Int32) else (0 : Int32))), .val (.int (if ¬ ((p2 &&& (4 : Int32)) = (0 : Int32)) then (1 : Int32) else (0 : Int32))), .val (.ref b47), .val (.double (FP.i2d (p4 &&& (65535 : Int32)))), .second, .val (.ref b63), .val (.int p0), .unset] [])) t
          refine XS.iloadN P77.here P77.x rfl (hb hby at_98) rfl ?_
          show Steps p.tables e below (T76.setTop (mkF m 99 #[.val (.int p0), .val (.int p1), .val (.int p2), .val (.int p3), .val (.int p4), .val (.int (if ¬ ((p2 &&& (1 : Int32)) = (0 : Int32)) then (1 : Int32) else (0 : Int32))), .val (.int (if ¬ ((p2 &&& (2 : Int32)) = (0 : Int32)) then (1 : Int32) else (0 : Int32))), .val (.int (if ¬ ((p2 &&& (4 : Int32)) = (0 : Int32)) then (1 : Int32) else (0 : Int32))), .val (.ref b47), .val (.double (FP.i2d (p4 &&& (65535 : Int32)))), .second, .val (.ref b63), .val (.int p0), .unset] [(.int p1)])) t
          refine XS.istore P77.here P77.x rfl (hb hby at_99) rfl (l' := #[.val (.int p0), .val (.int p1), .val (.int p2), .val (.int p3), .val (.int p4), .val (.int (if ¬ ((p2 &&& (1 : Int32)) = (0 : Int32)) then (1 : Int32) else (0 : Int32))), .val (.int (if ¬ ((p2 &&& (2 : Int32)) = (0 : Int32)) then (1 : Int32) else (0 : Int32))), .val (.int (if ¬ ((p2 &&& (4 : Int32)) = (0 : Int32)) then (1 : Int32) else (0 : Int32))), .val (.ref b47), .val (.double (FP.i2d (p4 &&& (65535 : Int32)))), .second, .val (.ref b63), .val (.int p1), .unset]) rfl ?_
          exact kk88
        · rw [show (if ¬ ((p2 &&& (4 : Int32)) = (0 : Int32)) then p1 else p0) = p0 from if_neg hc87] at kk88
          show Steps p.tables e below (T76.setTop (mkF m 95 #[.val (.int p0), .val (.int p1), .val (.int p2), .val (.int p3), .val (.int p4), .val (.int (if ¬ ((p2 &&& (1 : Int32)) = (0 : Int32)) then (1 : Int32) else (0 : Int32))), .val (.int (if ¬ ((p2 &&& (2 : Int32)) = (0 : Int32)) then (1 : Int32) else (0 : Int32))), .val (.int (if ¬ ((p2 &&& (4 : Int32)) = (0 : Int32)) then (1 : Int32) else (0 : Int32))), .val (.ref b47), .val (.double (FP.i2d (p4 &&& (65535 : Int32)))), .second, .val (.ref b63), .val (.int p0), .unset] [(.int (if ¬ ((p2 &&& (4 : Int32)) = (0 : Int32)) then (1 : Int32) else (0 : Int32)))])) t
          refine XS.ifYes P77.here P77.x rfl (pc0 := 95) (pc' := 101) rfl (hb hby at_95) rfl (b01_eq_t hc87) (by decide) (by decide) ?_
          exact kk88
      show Steps p.tables e below (T76.setTop (mkF m 101 #[.val (.int p0), .val (.int p1), .val (.int p2), .val (.int p3), .val (.int p4), .val (.int (if ¬ ((p2 &&& (1 : Int32)) = (0 : Int32)) then (1 : Int32) else (0 : Int32))), .val (.int (if ¬ ((p2 &&& (2 : Int32)) = (0 : Int32)) then (1 : Int32) else (0 : Int32))), .val (.int (if ¬ ((p2 &&& (4 : Int32)) = (0 : Int32)) then (1 : Int32) else (0 : Int32))), .val (.ref b47), .val (.double (FP.i2d (p4 &&& (65535 : Int32)))), .second, .val (.ref b63), .val (.int (if ¬ ((p2 &&& (4 : Int32)) = (0 : Int32)) then p1 else p0)), .unset] [])) t
      refine XS.iload P77.here P77.x rfl (hb hby at_101) rfl ?_
      show Steps p.tables e below (T76.setTop (mkF m 103 #[.val (.int p0), .val (.int p1), .val (.int p2), .val (.int p3), .val (.int p4), .val (.int (if ¬ ((p2 &&& (1 : Int32)) = (0 : Int32)) then (1 : Int32) else (0 : Int32))), .val (.int (if ¬ ((p2 &&& (2 : Int32)) = (0 : Int32)) then (1 : Int32) else (0 : Int32))), .val (.int (if ¬ ((p2 &&& (4 : Int32)) = (0 : Int32)) then (1 : Int32) else (0 : Int32))), .val (.ref b47), .val (.double (FP.i2d (p4 &&& (65535 : Int32)))), .second, .val (.ref b63), .val (.int (if ¬ ((p2 &&& (4 : Int32)) = (0 : Int32)) then p1 else p0)), .unset] [(.int (if ¬ ((p2 &&& (1 : Int32)) = (0 : Int32)) then (1 : Int32) else (0 : Int32)))])) t
      suffices kk94 : Steps p.tables e below (T76.setTop (mkF m 135 #[.val (.int p0), .val (.int p1), .val (.int p2), .val (.int p3), .val (.int p4), .val (.int (if ¬ ((p2 &&& (1 : Int32)) = (0 : Int32)) then (1 : Int32) else (0 : Int32))), .val (.int (if ¬ ((p2 &&& (2 : Int32)) = (0 : Int32)) then (1 : Int32) else (0 : Int32))), .val (.int (if ¬ ((p2 &&& (4 : Int32)) = (0 : Int32)) then (1 : Int32) else (0 : Int32))), .val (.ref b47), .val (.double (FP.i2d (p4 &&& (65535 : Int32)))), .second, .val (.ref b63), .val (.int (if ¬ ((p2 &&& (4 : Int32)) = (0 : Int32)) then p1 else p0)), .val (.int (if (p2 &&& (1 : Int32)) = (0 : Int32) then (1 : Int32) else (if (p2 &&& (4 : Int32)) = (0 : Int32) then (1 : Int32) else (if p0 = p1 then (1 : Int32) else (0 : Int32)))))] [])) t by
        by_cases hc89 : (p2 &&& (1 : Int32)) = (0 : Int32)
        · rw [show (if (p2 &&& (1 : Int32)) = (0 : Int32) then (1 : Int32) else (if (p2 &&& (4 : Int32)) = (0 : Int32) then (1 : Int32) else (if p0 = p1 then (1 : Int32) else (0 : Int32)))) = (1 : Int32) from if_pos hc89] at kk94
          show Steps p.tables e below (T76.setTop (mkF m 103 #[.val (.int p0), .val (.int p1), .val (.int p2), .val (.int p3), .val (.int p4), .val (.int (if ¬ ((p2 &&& (1 : Int32)) = (0 : Int32)) then (1 : Int32) else (0 : Int32))), .val (.int (if ¬ ((p2 &&& (2 : Int32)) = (0 : Int32)) then (1 : Int32) else (0 : Int32))), .val (.int (if ¬ ((p2 &&& (4 : Int32)) = (0 : Int32)) then (1 : Int32) else (0 : Int32))), .val (.ref b47), .val (.double (FP.i2d (p4 &&& (65535 : Int32)))), .second, .val (.ref b63), .val (.int (if ¬ ((p2 &&& (4 : Int32)) = (0 : Int32)) then p1 else p0)), .unset] [(.int (if ¬ ((p2 &&& (1 : Int32)) = (0 : Int32)) then (1 : Int32) else (0 : Int32)))])) t
          refine XS.ifNo P77.here P77.x rfl (hb hby at_103) rfl (b01_ne_f (not_not_intro hc89)) ?_
          show Steps p.tables e below (T76.setTop (mkF m 106 #[.val (.int p0), .val (.int p1), .val (.int p2), .val (.int p3), .val (.int p4), .val (.int (if ¬ ((p2 &&& (1 : Int32)) = (0 : Int32)) then (1 : Int32) else (0 : Int32))), .val (.int (if ¬ ((p2 &&& (2 : Int32)) = (0 : Int32)) then (1 : Int32) else (0 : Int32))), .val (.int (if ¬ ((p2 &&& (4 : Int32)) = (0 : Int32)) then (1 : Int32) else (0 : Int32))), .val (.ref b47), .val (.double (FP.i2d (p4 &&& (65535 : Int32)))), .second, .val (.ref b63), .val (.int (if ¬ ((p2 &&& (4 : Int32)) = (0 : Int32)) then p1 else p0)), .unset] [])) t
          refine XS.iconst P77.here P77.x rfl (hb hby at_106) ?_
          show Steps p.tables e below (T76.setTop (mkF m 107 #[.val (.int p0), .val (.int p1), .val (.int p2), .val (.int p3), .val (.int p4), .val (.int (if ¬ ((p2 &&& (1 : Int32)) = (0 : Int32)) then (1 : Int32) else (0 : Int32))), .val (.int (if ¬ ((p2 &&& (2 : Int32)) = (0 : Int32)) then (1 : Int32) else (0 : Int32))), .val (.int (if ¬ ((p2 &&& (4 : Int32)) = (0 : Int32)) then (1 : Int32) else (0 : Int32))), .val (.ref b47), .val (.double (FP.i2d (p4 &&& (65535 : Int32)))), .second, .val (.ref b63), .val (.int (if ¬ ((p2 &&& (4 : Int32)) = (0 : Int32)) then p1 else p0)), .unset] [(.int (1 : Int32))])) t
          refine XS.istore P77.here P77.x rfl (hb hby at_107) rfl (l' := #[.val (.int p0), .val (.int p1), .val (.int p2), .val (.int p3), .val (.int p4), .val (.int (if ¬ ((p2 &&& (1 : Int32)) = (0 : Int32)) then (1 : Int32) else (0 : Int32))), .val (.int (if ¬ ((p2 &&& (2 : Int32)) = (0 : Int32)) then (1 : Int32) else (0 : Int32))), .val (.int (if ¬ ((p2 &&& (4 : Int32)) = (0 : Int32)) then (1 : Int32) else (0 : Int32))), .val (.ref b47), .val (.double (FP.i2d (p4 &&& (65535 : Int32)))), .second, .val (.ref b63), .val (.int (if ¬ ((p2 &&& (4 : Int32)) = (0 : Int32)) then p1 else p0)), .val (.int (1 : Int32))]) rfl ?_
          show Steps p.tables e below (T76.setTop (mkF m 109 #[.val (.int p0), .val (.int p1), .val (.int p2), .val (.int p3), .val (.int p4), .val (.int (if ¬ ((p2 &&& (1 : Int32)) = (0 : Int32)) then (1 : Int32) else (0 : Int32))), .val (.int (if ¬ ((p2 &&& (2 : Int32)) = (0 : Int32)) then (1 : Int32) else (0 : Int32))), .val (.int (if ¬ ((p2 &&& (4 : Int32)) = (0 : Int32)) then (1 : Int32) else (0 : Int32))), .val (.ref b47), .val (.double (FP.i2d (p4 &&& (65535 : Int32)))), .second, .val (.ref b63), .val (.int (if ¬ ((p2 &&& (4 : Int32)) = (0 : Int32)) then p1 else p0)), .val (.int (1 : Int32))] [])) t
          refine XS.goto P77.here P77.x rfl (pc0 := 109) (pc' := 135) rfl (hb hby at_109) (by decide) (by decide) ?_
          exact kk94
        · rw [show (if (p2 &&& (1 : Int32)) = (0 : Int32) then (1 : Int32) else (if (p2 &&& (4 : Int32)) = (0 : Int32) then (1 : Int32) else (if p0 = p1 then (1 : Int32) else (0 : Int32)))) = (if (p2 &&& (4 : Int32)) = (0 : Int32) then (1 : Int32) else (if p0 = p1 then (1 : Int32) else (0 : Int32))) from if_neg hc89] at kk94
          show Steps p.tables e below (T76.setTop (mkF m 103 #[.val (.int p0), .val (.int p1), .val (.int p2), .val (.int p3), .val (.int p4), .val (.int (if ¬ ((p2 &&& (1 : Int32)) = (0 : Int32)) then (1 : Int32) else (0 : Int32))), .val (.int (if ¬ ((p2 &&& (2 : Int32)) = (0 : Int32)) then (1 : Int32) else (0 : Int32))), .val (.int (if ¬ ((p2 &&& (4 : Int32)) = (0 : Int32)) then (1 : Int32) else (0 : Int32))), .val (.ref b47), .val (.double (FP.i2d (p4 &&& (65535 : Int32)))), .second, .val (.ref b63), .val (.int (if ¬ ((p2 &&& (4 : Int32)) = (0 : Int32)) then p1 else p0)), .unset] [(.int (if ¬ ((p2 &&& (1 : Int32)) = (0 : Int32)) then (1 : Int32) else (0 : Int32)))])) t
          refine XS.ifYes P77.here P77.x rfl (pc0 := 103) (pc' := 112) rfl (hb hby at_103) rfl (b01_ne_t hc89) (by decide) (by decide) ?_
          show Steps p.tables e below (T76.setTop (mkF m 112 #[.val (.int p0), .val (.int p1), .val (.int p2), .val (.int p3), .val (.int p4), .val (.int (if ¬ ((p2 &&& (1 : Int32)) = (0 : Int32)) then (1 : Int32) else (0 : Int32))), .val (.int (if ¬ ((p2 &&& (2 : Int32)) = (0 : Int32)) then (1 : Int32) else (0 : Int32))), .val (.int (if ¬ ((p2 &&& (4 : Int32)) = (0 : Int32)) then (1 : Int32) else (0 : Int32))), .val (.ref b47), .val (.double (FP.i2d (p4 &&& (65535 : Int32)))), .second, .val (.ref b63), .val (.int (if ¬ ((p2 &&& (4 : Int32)) = (0 : Int32)) then p1 else p0)), .unset] [])) t
          refine XS.iload P77.here P77.x rfl (hb hby at_112) rfl ?_
          show Steps p.tables e below (T76.setTop (mkF m 114 #[.val (.int p0), .val (.int p1), .val (.int p2), .val (.int p3), .val (.int p4), .val (.int (if ¬ ((p2 &&& (1 : Int32)) = (0 : Int32)) then (1 : Int32) else (0 : Int32))), .val (.int (if ¬ ((p2 &&& (2 : Int32)) = (0 : Int32)) then (1 : Int32) else (0 : Int32))), .val (.int (if ¬ ((p2 &&& (4 : Int32)) = (0 : Int32)) then (1 : Int32) else (0 : Int32))), .val (.ref b47), .val (.double (FP.i2d (p4 &&& (65535 : Int32)))), .second, .val (.ref b63), .val (.int (if ¬ ((p2 &&& (4 : Int32)) = (0 : Int32)) then p1 else p0)), .unset] [(.int (if ¬ ((p2 &&& (4 : Int32)) = (0 : Int32)) then (1 : Int32) else (0 : Int32)))])) t
          suffices kk93 : Steps p.tables e below (T76.setTop (mkF m 135 #[.val (.int p0), .val (.int p1), .val (.int p2), .val (.int p3), .val (.int p4), .val (.int (if ¬ ((p2 &&& (1 : Int32)) = (0 : Int32)) then (1 : Int32) else (0 : Int32))), .val (.int (if ¬ ((p2 &&& (2 : Int32)) = (0 : Int32)) then (1 : Int32) else (0 : Int32))), .val (.int (if ¬ ((p2 &&& (4 : Int32)) = (0 : Int32)) then (1 : Int32) else (0 : Int32))), .val (.ref b47), .val (.double (FP.i2d (p4 &&& (65535 : Int32)))), .second, .val (.ref b63), .val (.int (if ¬ ((p2 &&& (4 : Int32)) = (0 : Int32)) then p1 else p0)), .val (.int (if (p2 &&& (4 : Int32)) = (0 : Int32) then (1 : Int32) else (if p0 = p1 then (1 : Int32) else (0 : Int32))))] [])) t by
            by_cases hc90 : (p2 &&& (4 : Int32)) = (0 : Int32)
            · rw [show (if (p2 &&& (4 : Int32)) = (0 : Int32) then (1 : Int32) else (if p0 = p1 then (1 : Int32) else (0 : Int32))) = (1 : Int32) from if_pos hc90] at kk93
              show Steps p.tables e below (T76.setTop (mkF m 114 #[.val (.int p0), .val (.int p1), .val (.int p2), .val (.int p3), .val (.int p4), .val (.int (if ¬ ((p2 &&& (1 : Int32)) = (0 : Int32)) then (1 : Int32) else (0 : Int32))), .val (.int (if ¬ ((p2 &&& (2 : Int32)) = (0 : Int32)) then (1 : Int32) else (0 : Int32))), .val (.int (if ¬ ((p2 &&& (4 : Int32)) = (0 : Int32)) then (1 : Int32) else (0 : Int32))), .val (.ref b47), .val (.double (FP.i2d (p4 &&& (65535 : Int32)))), .second, .val (.ref b63), .val (.int (if ¬ ((p2 &&& (4 : Int32)) = (0 : Int32)) then p1 else p0)), .unset] [(.int (if ¬ ((p2 &&& (4 : Int32)) = (0 : Int32)) then (1 : Int32) else (0 : Int32)))])) t
              refine XS.ifNo P77.here P77.x rfl (hb hby at_114) rfl (b01_ne_f (not_not_intro hc90)) ?_
              show Steps p.tables e below (T76.setTop (mkF m 117 #[.val (.int p0), .val (.int p1), .val (.int p2), .val (.int p3), .val (.int p4), .val (.int (if ¬ ((p2 &&& (1 : Int32)) = (0 : Int32)) then (1 : Int32) else (0 : Int32))), .val (.int (if ¬ ((p2 &&& (2 : Int32)) = (0 : Int32)) then (1 : Int32) else (0 : Int32))), .val (.int (if ¬ ((p2 &&& (4 : Int32)) = (0 : Int32)) then (1 : Int32) else (0 : Int32))), .val (.ref b47), .val (.double (FP.i2d (p4 &&& (65535 : Int32)))), .second, .val (.ref b63), .val (.int (if ¬ ((p2 &&& (4 : Int32)) = (0 : Int32)) then p1 else p0)), .unset] [])) t
              refine XS.iconst P77.here P77.x rfl (hb hby at_117) ?_
              show Steps p.tables e below (T76.setTop (mkF m 118 #[.val (.int p0), .val (.int p1), .val (.int p2), .val (.int p3), .val (.int p4), .val (.int (if ¬ ((p2 &&& (1 : Int32)) = (0 : Int32)) then (1 : Int32) else (0 : Int32))), .val (.int (if ¬ ((p2 &&& (2 : Int32)) = (0 : Int32)) then (1 : Int32) else (0 : Int32))), .val (.int (if ¬ ((p2 &&& (4 : Int32)) = (0 : Int32)) then (1 : Int32) else (0 : Int32))), .val (.ref b47), .val (.double (FP.i2d (p4 &&& (65535 : Int32)))), .second, .val (.ref b63), .val (.int (if ¬ ((p2 &&& (4 : Int32)) = (0 : Int32)) then p1 else p0)), .unset] [(.int (1 : Int32))])) t
              refine XS.istore P77.here P77.x rfl (hb hby at_118) rfl (l' := #[.val (.int p0), .val (.int p1), .val (.int p2), .val (.int p3), .val (.int p4), .val (.int (if ¬ ((p2 &&& (1 : Int32)) = (0 : Int32)) then (1 : Int32) else (0 : Int32))), .val (.int (if ¬ ((p2 &&& (2 : Int32)) = (0 : Int32)) then (1 : Int32) else (0 : Int32))), .val (.int (if ¬ ((p2 &&& (4 : Int32)) = (0 : Int32)) then (1 : Int32) else (0 : Int32))), .val (.ref b47), .val (.double (FP.i2d (p4 &&& (65535 : Int32)))), .second, .val (.ref b63), .val (.int (if ¬ ((p2 &&& (4 : Int32)) = (0 : Int32)) then p1 else p0)), .val (.int (1 : Int32))]) rfl ?_
              show Steps p.tables e below (T76.setTop (mkF m 120 #[.val (.int p0), .val (.int p1), .val (.int p2), .val (.int p3), .val (.int p4), .val (.int (if ¬ ((p2 &&& (1 : Int32)) = (0 : Int32)) then (1 : Int32) else (0 : Int32))), .val (.int (if ¬ ((p2 &&& (2 : Int32)) = (0 : Int32)) then (1 : Int32) else (0 : Int32))), .val (.int (if ¬ ((p2 &&& (4 : Int32)) = (0 : Int32)) then (1 : Int32) else (0 : Int32))), .val (.ref b47), .val (.double (FP.i2d (p4 &&& (65535 : Int32)))), .second, .val (.ref b63), .val (.int (if ¬ ((p2 &&& (4 : Int32)) = (0 : Int32)) then p1 else p0)), .val (.int (1 : Int32))] [])) t
              refine XS.goto P77.here P77.x rfl (pc0 := 120) (pc' := 135) rfl (hb hby at_120) (by decide) (by decide) ?_
              exact kk93
            · rw [show (if (p2 &&& (4 : Int32)) = (0 : Int32) then (1 : Int32) else (if p0 = p1 then (1 : Int32) else (0 : Int32))) = (if p0 = p1 then (1 : Int32) else (0 : Int32)) from if_neg hc90] at kk93
              show Steps p.tables e below (T76.setTop (mkF m 114 #[.val (.int p0), .val (.int p1), .val (.int p2), .val (.int p3), .val (.int p4), .val (.int (if ¬ ((p2 &&& (1 : Int32)) = (0 : Int32)) then (1 : Int32) else (0 : Int32))), .val (.int (if ¬ ((p2 &&& (2 : Int32)) = (0 : Int32)) then (1 : Int32) else (0 : Int32))), .val (.int (if ¬ ((p2 &&& (4 : Int32)) = (0 : Int32)) then (1 : Int32) else (0 : Int32))), .val (.ref b47), .val (.double (FP.i2d (p4 &&& (65535 : Int32)))), .second, .val (.ref b63), .val (.int (if ¬ ((p2 &&& (4 : Int32)) = (0 : Int32)) then p1 else p0)), .unset] [(.int (if ¬ ((p2 &&& (4 : Int32)) = (0 : Int32)) then (1 : Int32) else (0 : Int32)))])) t
              refine XS.ifYes P77.here P77.x rfl (pc0 := 114) (pc' := 123) rfl (hb hby at_114) rfl (b01_ne_t hc90) (by decide) (by decide) ?_
              show Steps p.tables e below (T76.setTop (mkF m 123 #[.val (.int p0), .val (.int p1), .val (.int p2), .val (.int p3), .val (.int p4), .val (.int (if ¬ ((p2 &&& (1 : Int32)) = (0 : Int32)) then (1 : Int32) else (0 : Int32))), .val (.int (if ¬ ((p2 &&& (2 : Int32)) = (0 : Int32)) then (1 : Int32) else (0 : Int32))), .val (.int (if ¬ ((p2 &&& (4 : Int32)) = (0 : Int32)) then (1 : Int32) else (0 : Int32))), .val (.ref b47), .val (.double (FP.i2d (p4 &&& (65535 : Int32)))), .second, .val (.ref b63), .val (.int (if ¬ ((p2 &&& (4 : Int32)) = (0 : Int32)) then p1 else p0)), .unset] [])) t
              refine XS.iloadN P77.here P77.x rfl (hb hby at_123) rfl ?_
              show Steps p.tables e below (T76.setTop (mkF m 124 #[.val (.int p0), .val (.int p1), .val (.int p2), .val (.int p3), .val (.int p4), .val (.int (if ¬ ((p2 &&& (1 : Int32)) = (0 : Int32)) then (1 : Int32) else (0 : Int32))), .val (.int (if ¬ ((p2 &&& (2 : Int32)) = (0 : Int32)) then (1 : Int32) else (0 : Int32))), .val (.int (if ¬ ((p2 &&& (4 : Int32)) = (0 : Int32)) then (1 : Int32) else (0 : Int32))), .val (.ref b47), .val (.double (FP.i2d (p4 &&& (65535 : Int32)))), .second, .val (.ref b63), .val (.int (if ¬ ((p2 &&& (4 : Int32)) = (0 : Int32)) then p1 else p0)), .unset] [(.int p0)])) t
              refine XS.iloadN P77.here P77.x rfl (hb hby at_124) rfl ?_
              show Steps p.tables e below (T76.setTop (mkF m 125 #[.val (.int p0), .val (.int p1), .val (.int p2), .val (.int p3), .val (.int p4), .val (.int (if ¬ ((p2 &&& (1 : Int32)) = (0 : Int32)) then (1 : Int32) else (0 : Int32))), .val (.int (if ¬ ((p2 &&& (2 : Int32)) = (0 : Int32)) then (1 : Int32) else (0 : Int32))), .val (.int (if ¬ ((p2 &&& (4 : Int32)) = (0 : Int32)) then (1 : Int32) else (0 : Int32))), .val (.ref b47), .val (.double (FP.i2d (p4 &&& (65535 : Int32)))), .second, .val (.ref b63), .val (.int (if ¬ ((p2 &&& (4 : Int32)) = (0 : Int32)) then p1 else p0)), .unset] [(.int p1), (.int p0)])) t
              suffices kk92 : Steps p.tables e below (T76.setTop (mkF m 133 #[.val (.int p0), .val (.int p1), .val (.int p2), .val (.int p3), .val (.int p4), .val (.int (if ¬ ((p2 &&& (1 : Int32)) = (0 : Int32)) then (1 : Int32) else (0 : Int32))), .val (.int (if ¬ ((p2 &&& (2 : Int32)) = (0 : Int32)) then (1 : Int32) else (0 : Int32))), .val (.int (if ¬ ((p2 &&& (4 : Int32)) = (0 : Int32)) then (1 : Int32) else (0 : Int32))), .val (.ref b47), .val (.double (FP.i2d (p4 &&& (65535 : Int32)))), .second, .val (.ref b63), .val (.int (if ¬ ((p2 &&& (4 : Int32)) = (0 : Int32)) then p1 else p0)), .unset] [(.int (if p0 = p1 then (1 : Int32) else (0 : Int32)))])) t by
                by_cases hc91 : p0 = p1
                · rw [show (if p0 = p1 then (1 : Int32) else (0 : Int32)) = (1 : Int32) from if_pos hc91] at kk92
                  show Steps p.tables e below (T76.setTop (mkF m 125 #[.val (.int p0), .val (.int p1), .val (.int p2), .val (.int p3), .val (.int p4), .val (.int (if ¬ ((p2 &&& (1 : Int32)) = (0 : Int32)) then (1 : Int32) else (0 : Int32))), .val (.int (if ¬ ((p2 &&& (2 : Int32)) = (0 : Int32)) then (1 : Int32) else (0 : Int32))), .val (.int (if ¬ ((p2 &&& (4 : Int32)) = (0 : Int32)) then (1 : Int32) else (0 : Int32))), .val (.ref b47), .val (.double (FP.i2d (p4 &&& (65535 : Int32)))), .second, .val (.ref b63), .val (.int (if ¬ ((p2 &&& (4 : Int32)) = (0 : Int32)) then p1 else p0)), .unset] [(.int p1), (.int p0)])) t
                  refine XS.icmpNo P77.here P77.x rfl (hb hby at_125) rfl (iiW_ne_f (not_not_intro hc91)) ?_
                  show Steps p.tables e below (T76.setTop (mkF m 128 #[.val (.int p0), .val (.int p1), .val (.int p2), .val (.int p3), .val (.int p4), .val (.int (if ¬ ((p2 &&& (1 : Int32)) = (0 : Int32)) then (1 : Int32) else (0 : Int32))), .val (.int (if ¬ ((p2 &&& (2 : Int32)) = (0 : Int32)) then (1 : Int32) else (0 : Int32))), .val (.int (if ¬ ((p2 &&& (4 : Int32)) = (0 : Int32)) then (1 : Int32) else (0 : Int32))), .val (.ref b47), .val (.double (FP.i2d (p4 &&& (65535 : Int32)))), .second, .val (.ref b63), .val (.int (if ¬ ((p2 &&& (4 : Int32)) = (0 : Int32)) then p1 else p0)), .unset] [])) t
                  refine XS.iconst P77.here P77.x rfl (hb hby at_128) ?_
                  show Steps p.tables e below (T76.setTop (mkF m 129 #[.val (.int p0), .val (.int p1), .val (.int p2), .val (.int p3), .val (.int p4), .val (.int (if ¬ ((p2 &&& (1 : Int32)) = (0 : Int32)) then (1 : Int32) else (0 : Int32))), .val (.int (if ¬ ((p2 &&& (2 : Int32)) = (0 : Int32)) then (1 : Int32) else (0 : Int32))), .val (.int (if ¬ ((p2 &&& (4 : Int32)) = (0 : Int32)) then (1 : Int32) else (0 : Int32))), .val (.ref b47), .val (.double (FP.i2d (p4 &&& (65535 : Int32)))), .second, .val (.ref b63), .val (.int (if ¬ ((p2 &&& (4 : Int32)) = (0 : Int32)) then p1 else p0)), .unset] [(.int (1 : Int32))])) t
                  refine XS.goto P77.here P77.x rfl (pc0 := 129) (pc' := 133) rfl (hb hby at_129) (by decide) (by decide) ?_
                  exact kk92
                · rw [show (if p0 = p1 then (1 : Int32) else (0 : Int32)) = (0 : Int32) from if_neg hc91] at kk92
                  show Steps p.tables e below (T76.setTop (mkF m 125 #[.val (.int p0), .val (.int p1), .val (.int p2), .val (.int p3), .val (.int p4), .val (.int (if ¬ ((p2 &&& (1 : Int32)) = (0 : Int32)) then (1 : Int32) else (0 : Int32))), .val (.int (if ¬ ((p2 &&& (2 : Int32)) = (0 : Int32)) then (1 : Int32) else (0 : Int32))), .val (.int (if ¬ ((p2 &&& (4 : Int32)) = (0 : Int32)) then (1 : Int32) else (0 : Int32))), .val (.ref b47), .val (.double (FP.i2d (p4 &&& (65535 : Int32)))), .second, .val (.ref b63), .val (.int (if ¬ ((p2 &&& (4 : Int32)) = (0 : Int32)) then p1 else p0)), .unset] [(.int p1), (.int p0)])) t
                  refine XS.icmpYes P77.here P77.x rfl (pc0 := 125) (pc' := 132) rfl (hb hby at_125) rfl (iiW_ne_t hc91) (by decide) (by decide) ?_
                  show Steps p.tables e below (T76.setTop (mkF m 132 #[.val (.int p0), .val (.int p1), .val (.int p2), .val (.int p3), .val (.int p4), .val (.int (if ¬ ((p2 &&& (1 : Int32)) = (0 : Int32)) then (1 : Int32) else (0 : Int32))), .val (.int (if ¬ ((p2 &&& (2 : Int32)) = (0 : Int32)) then (1 : Int32) else (0 : Int32))), .val (.int (if ¬ ((p2 &&& (4 : Int32)) = (0 : Int32)) then (1 : Int32) else (0 : Int32))), .val (.ref b47), .val (.double (FP.i2d (p4 &&& (65535 : Int32)))), .second, .val (.ref b63), .val (.int (if ¬ ((p2 &&& (4 : Int32)) = (0 : Int32)) then p1 else p0)), .unset] [])) t
                  refine XS.iconst P77.here P77.x rfl (hb hby at_132) ?_
                  exact kk92
              show Steps p.tables e below (T76.setTop (mkF m 133 #[.val (.int p0), .val (.int p1), .val (.int p2), .val (.int p3), .val (.int p4), .val (.int (if ¬ ((p2 &&& (1 : Int32)) = (0 : Int32)) then (1 : Int32) else (0 : Int32))), .val (.int (if ¬ ((p2 &&& (2 : Int32)) = (0 : Int32)) then (1 : Int32) else (0 : Int32))), .val (.int (if ¬ ((p2 &&& (4 : Int32)) = (0 : Int32)) then (1 : Int32) else (0 : Int32))), .val (.ref b47), .val (.double (FP.i2d (p4 &&& (65535 : Int32)))), .second, .val (.ref b63), .val (.int (if ¬ ((p2 &&& (4 : Int32)) = (0 : Int32)) then p1 else p0)), .unset] [(.int (if p0 = p1 then (1 : Int32) else (0 : Int32)))])) t
              refine XS.istore P77.here P77.x rfl (hb hby at_133) rfl (l' := #[.val (.int p0), .val (.int p1), .val (.int p2), .val (.int p3), .val (.int p4), .val (.int (if ¬ ((p2 &&& (1 : Int32)) = (0 : Int32)) then (1 : Int32) else (0 : Int32))), .val (.int (if ¬ ((p2 &&& (2 : Int32)) = (0 : Int32)) then (1 : Int32) else (0 : Int32))), .val (.int (if ¬ ((p2 &&& (4 : Int32)) = (0 : Int32)) then (1 : Int32) else (0 : Int32))), .val (.ref b47), .val (.double (FP.i2d (p4 &&& (65535 : Int32)))), .second, .val (.ref b63), .val (.int (if ¬ ((p2 &&& (4 : Int32)) = (0 : Int32)) then p1 else p0)), .val (.int (if p0 = p1 then (1 : Int32) else (0 : Int32)))]) rfl ?_
              exact kk93
          exact kk94
      show Steps p.tables e below (T76.setTop (mkF m 135 #[.val (.int p0), .val (.int p1), .val (.int p2), .val (.int p3), .val (.int p4), .val (.int (if ¬ ((p2 &&& (1 : Int32)) = (0 : Int32)) then (1 : Int32) else (0 : Int32))), .val (.int (if ¬ ((p2 &&& (2 : Int32)) = (0 : Int32)) then (1 : Int32) else (0 : Int32))), .val (.int (if ¬ ((p2 &&& (4 : Int32)) = (0 : Int32)) then (1 : Int32) else (0 : Int32))), .val (.ref b47), .val (.double (FP.i2d (p4 &&& (65535 : Int32)))), .second, .val (.ref b63), .val (.int (if ¬ ((p2 &&& (4 : Int32)) = (0 : Int32)) then p1 else p0)), .val (.int (if (p2 &&& (1 : Int32)) = (0 : Int32) then (1 : Int32) else (if (p2 &&& (4 : Int32)) = (0 : Int32) then (1 : Int32) else (if p0 = p1 then (1 : Int32) else (0 : Int32)))))] [])) t
      refine XS.aload P77.here P77.x rfl (hb hby at_135) rfl rfl ?_
      show Steps p.tables e below (T76.setTop (mkF m 137 #[.val (.int p0), .val (.int p1), .val (.int p2), .val (.int p3), .val (.int p4), .val (.int (if ¬ ((p2 &&& (1 : Int32)) = (0 : Int32)) then (1 : Int32) else (0 : Int32))), .val (.int (if ¬ ((p2 &&& (2 : Int32)) = (0 : Int32)) then (1 : Int32) else (0 : Int32))), .val (.int (if ¬ ((p2 &&& (4 : Int32)) = (0 : Int32)) then (1 : Int32) else (0 : Int32))), .val (.ref b47), .val (.double (FP.i2d (p4 &&& (65535 : Int32)))), .second, .val (.ref b63), .val (.int (if ¬ ((p2 &&& (4 : Int32)) = (0 : Int32)) then p1 else p0)), .val (.int (if (p2 &&& (1 : Int32)) = (0 : Int32) then (1 : Int32) else (if (p2 &&& (4 : Int32)) = (0 : Int32) then (1 : Int32) else (if p0 = p1 then (1 : Int32) else (0 : Int32)))))] [(.ref b63)])) t
      refine XS.iload P77.here P77.x rfl (hb hby at_137) rfl ?_
      exact kk
    show Done _ _ _ _ _ _ _ _ _ _ _ _ _ _ _ T76 (mkF m 139 #[.val (.int p0), .val (.int p1), .val (.int p2), .val (.int p3), .val (.int p4), .val (.int (if ¬ ((p2 &&& (1 : Int32)) = (0 : Int32)) then (1 : Int32) else (0 : Int32))), .val (.int (if ¬ ((p2 &&& (2 : Int32)) = (0 : Int32)) then (1 : Int32) else (0 : Int32))), .val (.int (if ¬ ((p2 &&& (4 : Int32)) = (0 : Int32)) then (1 : Int32) else (0 : Int32))), .val (.ref b47), .val (.double (FP.i2d (p4 &&& (65535 : Int32)))), .second, .val (.ref b63), .val (.int (if ¬ ((p2 &&& (4 : Int32)) = (0 : Int32)) then p1 else p0)), .val (.int (if (p2 &&& (1 : Int32)) = (0 : Int32) then (1 : Int32) else (if (p2 &&& (4 : Int32)) = (0 : Int32) then (1 : Int32) else (if p0 = p1 then (1 : Int32) else (0 : Int32)))))] [(.int (if ¬ ((p2 &&& (4 : Int32)) = (0 : Int32)) then p1 else p0)), (.ref b63)])
    have f97 := (X67.keep K86)
    refine wCallV P77 (m_drivable l Z a0 hw hs b63 (if ¬ ((p2 &&& (4 : Int32)) = (0 : Int32)) then p1 else p0) (if ¬ ((p2 &&& (1 : Int32)) = (0 : Int32)) then (1 : Int32) else (0 : Int32)) p0 h85 F83 F79) (tw24 hw) (tw25 hw) (tw27 hw) (tw27 hw) (tw26 hw) (tw3 hw) (tw28 hw) (by decide) f97 (by rw [hml]; rfl) (lenOf pd_4 rfl) (argsL := [(.int (if ¬ ((p2 &&& (4 : Int32)) = (0 : Int32)) then p1 else p0))]) (rest := []) rfl rfl (W := 0) (Nat.le_of_eq rfl) (by decide) (by decide) (by decide) (by decide) (by simp) (hb hby at_139) rfl (k' := 3) (n' := 12) rfl rfl ?_
    rintro T95 _ _ P96 - ⟨rfl, rfl⟩
    show Done _ _ _ _ _ _ _ _ _ _ _ _ _ _ _ T95 (mkF m 142 #[.val (.int p0), .val (.int p1), .val (.int p2), .val (.int p3), .val (.int p4), .val (.int (if ¬ ((p2 &&& (1 : Int32)) = (0 : Int32)) then (1 : Int32) else (0 : Int32))), .val (.int (if ¬ ((p2 &&& (2 : Int32)) = (0 : Int32)) then (1 : Int32) else (0 : Int32))), .val (.int (if ¬ ((p2 &&& (4 : Int32)) = (0 : Int32)) then (1 : Int32) else (0 : Int32))), .val (.ref b47), .val (.double (FP.i2d (p4 &&& (65535 : Int32)))), .second, .val (.ref b63), .val (.int (if ¬ ((p2 &&& (4 : Int32)) = (0 : Int32)) then p1 else p0)), .val (.int (if (p2 &&& (1 : Int32)) = (0 : Int32) then (1 : Int32) else (if (p2 &&& (4 : Int32)) = (0 : Int32) then (1 : Int32) else (if p0 = p1 then (1 : Int32) else (0 : Int32)))))] [(.int (if (if ¬ ((p2 &&& (1 : Int32)) = (0 : Int32)) then (1 : Int32) else (0 : Int32)) = (0 : Int32) ∨ (if ¬ ((p2 &&& (4 : Int32)) = (0 : Int32)) then p1 else p0) = p0 then (1 : Int32) else (0 : Int32)))])
    refine Done.step (T' := T95) (g' := (mkF m 152 #[.val (.int p0), .val (.int p1), .val (.int p2), .val (.int p3), .val (.int p4), .val (.int (if ¬ ((p2 &&& (1 : Int32)) = (0 : Int32)) then (1 : Int32) else (0 : Int32))), .val (.int (if ¬ ((p2 &&& (2 : Int32)) = (0 : Int32)) then (1 : Int32) else (0 : Int32))), .val (.int (if ¬ ((p2 &&& (4 : Int32)) = (0 : Int32)) then (1 : Int32) else (0 : Int32))), .val (.ref b47), .val (.double (FP.i2d (p4 &&& (65535 : Int32)))), .second, .val (.ref b63), .val (.int (if ¬ ((p2 &&& (4 : Int32)) = (0 : Int32)) then p1 else p0)), .val (.int (if (p2 &&& (1 : Int32)) = (0 : Int32) then (1 : Int32) else (if (p2 &&& (4 : Int32)) = (0 : Int32) then (1 : Int32) else (if p0 = p1 then (1 : Int32) else (0 : Int32)))))] [(.int (1 : Int32))])) (fun t kk => ?_) ?_
    · show Steps p.tables e below (T95.setTop (mkF m 142 #[.val (.int p0), .val (.int p1), .val (.int p2), .val (.int p3), .val (.int p4), .val (.int (if ¬ ((p2 &&& (1 : Int32)) = (0 : Int32)) then (1 : Int32) else (0 : Int32))), .val (.int (if ¬ ((p2 &&& (2 : Int32)) = (0 : Int32)) then (1 : Int32) else (0 : Int32))), .val (.int (if ¬ ((p2 &&& (4 : Int32)) = (0 : Int32)) then (1 : Int32) else (0 : Int32))), .val (.ref b47), .val (.double (FP.i2d (p4 &&& (65535 : Int32)))), .second, .val (.ref b63), .val (.int (if ¬ ((p2 &&& (4 : Int32)) = (0 : Int32)) then p1 else p0)), .val (.int (if (p2 &&& (1 : Int32)) = (0 : Int32) then (1 : Int32) else (if (p2 &&& (4 : Int32)) = (0 : Int32) then (1 : Int32) else (if p0 = p1 then (1 : Int32) else (0 : Int32)))))] [(.int (if (if ¬ ((p2 &&& (1 : Int32)) = (0 : Int32)) then (1 : Int32) else (0 : Int32)) = (0 : Int32) ∨ (if ¬ ((p2 &&& (4 : Int32)) = (0 : Int32)) then p1 else p0) = p0 then (1 : Int32) else (0 : Int32)))])) t
      refine XS.iload P96.here P96.x rfl (hb hby at_142) rfl ?_
      show Steps p.tables e below (T95.setTop (mkF m 144 #[.val (.int p0), .val (.int p1), .val (.int p2), .val (.int p3), .val (.int p4), .val (.int (if ¬ ((p2 &&& (1 : Int32)) = (0 : Int32)) then (1 : Int32) else (0 : Int32))), .val (.int (if ¬ ((p2 &&& (2 : Int32)) = (0 : Int32)) then (1 : Int32) else (0 : Int32))), .val (.int (if ¬ ((p2 &&& (4 : Int32)) = (0 : Int32)) then (1 : Int32) else (0 : Int32))), .val (.ref b47), .val (.double (FP.i2d (p4 &&& (65535 : Int32)))), .second, .val (.ref b63), .val (.int (if ¬ ((p2 &&& (4 : Int32)) = (0 : Int32)) then p1 else p0)), .val (.int (if (p2 &&& (1 : Int32)) = (0 : Int32) then (1 : Int32) else (if (p2 &&& (4 : Int32)) = (0 : Int32) then (1 : Int32) else (if p0 = p1 then (1 : Int32) else (0 : Int32)))))] [(.int (if (p2 &&& (1 : Int32)) = (0 : Int32) then (1 : Int32) else (if (p2 &&& (4 : Int32)) = (0 : Int32) then (1 : Int32) else (if p0 = p1 then (1 : Int32) else (0 : Int32))))), (.int (if (if ¬ ((p2 &&& (1 : Int32)) = (0 : Int32)) then (1 : Int32) else (0 : Int32)) = (0 : Int32) ∨ (if ¬ ((p2 &&& (4 : Int32)) = (0 : Int32)) then p1 else p0) = p0 then (1 : Int32) else (0 : Int32)))])) t
      refine XS.icmpNo P96.here P96.x rfl (hb hby at_144) rfl (iiW_ne_f (not_not_intro (own_fin _ _ _ _))) ?_
      show Steps p.tables e below (T95.setTop (mkF m 147 #[.val (.int p0), .val (.int p1), .val (.int p2), .val (.int p3), .val (.int p4), .val (.int (if ¬ ((p2 &&& (1 : Int32)) = (0 : Int32)) then (1 : Int32) else (0 : Int32))), .val (.int (if ¬ ((p2 &&& (2 : Int32)) = (0 : Int32)) then (1 : Int32) else (0 : Int32))), .val (.int (if ¬ ((p2 &&& (4 : Int32)) = (0 : Int32)) then (1 : Int32) else (0 : Int32))), .val (.ref b47), .val (.double (FP.i2d (p4 &&& (65535 : Int32)))), .second, .val (.ref b63), .val (.int (if ¬ ((p2 &&& (4 : Int32)) = (0 : Int32)) then p1 else p0)), .val (.int (if (p2 &&& (1 : Int32)) = (0 : Int32) then (1 : Int32) else (if (p2 &&& (4 : Int32)) = (0 : Int32) then (1 : Int32) else (if p0 = p1 then (1 : Int32) else (0 : Int32)))))] [])) t
      refine XS.iconst P96.here P96.x rfl (hb hby at_147) ?_
      show Steps p.tables e below (T95.setTop (mkF m 148 #[.val (.int p0), .val (.int p1), .val (.int p2), .val (.int p3), .val (.int p4), .val (.int (if ¬ ((p2 &&& (1 : Int32)) = (0 : Int32)) then (1 : Int32) else (0 : Int32))), .val (.int (if ¬ ((p2 &&& (2 : Int32)) = (0 : Int32)) then (1 : Int32) else (0 : Int32))), .val (.int (if ¬ ((p2 &&& (4 : Int32)) = (0 : Int32)) then (1 : Int32) else (0 : Int32))), .val (.ref b47), .val (.double (FP.i2d (p4 &&& (65535 : Int32)))), .second, .val (.ref b63), .val (.int (if ¬ ((p2 &&& (4 : Int32)) = (0 : Int32)) then p1 else p0)), .val (.int (if (p2 &&& (1 : Int32)) = (0 : Int32) then (1 : Int32) else (if (p2 &&& (4 : Int32)) = (0 : Int32) then (1 : Int32) else (if p0 = p1 then (1 : Int32) else (0 : Int32)))))] [(.int (1 : Int32))])) t
      refine XS.goto P96.here P96.x rfl (pc0 := 148) (pc' := 152) rfl (hb hby at_148) (by decide) (by decide) ?_
      exact kk
    show Done _ _ _ _ _ _ _ _ _ _ _ _ _ _ _ T95 (mkF m 152 #[.val (.int p0), .val (.int p1), .val (.int p2), .val (.int p3), .val (.int p4), .val (.int (if ¬ ((p2 &&& (1 : Int32)) = (0 : Int32)) then (1 : Int32) else (0 : Int32))), .val (.int (if ¬ ((p2 &&& (2 : Int32)) = (0 : Int32)) then (1 : Int32) else (0 : Int32))), .val (.int (if ¬ ((p2 &&& (4 : Int32)) = (0 : Int32)) then (1 : Int32) else (0 : Int32))), .val (.ref b47), .val (.double (FP.i2d (p4 &&& (65535 : Int32)))), .second, .val (.ref b63), .val (.int (if ¬ ((p2 &&& (4 : Int32)) = (0 : Int32)) then p1 else p0)), .val (.int (if (p2 &&& (1 : Int32)) = (0 : Int32) then (1 : Int32) else (if (p2 &&& (4 : Int32)) = (0 : Int32) then (1 : Int32) else (if p0 = p1 then (1 : Int32) else (0 : Int32)))))] [(.int (1 : Int32))])
    exact wRet P96 (t := .boolean) hret (narrow_01 (Or.inr rfl)) (Or.inl ⟨rfl, Or.inr (Or.inl rfl), _, rfl⟩) (hb hby at_152) rfl
set_option maxRecDepth 65536 in
set_option maxHeartbeats 4000000 in
theorem comes_1 {Post : Tables → Env → Array Value → State → Outcome → State → Prop} (hpost : ∀ tb e args s v u, (limb_1_1.after args s (.returned v) u = true ∧ limb_1_2.after args s (.returned v) u = true ∧ True) → FrameEnd s (.returned v) u (Jvm.fieldLocs frame_1_writes args s ++ Jvm.arrayLocs frame_1_arrays args s ++ Jvm.staticLocs frame_1_statics s) 16 128 → Post tb e args s (.returned v) u) :
    ArmFor flags0 classFile x code maxLocals ret World_1 tables_1 room_1 Calls_1 rest_1 Pre_1 Post := by
  intro l hfl _ _ p e ha hc hk s m args below hf hA hF happ hP
  obtain ⟨hcalls, hrest, hpre⟩ := hP
  obtain ⟨-, -, -, hnamed, -, -, -, hat⟩ := (Spec.applies_iff hf).mp happ
  obtain ⟨hg, hn⟩ := and_e (Cond.before_iff.mp (show (Jvm.Cond.and given_1 narrow_1).before args s = true from hpre))
  obtain ⟨h1, g0⟩ := and_e hg
  obtain ⟨q0, g1⟩ := and_e g0
  obtain ⟨q1, g2⟩ := and_e g1
  obtain ⟨q2, g3⟩ := and_e g2
  obtain ⟨q3, g4⟩ := and_e g3
  obtain ⟨w0, w1, w2, w3, w4, rfl⟩ : ∃ w0 w1 w2 w3 w4 : Value, args = #[w0, w1, w2, w3, w4] := by
    have hs : args.size = 5 := by simpa [Cond.value, given_1] using h1
    obtain ⟨L⟩ := args
    match L, hs with
    | [w0, w1, w2, w3, w4], _ => exact ⟨w0, w1, w2, w3, w4, rfl⟩
  have hw := fun d (hd : d ∈ tables_1) => atoms_spec (ws := Jvm.Cond.code x code maxLocals ret :: tables_1) hat d (List.mem_cons_of_mem _ hd)
  have hfit : Fit s := fun {y c} hc i hi => by
    obtain ⟨ha, rfl⟩ := Array.getElem?_eq_some_iff.mp hc
    have q := List.all_eq_true.mp ((Array.all_eq_true_iff_forall_mem.mp hF) _ (Array.getElem_mem ha)) i (List.mem_range.mpr hi)
    simpa [Array.getElem?_eq_getElem hi] using q
  obtain ⟨i0, e0⟩ := is_v q0
  obtain rfl : w0 = (.int i0) := Option.some.inj e0
  obtain ⟨i1, e1⟩ := is_v q1
  obtain rfl : w1 = (.int i1) := Option.some.inj e1
  obtain ⟨i2, e2⟩ := is_v q2
  obtain rfl : w2 = (.int i2) := Option.some.inj e2
  obtain ⟨i3, e3⟩ := is_v q3
  obtain rfl : w3 = (.int i3) := Option.some.inj e3
  obtain ⟨i4, e4⟩ := is_v g4
  obtain rfl : w4 = (.int i4) := Option.some.inj e4
  obtain ⟨hsets, hown0⟩ := atoms_of _ (rest_1_c_eq ▸ (show rest_1_c.before _ s = true from hrest))
  have nCS := not_v (Cond.before_iff.mp (hsets _ (List.mem_of_getElem? (i := 2) rfl)))
  obtain ⟨cs, eCS⟩ := is_v (Cond.before_iff.mp (hsets _ (List.mem_of_getElem? (i := 1) rfl)))
  have S0 : Sta s s.heap "java/lang/String" "COMPACT_STRINGS" "Z" (.int cs) := Sta.start eCS (Or.inl (hsets _ (List.mem_of_getElem? (i := 0) rfl)))
  have hcs : ¬ (cs = (0 : Int32)) := gotF (Cond.eq_ints eCS (Term.int_eval (0))) nCS
  obtain ⟨n, o, h1, h2, h3, _, L, rfl, ⟨rfl, N, -⟩, hq⟩ := m_law l s _ hw hsets i0 i1 i2 i3 i4 cs s.heap S0 hcs p e ha hc hk s m _ below hf ((Spec.applies_iff_loose hf).mp happ).1 ⟨rfl, State.Warmed39.refl s, rfl⟩ trivial
  refine ⟨n, _, h1, h2, h3, hpost _ _ _ _ _ _ ⟨Cond.after_iff.mpr rfl, Cond.after_iff.mpr (eq_i res_at (Term.int_eval (1)) rfl), trivial⟩ ⟨hq.1, hq.2.1, (hq.2.2.sift fun y hy => Or.inr ((N y hy).resolve_left (by simp))).mono (by decide) (by decide)⟩⟩
theorem main_1_1 : Claimed_1_1 := comes_1 fun _ _ _ _ _ _ h hF => ⟨h.1, hF⟩
theorem main_1_2 : Claimed_1_2 := comes_1 fun _ _ _ _ _ _ h hF => ⟨h.2.1, hF⟩
end Jvm.Pilot.@@N@@
namespace Jvm.Pilot.@@N@@
open Jvm Jvm.ClassFile Sem Op Lib Jvm.Free Jvm.Stand Jvm.Pilot.@@N@@.Jvm.D
/-! MADE BY PROGRAM (witnessworld.py) out of the Statement's table words and the real class files: 17 classes; the members and pool entries that the words name. The judged class is class 1, her method 1. -/
namespace start1
open Jvm.ClassFile
def u (s : String) : CpInfo := .utf8 (stringToUtf16 s)
/-- a pool by its gaps: so many unusable entries, then the entry; so many at the end -/
def gap : Nat → List CpInfo → List CpInfo
  | 0, r => r
  | n + 1, r => .unusable :: gap n r
def poolList (es : List (Nat × CpInfo)) (last : Nat) : List CpInfo := es.foldr (fun e r => gap e.1 (e.2 :: r)) (gap last [])
def pool (es : List (Nat × CpInfo)) (last : Nat) : Array CpInfo := ⟨poolList es last⟩
def fileOf (pool : Array CpInfo) (this : Nat) (attrs : Array Attribute := #[]) (ms : Array MethodInfo := #[]) (fl : Nat := 33) (sup : Nat := 0) (ifs : Array Nat := #[]) (fds : Array FieldInfo := #[]) : ClassFile where
  minorVersion := 0
  majorVersion := 65
  constantPool := pool
  accessFlags := fl
  thisClass := this
  superClass := sup
  interfaces := ifs
  fields := fds
  methods := ms
  attributes := attrs
def plain (name : String) (sup : Option ClassId) : Class where
  name := name
  kind := .ordinary
  loader := none
  accessFlags := 33
  super := sup
  interfaces := #[]
  cf := none
  fields := #[]
  methods := #[]
  instanceTypes := #[]
  staticTypes := #[]
  resolved := #[]
  callSites := []
  init := .initialized
  statics := none
  mirror := none

def pool0 : Array CpInfo := pool [(5, u "<init>"), (0, u "()V"), (1, .class_ 10), (1, u "java/lang/Object")] 113

def k0c0 : Code := { maxStack := 0, maxLocals := 1, code := object_method_1_code, exceptionTable := #[], attributes := #[] }
def k0m0 : Method := { name := "<init>", desc := "()V", sig := { parameters := [], returnType := none }, accessFlags := 1, code := some k0c0 }
/-- java/lang/Object -/
def k0 : Class := { plain "java/lang/Object" none with
  accessFlags := 33
  interfaces := #[]
  cf := some (fileOf pool0 8 #[] #[{ accessFlags := 1, nameIndex := 5, descriptorIndex := 6, attributes := #[] }] 33 0 #[] #[])
  fields := #[]
  methods := #[k0m0]
  instanceTypes := #[]
  staticTypes := #[]
  resolved := Array.replicate 124 none
  statics := none }

def pool1 : Array CpInfo := pool [(2, .class_ 4), (1, u "java/lang/Object"), (0, u "<init>"), (0, u "()V"), (0, .methodref 8 9), (0, .class_ 10), (0, .nameAndType 11 12), (0, u "java/lang/String"), (0, u "valueOf"), (0, u "(C)Ljava/lang/String;"), (0, .integer 65535), (0, .class_ 15), (0, u "com/example/roundsmith/roundsmith/network/Street"), (0, .methodref 14 17), (0, .nameAndType 5 18), (0, u "(IIIDZZLjava/lang/String;)V"), (0, .methodref 14 20), (0, .nameAndType 21 22), (0, u "drivableFrom"), (0, u "(I)Z"), (0, .class_ 24), (0, u "com/example/roundsmith/roundsmith/network/StreetDrivableFromPinLaw"), (2, u "law"), (0, u "(IIIII)Z")] 3

def k1m0 : Method := { name := "<init>", desc := "()V", sig := { parameters := [], returnType := none }, accessFlags := 1, code := none }
def k1c1 : Code := { maxStack := 10, maxLocals := 14, code := code, exceptionTable := #[], attributes := #[] }
def k1m1 : Method := { name := "law", desc := "(IIIII)Z", sig := { parameters := [.int, .int, .int, .int, .int], returnType := some .boolean }, accessFlags := 9, code := some k1c1 }
/-- com/example/roundsmith/roundsmith/network/StreetDrivableFromPinLaw -/
def k1 : Class := { plain "com/example/roundsmith/roundsmith/network/StreetDrivableFromPinLaw" (some 0) with
  accessFlags := 49
  interfaces := #[]
  cf := some (fileOf pool1 23 #[] #[{ accessFlags := 1, nameIndex := 5, descriptorIndex := 6, attributes := #[] }, { accessFlags := 9, nameIndex := 27, descriptorIndex := 28, attributes := #[] }] 49 2 #[] #[])
  fields := #[]
  methods := #[k1m0, k1m1]
  instanceTypes := #[]
  staticTypes := #[]
  resolved := Array.replicate 32 none
  statics := none }

def pool2 : Array CpInfo := pool [(1, .methodref 2 3), (0, .class_ 4), (0, .nameAndType 5 6), (0, u "java/lang/Object"), (0, u "<init>"), (0, u "()V"), (0, .fieldref 8 9), (0, .class_ 10), (0, .nameAndType 11 12), (0, u "com/example/roundsmith/roundsmith/network/Street"), (0, u "index"), (0, u "I"), (0, .fieldref 8 14), (0, .nameAndType 15 12), (0, u "from"), (0, .fieldref 8 17), (0, .nameAndType 18 12), (0, u "to"), (0, .fieldref 8 20), (0, .nameAndType 21 22), (0, u "length"), (0, u "D"), (0, .fieldref 8 24), (0, .nameAndType 25 26), (0, u "required"), (0, u "Z"), (0, .fieldref 8 28), (0, .nameAndType 29 26), (0, u "oneWay"), (0, .fieldref 8 31), (0, .nameAndType 32 33), (0, u "name"), (0, u "Ljava/lang/String;"), (0, u "(IIIDZZLjava/lang/String;)V"), (6, u "drivableFrom"), (0, u "(I)Z")] 3

def k2c0 : Code := { maxStack := 3, maxLocals := 9, code := prog_6_method_1_code, exceptionTable := #[], attributes := #[] }
def k2m0 : Method := { name := "<init>", desc := "(IIIDZZLjava/lang/String;)V", sig := { parameters := [.int, .int, .int, .double, .boolean, .boolean, (.object "java/lang/String")], returnType := none }, accessFlags := 0, code := some k2c0 }
def k2c1 : Code := { maxStack := 2, maxLocals := 2, code := prog_6_method_9_code, exceptionTable := #[], attributes := #[] }
def k2m1 : Method := { name := "drivableFrom", desc := "(I)Z", sig := { parameters := [.int], returnType := some .boolean }, accessFlags := 1, code := some k2c1 }
/-- com/example/roundsmith/roundsmith/network/Street -/
def k2 : Class := { plain "com/example/roundsmith/roundsmith/network/Street" (some 0) with
  accessFlags := 49
  interfaces := #[]
  cf := some (fileOf pool2 8 #[] #[{ accessFlags := 0, nameIndex := 5, descriptorIndex := 34, attributes := #[] }, { accessFlags := 1, nameIndex := 41, descriptorIndex := 42, attributes := #[] }] 49 2 #[] #[{ accessFlags := 18, nameIndex := 11, descriptorIndex := 12, attributes := #[] }, { accessFlags := 18, nameIndex := 15, descriptorIndex := 12, attributes := #[] }, { accessFlags := 18, nameIndex := 18, descriptorIndex := 12, attributes := #[] }, { accessFlags := 18, nameIndex := 21, descriptorIndex := 22, attributes := #[] }, { accessFlags := 18, nameIndex := 25, descriptorIndex := 26, attributes := #[] }, { accessFlags := 18, nameIndex := 29, descriptorIndex := 26, attributes := #[] }, { accessFlags := 18, nameIndex := 32, descriptorIndex := 33, attributes := #[] }])
  fields := #[{ name := "index", type := .int, accessFlags := 18, slot := 0, constantValue := 0 }, { name := "from", type := .int, accessFlags := 18, slot := 1, constantValue := 0 }, { name := "to", type := .int, accessFlags := 18, slot := 2, constantValue := 0 }, { name := "length", type := .double, accessFlags := 18, slot := 3, constantValue := 0 }, { name := "required", type := .boolean, accessFlags := 18, slot := 4, constantValue := 0 }, { name := "oneWay", type := .boolean, accessFlags := 18, slot := 5, constantValue := 0 }, { name := "name", type := (.object "java/lang/String"), accessFlags := 18, slot := 6, constantValue := 0 }]
  methods := #[k2m0, k2m1]
  instanceTypes := #[.int, .int, .int, .double, .boolean, .boolean, (.object "java/lang/String")]
  staticTypes := #[]
  resolved := Array.replicate 46 none
  statics := none }

def pool3 : Array CpInfo := pool [(1, .class_ 2), (0, u "java/io/Serializable"), (0, .class_ 4), (0, u "java/lang/Object")] 2

/-- java/io/Serializable -/
def k3 : Class := { plain "java/io/Serializable" (some 0) with
  accessFlags := 1537
  interfaces := #[]
  cf := some (fileOf pool3 1 #[] #[] 1537 3 #[] #[])
  fields := #[]
  methods := #[]
  instanceTypes := #[]
  staticTypes := #[]
  resolved := Array.replicate 7 none
  statics := none }

def pool4 : Array CpInfo := pool [(1, .class_ 2), (0, u "java/lang/Comparable"), (0, .class_ 4), (0, u "java/lang/Object")] 7

/-- java/lang/Comparable -/
def k4 : Class := { plain "java/lang/Comparable" (some 0) with
  accessFlags := 1537
  interfaces := #[]
  cf := some (fileOf pool4 1 #[] #[] 1537 3 #[] #[])
  fields := #[]
  methods := #[]
  instanceTypes := #[]
  staticTypes := #[]
  resolved := Array.replicate 12 none
  statics := none }

def pool5 : Array CpInfo := pool [(2, .class_ 4), (1, u "java/lang/CharSequence"), (42, .class_ 48), (0, u "java/lang/CharSequence$1CodePointIterator"), (10, .class_ 60), (0, u "java/lang/CharSequence$1CharIterator"), (5, .class_ 67), (0, u "java/lang/Object")] 63

/-- java/lang/CharSequence -/
def k5 : Class := { plain "java/lang/CharSequence" (some 0) with
  accessFlags := 1537
  interfaces := #[]
  cf := some (fileOf pool5 2 #[.nestMembers #[47, 59]] #[] 1537 66 #[] #[])
  fields := #[]
  methods := #[]
  instanceTypes := #[]
  staticTypes := #[]
  resolved := Array.replicate 131 none
  statics := none }

def pool6 : Array CpInfo := pool [(1, .class_ 2), (0, u "java/lang/constant/Constable"), (0, .class_ 4), (0, u "java/lang/Object")] 6

/-- java/lang/constant/Constable -/
def k6 : Class := { plain "java/lang/constant/Constable" (some 0) with
  accessFlags := 1537
  interfaces := #[]
  cf := some (fileOf pool6 1 #[] #[] 1537 3 #[] #[])
  fields := #[]
  methods := #[]
  instanceTypes := #[]
  staticTypes := #[]
  resolved := Array.replicate 11 none
  statics := none }

def pool7 : Array CpInfo := pool [(1, .class_ 2), (0, u "java/lang/constant/ConstantDesc"), (0, .class_ 4), (0, u "java/lang/Object")] 32

/-- java/lang/constant/ConstantDesc -/
def k7 : Class := { plain "java/lang/constant/ConstantDesc" (some 0) with
  accessFlags := 1537
  interfaces := #[]
  cf := some (fileOf pool7 1 #[] #[] 1537 3 #[] #[])
  fields := #[]
  methods := #[]
  instanceTypes := #[]
  staticTypes := #[]
  resolved := Array.replicate 37 none
  statics := none }

def pool8 : Array CpInfo := pool [(1, .methodref 2 3), (0, .class_ 4), (0, .nameAndType 5 6), (0, u "java/lang/Object"), (0, u "<init>"), (0, u "()V"), (2, .fieldref 10 11), (0, .class_ 12), (0, .nameAndType 13 14), (0, u "java/lang/String"), (0, u "value"), (0, u "[B"), (0, .fieldref 10 16), (0, .nameAndType 17 18), (0, u "coder"), (0, u "B"), (2, u "hash"), (0, u "I"), (2, u "hashIsZero"), (0, u "Z"), (11, .fieldref 10 39), (0, .nameAndType 40 26), (0, u "COMPACT_STRINGS"), (12, u "toBytes"), (53, .class_ 109), (1, u "java/lang/StringLatin1"), (99, .methodref 10 210), (0, .nameAndType 5 211), (0, u "([BB)V"), (157, u "(C)Z"), (205, .class_ 576), (0, u "java/lang/CharSequence"), (22, u "CASE_INSENSITIVE_ORDER"), (0, u "Ljava/util/Comparator;"), (181, u "valueOf"), (0, u "(C)Ljava/lang/String;"), (231, .methodref 107 1016), (0, .nameAndType 1017 369), (0, u "canEncode"), (0, .methodref 107 1019), (0, .nameAndType 53 1020), (0, u "(C)[B"), (80, u "serialPersistentFields"), (0, u "[Ljava/io/ObjectStreamField;"), (0, .class_ 1104), (0, u "java/lang/String$CaseInsensitiveComparator"), (1, .class_ 1107), (0, u "java/io/Serializable"), (0, .class_ 1109), (0, u "java/lang/Comparable"), (0, .class_ 1111), (0, u "java/lang/constant/Constable"), (0, .class_ 1113), (0, u "java/lang/constant/ConstantDesc"), (2, u "serialVersionUID"), (0, u "J"), (3, u "REPL"), (0, u "C"), (2, u "LATIN1"), (1, u "UTF16")] 323

def k8m0 : Method := { name := "<init>", desc := "()V", sig := { parameters := [], returnType := none }, accessFlags := 1, code := none }
def k8c1 : Code := { maxStack := 4, maxLocals := 1, code := jdk_42_method_139_code, exceptionTable := #[], attributes := #[] }
def k8m1 : Method := { name := "valueOf", desc := "(C)Ljava/lang/String;", sig := { parameters := [.char], returnType := some (.object "java/lang/String") }, accessFlags := 9, code := some k8c1 }
def k8c2 : Code := { maxStack := 2, maxLocals := 3, code := jdk_42_method_151_code, exceptionTable := #[], attributes := #[] }
def k8m2 : Method := { name := "<init>", desc := "([BB)V", sig := { parameters := [(.array .byte), .byte], returnType := none }, accessFlags := 0, code := some k8c2 }
/-- java/lang/String -/
def k8 : Class := { plain "java/lang/String" (some 0) with
  accessFlags := 49
  interfaces := #[3, 4, 5, 6, 7]
  cf := some (fileOf pool8 10 #[.nestMembers #[1103]] #[{ accessFlags := 1, nameIndex := 5, descriptorIndex := 6, attributes := #[] }, { accessFlags := 9, nameIndex := 782, descriptorIndex := 783, attributes := #[] }, { accessFlags := 0, nameIndex := 5, descriptorIndex := 211, attributes := #[] }] 49 2 #[1106, 1108, 575, 1110, 1112] #[{ accessFlags := 18, nameIndex := 13, descriptorIndex := 14, attributes := #[] }, { accessFlags := 18, nameIndex := 17, descriptorIndex := 18, attributes := #[] }, { accessFlags := 2, nameIndex := 21, descriptorIndex := 22, attributes := #[] }, { accessFlags := 2, nameIndex := 25, descriptorIndex := 26, attributes := #[] }, { accessFlags := 26, nameIndex := 1116, descriptorIndex := 1117, attributes := #[] }, { accessFlags := 24, nameIndex := 40, descriptorIndex := 26, attributes := #[] }, { accessFlags := 26, nameIndex := 1101, descriptorIndex := 1102, attributes := #[] }, { accessFlags := 26, nameIndex := 1121, descriptorIndex := 1122, attributes := #[] }, { accessFlags := 25, nameIndex := 599, descriptorIndex := 600, attributes := #[] }, { accessFlags := 24, nameIndex := 1125, descriptorIndex := 18, attributes := #[] }, { accessFlags := 24, nameIndex := 1127, descriptorIndex := 18, attributes := #[] }])
  fields := #[{ name := "value", type := (.array .byte), accessFlags := 18, slot := 0, constantValue := 0 }, { name := "coder", type := .byte, accessFlags := 18, slot := 1, constantValue := 0 }, { name := "hash", type := .int, accessFlags := 2, slot := 2, constantValue := 0 }, { name := "hashIsZero", type := .boolean, accessFlags := 2, slot := 3, constantValue := 0 }, { name := "serialVersionUID", type := .long, accessFlags := 26, slot := 0, constantValue := 0 }, { name := "COMPACT_STRINGS", type := .boolean, accessFlags := 24, slot := 1, constantValue := 0 }, { name := "serialPersistentFields", type := (.array (.object "java/io/ObjectStreamField")), accessFlags := 26, slot := 2, constantValue := 0 }, { name := "REPL", type := .char, accessFlags := 26, slot := 3, constantValue := 0 }, { name := "CASE_INSENSITIVE_ORDER", type := (.object "java/util/Comparator"), accessFlags := 25, slot := 4, constantValue := 0 }, { name := "LATIN1", type := .byte, accessFlags := 24, slot := 5, constantValue := 0 }, { name := "UTF16", type := .byte, accessFlags := 24, slot := 6, constantValue := 0 }]
  methods := #[k8m0, k8m1, k8m2]
  instanceTypes := #[(.array .byte), .byte, .int, .boolean]
  staticTypes := #[.long, .boolean, (.array (.object "java/io/ObjectStreamField")), .char, (.object "java/util/Comparator"), .byte, .byte]
  resolved := Array.replicate 1451 none
  statics := some 0 }

def pool9 : Array CpInfo := pool [(4, .class_ 6), (1, u "java/lang/Object"), (0, u "<init>"), (0, u "()V"), (5, .class_ 16), (1, u "java/lang/StringLatin1"), (73, u "canEncode"), (14, u "(C)Z"), (15, u "$assertionsDisabled"), (0, u "Z"), (98, .class_ 223), (1, u "java/lang/StringLatin1$LinesSpliterator"), (156, u "toBytes"), (1, u "(C)[B"), (7, .class_ 391), (0, u "java/lang/StringLatin1$CharsSpliterator")] 3

def k9m0 : Method := { name := "<init>", desc := "()V", sig := { parameters := [], returnType := none }, accessFlags := 0, code := none }
def k9c1 : Code := { maxStack := 2, maxLocals := 1, code := jdk_43_method_3_code, exceptionTable := #[], attributes := #[] }
def k9m1 : Method := { name := "canEncode", desc := "(C)Z", sig := { parameters := [.char], returnType := some .boolean }, accessFlags := 9, code := some k9c1 }
def k9c2 : Code := { maxStack := 4, maxLocals := 1, code := jdk_43_method_46_code, exceptionTable := #[], attributes := #[] }
def k9m2 : Method := { name := "toBytes", desc := "(C)[B", sig := { parameters := [.char], returnType := some (.array .byte) }, accessFlags := 9, code := some k9c2 }
/-- java/lang/StringLatin1 -/
def k9 : Class := { plain "java/lang/StringLatin1" (some 0) with
  accessFlags := 48
  interfaces := #[]
  cf := some (fileOf pool9 14 #[.nestMembers #[390, 221]] #[{ accessFlags := 0, nameIndex := 7, descriptorIndex := 8, attributes := #[] }, { accessFlags := 9, nameIndex := 90, descriptorIndex := 105, attributes := #[] }, { accessFlags := 9, nameIndex := 380, descriptorIndex := 382, attributes := #[] }] 48 4 #[] #[{ accessFlags := 4120, nameIndex := 121, descriptorIndex := 122, attributes := #[] }])
  fields := #[{ name := "$assertionsDisabled", type := .boolean, accessFlags := 4120, slot := 0, constantValue := 0 }]
  methods := #[k9m0, k9m1, k9m2]
  instanceTypes := #[]
  staticTypes := #[.boolean]
  resolved := Array.replicate 395 none
  statics := none }

def pool10 : Array CpInfo := pool [(2, .class_ 4), (1, u "java/lang/Object"), (0, u "<init>"), (0, u "()V"), (17, .class_ 26), (1, u "jdk/internal/util/Preconditions"), (28, .class_ 56), (0, u "jdk/internal/util/Preconditions$4"), (57, .class_ 115), (0, u "jdk/internal/util/Preconditions$1"), (7, u "SIOOBE_FORMATTER"), (0, u "Ljava/util/function/BiFunction;"), (0, .class_ 126), (0, u "jdk/internal/util/Preconditions$2"), (3, u "AIOOBE_FORMATTER"), (0, .class_ 132), (0, u "jdk/internal/util/Preconditions$3"), (3, u "IOOBE_FORMATTER")] 57

def k10m0 : Method := { name := "<init>", desc := "()V", sig := { parameters := [], returnType := none }, accessFlags := 1, code := none }
/-- jdk/internal/util/Preconditions -/
def k10 : Class := { plain "jdk/internal/util/Preconditions" (some 0) with
  accessFlags := 33
  interfaces := #[]
  cf := some (fileOf pool10 24 #[.nestMembers #[55, 131, 125, 114]] #[{ accessFlags := 1, nameIndex := 5, descriptorIndex := 6, attributes := #[] }] 33 2 #[] #[{ accessFlags := 25, nameIndex := 123, descriptorIndex := 124, attributes := #[] }, { accessFlags := 25, nameIndex := 130, descriptorIndex := 124, attributes := #[] }, { accessFlags := 25, nameIndex := 136, descriptorIndex := 124, attributes := #[] }])
  fields := #[{ name := "SIOOBE_FORMATTER", type := (.object "java/util/function/BiFunction"), accessFlags := 25, slot := 0, constantValue := 0 }, { name := "AIOOBE_FORMATTER", type := (.object "java/util/function/BiFunction"), accessFlags := 25, slot := 1, constantValue := 0 }, { name := "IOOBE_FORMATTER", type := (.object "java/util/function/BiFunction"), accessFlags := 25, slot := 2, constantValue := 0 }]
  methods := #[k10m0]
  instanceTypes := #[]
  staticTypes := #[(.object "java/util/function/BiFunction"), (.object "java/util/function/BiFunction"), (.object "java/util/function/BiFunction")]
  resolved := Array.replicate 194 none
  statics := some 1 }

def pool11 : Array CpInfo := pool [(9, u "<init>"), (6, .class_ 18), (1, u "java/lang/Object"), (0, u "()V"), (1, .class_ 23), (1, u "jdk/internal/util/ArraysSupport"), (0, u "LOG2_ARRAY_LONG_INDEX_SCALE"), (0, u "I"), (2, u "U"), (0, u "Ljdk/internal/misc/Unsafe;"), (8, u "BIG_ENDIAN"), (0, u "Z"), (8, u "LOG2_BYTE_BIT_SIZE"), (4, u "LOG2_ARRAY_INT_INDEX_SCALE"), (54, u "JLA"), (0, u "Ljdk/internal/access/JavaLangAccess;"), (11, u "LOG2_ARRAY_BOOLEAN_INDEX_SCALE"), (9, u "LOG2_ARRAY_BYTE_INDEX_SCALE"), (5, u "LOG2_ARRAY_CHAR_INDEX_SCALE"), (5, u "LOG2_ARRAY_SHORT_INDEX_SCALE"), (18, u "LOG2_ARRAY_FLOAT_INDEX_SCALE"), (24, u "LOG2_ARRAY_DOUBLE_INDEX_SCALE"), (89, u "T_BOOLEAN"), (2, u "T_CHAR"), (1, u "T_FLOAT"), (1, u "T_DOUBLE"), (1, u "T_BYTE"), (1, u "T_SHORT"), (1, u "T_INT"), (1, u "T_LONG"), (1, u "SOFT_MAX_ARRAY_LENGTH")] 83

def k11m0 : Method := { name := "<init>", desc := "()V", sig := { parameters := [], returnType := none }, accessFlags := 2, code := none }
/-- jdk/internal/util/ArraysSupport -/
def k11 : Class := { plain "jdk/internal/util/ArraysSupport" (some 0) with
  accessFlags := 33
  interfaces := #[]
  cf := some (fileOf pool11 21 #[] #[{ accessFlags := 2, nameIndex := 9, descriptorIndex := 19, attributes := #[] }] 33 16 #[] #[{ accessFlags := 24, nameIndex := 28, descriptorIndex := 29, attributes := #[] }, { accessFlags := 26, nameIndex := 38, descriptorIndex := 39, attributes := #[] }, { accessFlags := 25, nameIndex := 121, descriptorIndex := 25, attributes := #[] }, { accessFlags := 25, nameIndex := 131, descriptorIndex := 25, attributes := #[] }, { accessFlags := 25, nameIndex := 137, descriptorIndex := 25, attributes := #[] }, { accessFlags := 25, nameIndex := 143, descriptorIndex := 25, attributes := #[] }, { accessFlags := 25, nameIndex := 53, descriptorIndex := 25, attributes := #[] }, { accessFlags := 25, nameIndex := 24, descriptorIndex := 25, attributes := #[] }, { accessFlags := 25, nameIndex := 162, descriptorIndex := 25, attributes := #[] }, { accessFlags := 25, nameIndex := 187, descriptorIndex := 25, attributes := #[] }, { accessFlags := 26, nameIndex := 48, descriptorIndex := 25, attributes := #[] }, { accessFlags := 25, nameIndex := 277, descriptorIndex := 25, attributes := #[] }, { accessFlags := 25, nameIndex := 280, descriptorIndex := 25, attributes := #[] }, { accessFlags := 25, nameIndex := 282, descriptorIndex := 25, attributes := #[] }, { accessFlags := 25, nameIndex := 284, descriptorIndex := 25, attributes := #[] }, { accessFlags := 25, nameIndex := 286, descriptorIndex := 25, attributes := #[] }, { accessFlags := 25, nameIndex := 288, descriptorIndex := 25, attributes := #[] }, { accessFlags := 25, nameIndex := 290, descriptorIndex := 25, attributes := #[] }, { accessFlags := 25, nameIndex := 292, descriptorIndex := 25, attributes := #[] }, { accessFlags := 26, nameIndex := 108, descriptorIndex := 109, attributes := #[] }, { accessFlags := 25, nameIndex := 294, descriptorIndex := 25, attributes := #[] }])
  fields := #[{ name := "U", type := (.object "jdk/internal/misc/Unsafe"), accessFlags := 24, slot := 0, constantValue := 0 }, { name := "BIG_ENDIAN", type := .boolean, accessFlags := 26, slot := 1, constantValue := 0 }, { name := "LOG2_ARRAY_BOOLEAN_INDEX_SCALE", type := .int, accessFlags := 25, slot := 2, constantValue := 0 }, { name := "LOG2_ARRAY_BYTE_INDEX_SCALE", type := .int, accessFlags := 25, slot := 3, constantValue := 0 }, { name := "LOG2_ARRAY_CHAR_INDEX_SCALE", type := .int, accessFlags := 25, slot := 4, constantValue := 0 }, { name := "LOG2_ARRAY_SHORT_INDEX_SCALE", type := .int, accessFlags := 25, slot := 5, constantValue := 0 }, { name := "LOG2_ARRAY_INT_INDEX_SCALE", type := .int, accessFlags := 25, slot := 6, constantValue := 0 }, { name := "LOG2_ARRAY_LONG_INDEX_SCALE", type := .int, accessFlags := 25, slot := 7, constantValue := 0 }, { name := "LOG2_ARRAY_FLOAT_INDEX_SCALE", type := .int, accessFlags := 25, slot := 8, constantValue := 0 }, { name := "LOG2_ARRAY_DOUBLE_INDEX_SCALE", type := .int, accessFlags := 25, slot := 9, constantValue := 0 }, { name := "LOG2_BYTE_BIT_SIZE", type := .int, accessFlags := 26, slot := 10, constantValue := 0 }, { name := "T_BOOLEAN", type := .int, accessFlags := 25, slot := 11, constantValue := 0 }, { name := "T_CHAR", type := .int, accessFlags := 25, slot := 12, constantValue := 0 }, { name := "T_FLOAT", type := .int, accessFlags := 25, slot := 13, constantValue := 0 }, { name := "T_DOUBLE", type := .int, accessFlags := 25, slot := 14, constantValue := 0 }, { name := "T_BYTE", type := .int, accessFlags := 25, slot := 15, constantValue := 0 }, { name := "T_SHORT", type := .int, accessFlags := 25, slot := 16, constantValue := 0 }, { name := "T_INT", type := .int, accessFlags := 25, slot := 17, constantValue := 0 }, { name := "T_LONG", type := .int, accessFlags := 25, slot := 18, constantValue := 0 }, { name := "JLA", type := (.object "jdk/internal/access/JavaLangAccess"), accessFlags := 26, slot := 19, constantValue := 0 }, { name := "SOFT_MAX_ARRAY_LENGTH", type := .int, accessFlags := 25, slot := 20, constantValue := 0 }]
  methods := #[k11m0]
  instanceTypes := #[]
  staticTypes := #[(.object "jdk/internal/misc/Unsafe"), .boolean, .int, .int, .int, .int, .int, .int, .int, .int, .int, .int, .int, .int, .int, .int, .int, .int, .int, (.object "jdk/internal/access/JavaLangAccess"), .int]
  resolved := Array.replicate 378 none
  statics := none }

def pool12 : Array CpInfo := pool [(1, u "java/lang/Cloneable"), (0, .class_ 1), (0, u "java/lang/Object"), (0, .class_ 3)] 3

/-- java/lang/Cloneable -/
def k12 : Class := { plain "java/lang/Cloneable" (some 0) with
  accessFlags := 1537
  interfaces := #[]
  cf := some (fileOf pool12 2 #[] #[] 1537 4 #[] #[])
  fields := #[]
  methods := #[]
  instanceTypes := #[]
  staticTypes := #[]
  resolved := Array.replicate 8 none
  statics := none }

/-- the primitive byte -/
def k13 : Class := { plain "byte" none with kind := .primitive 'B', accessFlags := 0x411 }
/-- [B -/
def k14 : Class := { plain "[B" (some 0) with kind := .array 13 .byte, interfaces := #[12, 3], accessFlags := 1041 }

/-- the primitive int -/
def k15 : Class := { plain "int" none with kind := .primitive 'I', accessFlags := 0x411 }
/-- [I -/
def k16 : Class := { plain "[I" (some 0) with kind := .array 15 .int, interfaces := #[12, 3], accessFlags := 1041 }

def heap : Heap := #[{ cls := 8, slots := #[.long 0, .int 1, .null, .int 0, .null, .int 0, .int 0], vm := .statics 8 },
  { cls := 10, slots := #[.null, .null, .null], vm := .statics 10 }]
def classes : Array Class := #[k0, k1, k2, k3, k4, k5, k6, k7, k8, k9, k10, k11, k12, k13, k14, k15, k16]
def interned : List (Array UInt16 × Addr) := []
def slotsUsed : Nat := 10
def theMethod : MethodId := ⟨1, 1⟩
def args0 : Array Value := #[.int 5, .int 5, .int 5, .int 5, .int 5]
def aboutOver (below : List Frame) : State where
  vm := { classes := classes, interned := interned.toArray }
  heap := heap
  slotsUsed := slotsUsed
  threads := #[{ frames := .invoking theMethod args0 :: below }]
def below0 : List Frame := [.native { method := ⟨0, 0⟩, args := #[] }]
def about1 : State := aboutOver below0
def p0 : Program := .bare "" "" ""
def e0 : Env := launch0.env 0 0 0
theorem w_frames : about1.frames = Frame.invoking theMethod args0 :: below0 := rfl
set_option maxRecDepth 65536 in
theorem w_args : argsFit about1.vm theMethod args0 = true := by decide +kernel
set_option maxRecDepth 65536 in
theorem w_heap : heapFits about1 = true := by decide +kernel
set_option maxRecDepth 65536 in
theorem w_runnable : about1.curStatus? = some .runnable := by decide +kernel
set_option maxRecDepth 65536 in
theorem w_alone : about1.alone = true := by decide +kernel
set_option maxRecDepth 65536 in
theorem w_named : about1.methodNamed? x = some theMethod := by decide +kernel
set_option maxRecDepth 65536 in
theorem w_hears : about1.hears theMethod below0 = true := by decide +kernel
set_option maxRecDepth 65536 in
theorem w_ripe : about1.ripe theMethod args0 below0 = true := by decide +kernel
theorem w_running : about1.status = .running := rfl
set_option maxRecDepth 65536 in
theorem w_room : about1.hasRoom e0.platform room_1 = true :=
  launch0.hasRoom_least _ room_1 (by decide +kernel) (by decide +kernel) (by decide +kernel) (by decide +kernel) (by decide +kernel) (by decide +kernel)
theorem allAtoms_all (ts : List Jvm.Cond) (a : Array Jvm.Value) (st : Jvm.State) : (allAtoms ts).before a st = ts.all (fun c => c.before a st) := by
  induction ts with
  | nil => rfl
  | cons c t ih =>
    show (Jvm.Cond.and c (allAtoms t)).before a st = _
    rw [Jvm.Cond.before_and, ih, List.all_cons]
def words1 : List Jvm.Cond := Jvm.Cond.code x code maxLocals ret :: tables_1
/-- a 'code' word, met by the world's own term for the bytes: nothing is compared byte by byte -/
theorem code_word {y : MethodName} {bytes : ByteArray} {mx : Nat} {rt : Option FieldType} {a : Array Value} {s : State} {m : MethodId} {meth : Method} {c : Code} (h1 : s.methodNamed? y = some m) (h2 : s.vm.method? m = some meth) (h3 : meth.code = some c) (h4 : c.code = bytes)
    (h5 : (c.maxLocals == mx && c.exceptionTable.isEmpty && decide (c.maxStack ≤ mostOperands) && decide (meth.sig.returnType = rt) && !meth.locks && decide (parseMethodDescriptor y.desc = some meth.sig)) = true) : (Jvm.Cond.code y bytes mx rt).before a s = true := by
  simp only [Bool.and_eq_true, beq_iff_eq, Bool.not_eq_true', decide_eq_true_eq] at h5
  obtain ⟨⟨⟨⟨⟨g1, g2⟩, g3⟩, g4⟩, g5⟩, g6⟩ := h5
  simp [Cond.before, Cond.holds, Cond.value, h1, h2, h3, h4, g1, g2, g3, g4, g5, g6]
def isCode : Jvm.Cond → Bool
  | .code _ _ _ _ => true
  | _ => false
theorem all_split {L : List Jvm.Cond} {P : Jvm.Cond → Bool} (h1 : L.all (fun c => isCode c || P c) = true) (h2 : ∀ c ∈ L.filter isCode, P c = true) : L.all P = true := by
  refine List.all_eq_true.mpr fun c hc => ?_
  have h := List.all_eq_true.mp h1 c hc
  rcases Bool.eq_false_or_eq_true (isCode c) with hi | hi
  · exact h2 c (List.mem_filter.mpr ⟨hc, hi⟩)
  · simpa [hi] using h
set_option maxRecDepth 65536 in
theorem w_c0 : (Jvm.Cond.code x code maxLocals ret).before args0 about1 = true := code_word (m := ⟨1, 1⟩) (meth := k1m1) (c := k1c1) (by decide +kernel) rfl rfl rfl (by decide +kernel)
set_option maxRecDepth 65536 in
theorem w_c1 : (Jvm.Cond.code ({ cls := "com/example/roundsmith/roundsmith/network/Street", name := "<init>", desc := "(IIIDZZLjava/lang/String;)V" } : Jvm.MethodName) prog_6_method_1_code (9 : Nat) (Option.none : Option Jvm.ClassFile.FieldType)).before args0 about1 = true := code_word (m := ⟨2, 0⟩) (meth := k2m0) (c := k2c0) (by decide +kernel) rfl rfl rfl (by decide +kernel)
set_option maxRecDepth 65536 in
theorem w_c2 : (Jvm.Cond.code ({ cls := "java/lang/Object", name := "<init>", desc := "()V" } : Jvm.MethodName) object_method_1_code (1 : Nat) (Option.none : Option Jvm.ClassFile.FieldType)).before args0 about1 = true := code_word (m := ⟨0, 0⟩) (meth := k0m0) (c := k0c0) (by decide +kernel) rfl rfl rfl (by decide +kernel)
set_option maxRecDepth 65536 in
theorem w_c3 : (Jvm.Cond.code ({ cls := "com/example/roundsmith/roundsmith/network/Street", name := "drivableFrom", desc := "(I)Z" } : Jvm.MethodName) prog_6_method_9_code (2 : Nat) (Option.some Jvm.ClassFile.FieldType.boolean)).before args0 about1 = true := code_word (m := ⟨2, 1⟩) (meth := k2m1) (c := k2c1) (by decide +kernel) rfl rfl rfl (by decide +kernel)
set_option maxRecDepth 65536 in
theorem w_c4 : (Jvm.Cond.code ({ cls := "java/lang/String", name := "valueOf", desc := "(C)Ljava/lang/String;" } : Jvm.MethodName) jdk_42_method_139_code (1 : Nat) (Option.some (Jvm.ClassFile.FieldType.object "java/lang/String"))).before args0 about1 = true := code_word (m := ⟨8, 1⟩) (meth := k8m1) (c := k8c1) (by decide +kernel) rfl rfl rfl (by decide +kernel)
set_option maxRecDepth 65536 in
theorem w_c5 : (Jvm.Cond.code ({ cls := "java/lang/StringLatin1", name := "canEncode", desc := "(C)Z" } : Jvm.MethodName) jdk_43_method_3_code (1 : Nat) (Option.some Jvm.ClassFile.FieldType.boolean)).before args0 about1 = true := code_word (m := ⟨9, 1⟩) (meth := k9m1) (c := k9c1) (by decide +kernel) rfl rfl rfl (by decide +kernel)
set_option maxRecDepth 65536 in
theorem w_c6 : (Jvm.Cond.code ({ cls := "java/lang/StringLatin1", name := "toBytes", desc := "(C)[B" } : Jvm.MethodName) jdk_43_method_46_code (1 : Nat) (Option.some (Jvm.ClassFile.FieldType.array Jvm.ClassFile.FieldType.byte))).before args0 about1 = true := code_word (m := ⟨9, 2⟩) (meth := k9m2) (c := k9c2) (by decide +kernel) rfl rfl rfl (by decide +kernel)
set_option maxRecDepth 65536 in
theorem w_c7 : (Jvm.Cond.code ({ cls := "java/lang/String", name := "<init>", desc := "([BB)V" } : Jvm.MethodName) jdk_42_method_151_code (3 : Nat) (Option.none : Option Jvm.ClassFile.FieldType)).before args0 about1 = true := code_word (m := ⟨8, 2⟩) (meth := k8m2) (c := k8c2) (by decide +kernel) rfl rfl rfl (by decide +kernel)
def codes1 : List Jvm.Cond := [Jvm.Cond.code x code maxLocals ret, Jvm.Cond.code ({ cls := "com/example/roundsmith/roundsmith/network/Street", name := "<init>", desc := "(IIIDZZLjava/lang/String;)V" } : Jvm.MethodName) prog_6_method_1_code (9 : Nat) (Option.none : Option Jvm.ClassFile.FieldType), Jvm.Cond.code ({ cls := "java/lang/Object", name := "<init>", desc := "()V" } : Jvm.MethodName) object_method_1_code (1 : Nat) (Option.none : Option Jvm.ClassFile.FieldType), Jvm.Cond.code ({ cls := "com/example/roundsmith/roundsmith/network/Street", name := "drivableFrom", desc := "(I)Z" } : Jvm.MethodName) prog_6_method_9_code (2 : Nat) (Option.some Jvm.ClassFile.FieldType.boolean), Jvm.Cond.code ({ cls := "java/lang/String", name := "valueOf", desc := "(C)Ljava/lang/String;" } : Jvm.MethodName) jdk_42_method_139_code (1 : Nat) (Option.some (Jvm.ClassFile.FieldType.object "java/lang/String")), Jvm.Cond.code ({ cls := "java/lang/StringLatin1", name := "canEncode", desc := "(C)Z" } : Jvm.MethodName) jdk_43_method_3_code (1 : Nat) (Option.some Jvm.ClassFile.FieldType.boolean), Jvm.Cond.code ({ cls := "java/lang/StringLatin1", name := "toBytes", desc := "(C)[B" } : Jvm.MethodName) jdk_43_method_46_code (1 : Nat) (Option.some (Jvm.ClassFile.FieldType.array Jvm.ClassFile.FieldType.byte)), Jvm.Cond.code ({ cls := "java/lang/String", name := "<init>", desc := "([BB)V" } : Jvm.MethodName) jdk_42_method_151_code (3 : Nat) (Option.none : Option Jvm.ClassFile.FieldType)]
set_option maxRecDepth 65536 in
theorem codes_eq : words1.filter isCode = codes1 := rfl
theorem w_codes : ∀ c ∈ words1.filter isCode, c.before args0 about1 = true := by
  rw [codes_eq]
  intro c hc
  simp only [codes1, List.mem_cons, List.not_mem_nil, or_false] at hc
  rcases hc with rfl | rfl | rfl | rfl | rfl | rfl | rfl | rfl
  · exact w_c0
  · exact w_c1
  · exact w_c2
  · exact w_c3
  · exact w_c4
  · exact w_c5
  · exact w_c6
  · exact w_c7
set_option maxRecDepth 65536 in
theorem w_t1 : (words1.take 24).all (fun c => isCode c || c.before args0 about1) = true := by decide +kernel
set_option maxRecDepth 65536 in
theorem w_t2 : ((words1.drop 24).take 24).all (fun c => isCode c || c.before args0 about1) = true := by decide +kernel
set_option maxRecDepth 65536 in
theorem w_t3 : ((words1.drop 24).drop 24).all (fun c => isCode c || c.before args0 about1) = true := by decide +kernel
theorem w_tables : (allAtoms (Jvm.Cond.code x code maxLocals ret :: tables_1)).before args0 about1 = true := by
  rw [allAtoms_all]
  show words1.all (fun c => c.before args0 about1) = true
  refine all_split ?_ w_codes
  rw [← List.take_append_drop 24 words1, List.all_append, w_t1, ← List.take_append_drop 24 (words1.drop 24), List.all_append, w_t2, w_t3]
  rfl
set_option maxRecDepth 65536 in
theorem w_rest : rest_1_c.before args0 about1 = true := by decide +kernel
set_option maxRecDepth 65536 in
theorem w_case : (Jvm.Cond.and given_1 narrow_1).before args0 about1 = true := by decide +kernel
theorem w_applies : (headSpec (Jvm.Cond.code x code maxLocals ret :: tables_1) room_1).applies x e0.platform about1 = true :=
  (Spec.applies_iff w_frames).mpr ⟨w_running, w_runnable, w_alone, w_named, w_hears, w_ripe, w_room, w_tables⟩
theorem atStart : AtStart classFile x code maxLocals ret World_1 tables_1 room_1 Calls_1 rest_1 Pre_1 launch0 p0 e0 about1 theMethod args0 below0 :=
  ⟨lists_1, trivial, launch0.admits_env _ _ _, launch0.least_env, fairChoices_fair.cas, fairChoices_fair.clock, w_frames, w_args, w_heap, w_applies, trivial, w_rest, w_case⟩
end start1
theorem witness_1 : WitnessClaimed_1 := ⟨start1.p0, start1.e0, start1.about1, start1.theMethod, start1.args0, start1.below0, start1.atStart⟩
end Jvm.Pilot.@@N@@
